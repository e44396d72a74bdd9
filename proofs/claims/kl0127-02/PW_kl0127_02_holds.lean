import PyProof.Rows.All
import Wide.All
import OpenK.AllK
import Wide.FinOn
import PyProof.StrLawsIn
import PySem.Challenge.RW_kl0127_02
set_option Elab.async false
set_option maxRecDepth 100000
set_option maxHeartbeats 0
set_option tactic.hygienic false
set_option backward.match.sparseCases false
set_option linter.all false
set_option genInjectivity false
set_option genSizeOf false
set_option compiler.extract_closed false
set_option genCtorIdx false
open PySem PySem.W PyProof.Rows PySem.Calls
abbrev Mine.Ω :Type:=Value→Shared→Prop
abbrev Mine.Ω1 (e:PySem.Expr):Prop:=∀ env,starEach [e] env = (false,eval e env) :: starEach [] env
abbrev Mine.Ω2 (e:PySem.Expr) (es:List PySem.Expr):Prop:=∀ env,starEach (e :: es) env = (false,eval e env) :: starEach es env
abbrev Mine.Ω3 (p:Pos) (e:PySem.Expr):Prop:=∀ env,(backTo p (starEach [e] env)).any (·.1) = false
abbrev Mine.Ω4 (iter:PySem.Expr):Prop:=∀ env x,foldedSetIterable iter env x = pure x
abbrev Mine.Ω5 (k:NameKind) (fr:List Str) (scope:Scope):Prop:=∀ x∈fr,(x,k)∈scope.names

local macro_rules
 |`(Z 1)=>`(by kernel_rfl)
 |`(Z 2)=>`(fun _=>rfl)
 |`(Z 5)=>`(fun _ _=>rfl)
 |`(Z 6)=>`(⟨fun _=>rfl,fun _=>rfl,rfl,fun _=>rfl⟩)
 |`(Z 8)=>`(⟨⟨_,fun _=>rfl⟩,fun _=>rfl,fun _=>rfl⟩)
namespace Mine
abbrev GA:=@wpAny_bind
abbrev Qs:=@List.length_map
abbrev Qu:=@List.length_append
abbrev Qv:=@List.getD_eq_getElem?_getD
abbrev Qw:=@List.mem_cons
abbrev Qy:=@List.mem_append_right
abbrev Qz:=@List.mem_append
abbrev QA:=@List.mem_cons_of_mem
abbrev QB:=@List.mem_singleton
abbrev QC:=@Nat.le_trans
abbrev QD:=@wpAny_pure
abbrev QE:=@List.getElem?_eq_getElem
abbrev QF:=@Heap.get?_push_of_some
abbrev QG:=@Option.some.inj
abbrev QH:=@List.mem_cons_self
abbrev QI:=@Bool.and_eq_true_iff
abbrev QJ:=@List.size_toArray
abbrev QK:=@List.length_cons
abbrev QL:=@List.all_eq_true
abbrev QM:=@List.mem_append_left
abbrev QN:=@List.append_nil
abbrev QO:=@Nat.le_refl
abbrev QP:=@List.getElem?_set_ne
abbrev QQ:=@List.append_assoc
abbrev QR:=@List.mem_map
abbrev QS:=@of_decide_eq_true
abbrev QT:=@Nat.le_of_ble_eq_true
abbrev QU:=@List.map_append
abbrev QV:=@congrArg
abbrev QW:=@List.map_cons
abbrev QX:=@List.getElem?_map
abbrev QY:=@List.nodup_cons
abbrev QZ:=@List.map_map
abbrev Q0:=@List.getElem?_eq_some_iff
abbrev Q1:=@List.mem_range
abbrev Q2:=@Heap.get?_push_size
abbrev Q3:=@List.not_mem_nil
abbrev Q4:=@decide_eq_false
abbrev Q5:=@if_neg
abbrev Q6:=@List.getElem?_toArray
abbrev Q7:=@decide_eq_true
abbrev Q8:=@List.mem_filter
abbrev Q9:=@List.length_singleton
abbrev Ra:=@List.map_congr_left
abbrev Rb:=@if_pos
abbrev Rc:=@Bool.false_ne_true
abbrev Rd:=@List.contains_iff_mem
abbrev Rf:=@Nat.lt_succ_self
abbrev Rg:=@List.length_drop
abbrev Rh:=@Nat.zero_le
abbrev Ri:=@List.length_eq_zero_iff
abbrev Rj:=@List.mem_of_getElem?
abbrev Rk:=@Heap.get?_update_self
abbrev Rm:=@Calls.callWith_builtin
abbrev Rn:=@List.mem_filterMap
abbrev Ro:=@List.length_nil
abbrev Rp:=@List.length_filter_le
abbrev Rq:=@Heap.size_push
abbrev Rs:=@List.nodup_nil
abbrev Rt:=@wpAny_mono
abbrev Ru:=@List.length_take
abbrev Rv:=@Int.natCast_nonneg
abbrev Rw:=@Nat.add_right_comm
abbrev Rx:=@Heap.lt_size
abbrev Ry:=@List.sum_cons
abbrev Rz:=@Heap.SameBut.update
abbrev RD:=@List.filter_eq_self
abbrev RE:=@Nat.le_of_lt
abbrev RF:=@Option.map_eq_some_iff
abbrev RG:=@PyProof.noPylong_small
abbrev RH:=@List.getElem_mem
abbrev RI:=@List.length_range
abbrev RJ:=@hideAll_get
abbrev RK:=@wpAny_newObj_type
abbrev RL:=@wpAny_holding
abbrev RM:=@wpAny_call_entry
abbrev RN:=@Nat.lt_succ_of_lt
abbrev RO:=@Int.toNat_natCast
abbrev RP:=@Nat.zero_add
abbrev RQ:=@List.mem_of_mem_take
abbrev RS:=@Nat.lt_of_lt_of_le
abbrev RT:=@of_decide_eq_false
abbrev RU:=@Option.isSome_iff_exists
abbrev RW:=@Nat.ne_of_lt
abbrev RX:=@List.getElem?_range
abbrev RY:=@List.cons_append
abbrev RZ:=@List.perm_middle
abbrev R0:=@PyProof.Rows.Subscript_
abbrev R1:=@List.filter_congr
abbrev R2:=@wpAny_Call_method
abbrev R3:=@wpAny_callSpecial?_slot
abbrev R4:=@List.exists_cons_of_length_eq_add_one
abbrev R5:=@Heap.get?_update_other
abbrev R6:=@PySem.F.plain_min_loop
abbrev R7:=@List.find?_cons
abbrev R8:=@Nat.add_le_add
abbrev R9:=@Bool.and_eq_true
abbrev Sa:=@IntMulOk.of_left
abbrev Sc:=@List.filter_cons
abbrev Sd:=@PySem.W.Fast.te10110043849684766642
abbrev Se:=@PySem.W.Fast.te14364793385576792824
abbrev Sf:=@List.mem_map_of_mem
abbrev Sg:=@Nat.not_lt
abbrev Sh:=@Nat.add_comm
abbrev Si:=@Bool.not_eq_true'
abbrev Sj:=@List.take_add_one
abbrev Sk:=@List.reverse_cons
abbrev Sl:=@Nat.mod_lt
abbrev Sm:=@hideAll_none
abbrev Sn:=@Value.ref.inj
abbrev So:=@Bool.and_true
abbrev Sr:=@Int.natCast_add
abbrev Ss:=@Calls.evalArgs_plain
abbrev Su:=@List.mem_of_mem_drop
abbrev Sv:=@List.forall_mem_cons
abbrev Sw:=@Around.under_plainId
abbrev Sx:=@List.lookup_cons
abbrev Sy:=@Int.ofNat_lt
abbrev Sz:=@Int.add_comm
abbrev SA:=@List.mem_flatMap
abbrev SD:=@wpAny_askSetting
abbrev SE:=@List.flatten_cons
abbrev SF:=@Nat.le_succ
abbrev SG:=@Array.length_toList
abbrev SH:=@wpAny_truthy_bool
abbrev SI:=@List.mem_of_find?_eq_some
abbrev SJ:=@List.forIn_cons
abbrev SK:=@List.nil_append
abbrev SL:=@List.perm_append_comm
abbrev SM:=@List.filter_map
abbrev SN:=@List.getElem_range
abbrev SO:=@List.pairwise_cons
abbrev SP:=@List.filter_append
abbrev SQ:=@List.cons_ne_nil
abbrev SR:=@Nat.sub_succ_lt_self
abbrev SS:=@Nat.sub_le_of_le_add
abbrev ST:=@Nat.add_le_add_right
abbrev SW:=@PySem.F.plainAttrs_list
abbrev SX:=@PyProof.Rows.F.plain_set_update_loop
abbrev SY:=@wpAny_seqItems
abbrev SZ:=@wpAny_setState_of
abbrev Ta:=@List.of_mem_zip
abbrev Tb:=@Nat.min_eq_left
abbrev Tc:=@codeAny_builtin
abbrev Td:=@Nat.lt_of_add_right_lt
abbrev Te:=@List.take_of_length_le
abbrev Tf:=@Int.neg_ofNat_le_ofNat
abbrev Th:=@List.getElem?_set_self
abbrev Ti:=@List.length_eraseIdx_of_lt
abbrev Tj:=@List.take_length
abbrev Tk:=@Int.lt_of_not_ge
abbrev Tl:=@List.mem_reverse
abbrev Tm:=@wpAny_execs_cons
abbrev Tn:=@decide_eq_decide
abbrev Tq:=@List.map_nil
abbrev Ts:=@Nat.lt_irrefl
abbrev Tt:=@Nat.succ_pos
abbrev Tu:=@List.length_zipIdx
abbrev Tv:=@wpAny_standAt
abbrev Tw:=@Int.le_refl
abbrev Ty:=@List.drop_eq_getElem_cons
abbrev Tz:=@List.getElem?_of_mem
abbrev TA:=@Nat.pred_eq_succ_iff
abbrev TC:=@List.nodup_append
abbrev TD:=@Nat.min_le_left
abbrev TE:=@List.length_zip
abbrev TF:=@Int.mul_fdiv_cancel_left
abbrev TG:=@loadGlobal_global
abbrev TH:=@of_hideAll
abbrev TI:=@decide_eq_true_eq
abbrev TJ:=@Nat.ne_of_gt
abbrev TK:=@Nat.lt_trans
abbrev TL:=@PySem.slot_list_setitem
abbrev TM:=@Nat.add_le_add_left
abbrev TN:=@List.length_reverse
abbrev TO:=@List.flatMap_append
abbrev TP:=@Nat.mul_le_mul_left
abbrev TQ:=@wpAny_setEntries_of
abbrev TR:=@Nat.le_add_right
abbrev TS:=@wpAny_ite_true
abbrev TT:=@List.zip_cons_cons
abbrev TU:=@Bool.false_eq_true
abbrev TV:=@if_false
abbrev TW:=@Nat.le_add_left
abbrev TX:=@List.singleton_append
abbrev TY:=@List.cons.injEq
abbrev TZ:=@List.getElem?_reverse
abbrev T0:=@wpAny_isTrue_Compare1
abbrev T1:=@wpAny_updateSeq
abbrev T2:=@Nat.le_of_succ_le
abbrev T3:=@Prod.mk.injEq
abbrev T4:=@Nat.sub_pos_of_lt
abbrev T5:=@Nat.succ_le_of_lt
abbrev T6:=@wpAny_assign_Name
abbrev T7:=@Nat.succ_le_succ
abbrev T8:=@Nat.min_le_right
abbrev T9:=@List.any_eq_true
abbrev Ua:=@List.map_id
abbrev Ub:=@Int.toNat_le
abbrev Uc:=@Nat.le_antisymm
abbrev Ud:=@wpAny_execs_nil
abbrev Ue:=@wpAny_ite_false
end Mine
noncomputable section
namespace Mine.Lake.H
theorem wsA:sreFenced PySem.Challenge.rw_kl0127_02.prog.main=true:=by kernel_rfl
theorem wsB:((moduleNames PySem.Challenge.rw_kl0127_02.prog.main.body).isEmpty||lookedIntoSs (moduleNames PySem.Challenge.rw_kl0127_02.prog.main.body) PySem.Challenge.rw_kl0127_02.prog.main.body)=true:=by kernel_rfl
theorem wsC:namesResolve PySem.Challenge.rw_kl0127_02.prog=true:=by kernel_rfl
theorem wsD:noRoadLSs {strict:=!(importedModules PySem.Challenge.rw_kl0127_02.prog.main.body).all cThrough.contains,foot:=none,bare:=(["vars","dir","locals"]:List Str).filter (readsOut PySem.Challenge.rw_kl0127_02.prog PySem.Challenge.rw_kl0127_02.prog.main.body)} PySem.Challenge.rw_kl0127_02.prog.main.body=true:=by kernel_rfl
theorem NN:PySem.Challenge.rw_kl0127_02.row.wellSaid=true:=by
 unfold OpenRow.wellSaid OpenRow.partSaid looksOpen
 repeat' with_reducible refine look_both ?_ ?_
 ·exact wsA
 ·exact wsB
 ·exact wsC
 rotate_left
 ·exact wsD
 all_goals kernel_rfl
theorem Qq:PySem.Challenge.rw_kl0127_02.wellSaid=true:=by
 unfold OpenLaw.wellSaid;repeat' with_reducible refine look_both ?_ ?_
 ·exact NN
 all_goals kernel_rfl
end Mine.Lake.H
namespace Mine
theorem dk{p:Prop}[Decidable p](h:decide p=true:=by kernel_rfl):p:=QS h
theorem fF{P:Prop}(h:false=true):P:=nomatch h
theorem fT{P:Prop}(h:true=false):P:=nomatch h
theorem nS{P:Prop}{α:Type}{a:α}(h:none=some a):P:=nomatch h
theorem sN{P:Prop}{α:Type}{a:α}(h:some a=none):P:=nomatch h
theorem xA{p q P:Prop}(h:p/\q)(k:p->q->P):P:=by obtain⟨h1,h2⟩:=h;exact k h1 h2
theorem jd{p q r P:Prop}(h:p/\q/\r)(k:p->q->r->P):P:=by obtain⟨h1,h2,h3⟩:=h;exact k h1 h2 h3
theorem Fz{p q r s P:Prop}(h:p/\q/\r/\s)(k:p->q->r->s->P):P:=by obtain⟨h1,h2,h3,h4⟩:=h;exact k h1 h2 h3 h4
theorem xE{P:Prop}{p:α->Prop}(h:∃a,p a)(k:∀a,p a->P):P:=by obtain⟨a,h1⟩:=h;exact k a h1
theorem ay{P:Prop}{p q:α->Prop}(h:∃a,p a/\q a)(k:∀a,p a->q a->P):P:=by obtain⟨a,h1,h2⟩:=h;exact k a h1 h2
theorem eG{P:Prop}{p q r:α->Prop}(h:∃a,p a/\q a/\r a)(k:∀a,p a->q a->r a->P):P:=by obtain⟨a,h1,h2,h3⟩:=h;exact k a h1 h2 h3
theorem Bg{P:Prop}{p q r s:α->Prop}(h:∃a,p a/\q a/\r a/\s a)(k:∀a,p a->q a->r a->s a->P):P:=by obtain⟨a,h1,h2,h3,h4⟩:=h;exact k a h1 h2 h3 h4
theorem Bh{P:Prop}{p q:α->Prop}{r:α->β->Prop}(h:∃a,p a/\q a/\∃b,r a b)(k:∀a,p a->q a->∀b,r a b->P):P:=by obtain⟨a,h1,h2,b,h3⟩:=h;exact k a h1 h2 b h3
theorem vu{P:Prop}{p:α->β->Prop}(h:∃a b,p a b)(k:∀a b,p a b->P):P:=by obtain⟨a,b,h1⟩:=h;exact k a b h1
theorem dE{P:Prop}{p q:α->β->Prop}(h:∃a b,p a b/\q a b)(k:∀a b,p a b->q a b->P):P:=by obtain⟨a,b,h1,h2⟩:=h;exact k a b h1 h2
theorem kg{P:Prop}{p q r:α->β->Prop}(h:∃a b,p a b/\q a b/\r a b)(k:∀a b,p a b->q a b->r a b->P):P:=by obtain⟨a,b,h1,h2,h3⟩:=h;exact k a b h1 h2 h3
theorem nX{P:Prop}{p q r s:α->β->Prop}(h:∃a b,p a b/\q a b/\r a b/\s a b)(k:∀a b,p a b->q a b->r a b->s a b->P):P:=by obtain⟨a,b,h1,h2,h3,h4⟩:=h;exact k a b h1 h2 h3 h4
theorem tZ{P:Prop}{p:α->β->γ->Prop}(h:∃a b c,p a b c)(k:∀a b c,p a b c->P):P:=by obtain⟨a,b,c,h1⟩:=h;exact k a b c h1
theorem jy{P:Prop}{p q r:α->β->γ->Prop}(h:∃a b c,p a b c/\q a b c/\r a b c)(k:∀a b c,p a b c->q a b c->r a b c->P):P:=by obtain⟨a,b,c,h1,h2,h3⟩:=h;exact k a b c h1 h2 h3
theorem lX{P:Prop}{p q r s:α->β->γ->Prop}(h:∃a b c,p a b c/\q a b c/\r a b c/\s a b c)(k:∀a b c,p a b c->q a b c->r a b c->s a b c->P):P:=by obtain⟨a,b,c,h1,h2,h3,h4⟩:=h;exact k a b c h1 h2 h3 h4
theorem rg{P:Prop}{p:α->β->γ->δ->ζ->Prop}(h:∃a b c d e,p a b c d e)(k:∀a b c d e,p a b c d e->P):P:=by obtain⟨a,b,c,d,e,h1⟩:=h;exact k a b c d e h1
theorem IT{P:Nat->Prop}(x:Nat)(h:x<3)(h0:P 0)(h1:P 1)(h2:P 2):P x:=by
 rcases x with _|_|_|x
 ·exact h0
 ·exact h1
 ·exact h2
 ·exact absurd h (Sg.mpr (TW 3 x))
theorem NJ{α:Type}{l:List α}(h:l.length=2):∃a b,l=[a,b]:=by
 rcases l with _|⟨a,_|⟨b,_|⟨c,l⟩⟩⟩
 ·simp at h
 ·simp at h
 ·exact⟨a,b,rfl⟩
 ·simp at h
theorem OE{P:Nat->Prop}(x:Nat)(h:x<5)(h0:P 0)(h1:P 1)(h2:P 2)(h3:P 3)(h4:P 4):P x:=by
 rcases x with _|_|_|_|_|x
 ·exact h0
 ·exact h1
 ·exact h2
 ·exact h3
 ·exact h4
 ·exact absurd h (Sg.mpr (TW 5 x))
theorem A4{α:Type}{l:List α}{x y:α}(hx:x∈l)(hy:y∈l)(h:x≠y):2<=l.length:=by
 rcases l with _|⟨a,_|⟨b,l⟩⟩
 ·contradiction
 ·exact absurd ((QB.mp hx).trans (QB.mp hy).symm) h
 ·exact TW 2 l.length
theorem ED{a:Nat}(h:a<5):a=0\/a=1\/a=2\/a=3\/a=4:=by lia
theorem z7{a b c:Nat}(h:a+(b+1)<c):a+1+b<c:=Nat.lt_of_le_of_lt (Nat.le_of_eq (Rw a 1 b)) h
theorem IY{a b c:Nat}(h:a+(b+1)=c):a+1+b=c:=(Rw a 1 b).trans h
theorem AR{a b c:Nat}(h:a-b=c+1):a-(b+1)=c:=QV Nat.pred h
theorem Eu{a b:Nat}(h:b<6)(k:a<=b):a<=99:=QC k (QC (RE h) dk)
theorem D7{a b:Nat}(h:a<=b)(k:¬a<b):a=b:=Uc h (Sg.mp k)
theorem JD{a:Nat}(h:a<6):a<=60:=QC (RE h) dk
theorem GZ{a b:Nat}(h:b≠a)(k:¬b<a):a<b:=Nat.lt_of_le_of_ne (Sg.mp k) h.symm
theorem Iq{a b:Nat}(h:b-a=0)(k:a<=b):a=b:=Uc k (Nat.sub_eq_zero_iff_le.mp h)
theorem AQ(a b c:Int):a-b-c=a-c-b:=by lia
end Mine
namespace Mine.Lake.D
section
set_option backward.match.sparseCases true
inductive Ex(pr:Program)(w:World):{α:Type}->Sem α->Nat->Shared->Pos->α->Shared->Pos->Prop
 |pure {α:Type} {a:α} {s p}:Ex pr w (.pure a) 0 s p a s p
 |rule {α:Type} {t:String} {k:Unit->Sem α} {n s p} {a:α} {s' p'}:Ex pr w (k ()) n s p a s' p'->Ex pr w (.rule t k) (n+1) s p a s' p'
 |at {α:Type} {q:Pos} {k:Unit->Sem α} {n s p} {a:α} {s' p'}:Ex pr w (k ()) n s q a s' p'->Ex pr w (.at q k) (n+1) s p a s' p'
 |load {α:Type} {b:Addr} {pt:Option Value} {o:Obj} {k:Obj->Sem α} {n s p} {a:α} {s' p'}:s.heap.get? b=some o->Ex pr w (k o) n s p a s' p'->Ex pr w (.load b pt k) (n+1) s p a s' p'
 |update {α:Type} {b:Addr} {pt:Option Value} {f:Obj->Obj} {k:Unit->Sem α} {n:Nat} {s:Shared} {p} {a:α} {s' p'}:(s.heap.get? b).isSome=true->28<=b->Ex pr w (k ()) n { s with heap:=s.heap.update b f } p a s' p'->Ex pr w (.update b pt f k) (n+1) s p a s' p'
 |alloc {α:Type} {o:Obj} {k:Addr->Sem α} {n:Nat} {s:Shared} {p} {a:α} {s' p'}:Ex pr w (k s.heap.objs.size) n { s with heap:=s.heap.push o } p a s' p'->Ex pr w (.alloc o k) (n+1) s p a s' p'
 |fresh {α:Type} {k:Tok->Sem α} {n:Nat} {s:Shared} {p} {a:α} {s' p'}:Ex pr w (k s.toks) n { s with toks:=s.toks+1 } p a s' p'->Ex pr w (.fresh k) (n+1) s p a s' p'
 |ask {α:Type} {k:Setting->Sem α} {n s p} {a:α} {s' p'}:Ex pr w (k ⟨pr,w.params⟩) n s p a s' p'->Ex pr w (.ask k) (n+1) s p a s' p'
 |hash {α:Type} {i:Int} {t:Tok} {g:Bool} {l:List Value} {k:Result->Sem α} {n:Nat} {s:Shared} {p} {a:α} {s' p'}:Ex pr w (k (.ok (.ret (.int (rawHash i) s.toks)))) n { s with toks:=s.toks+1 } p a s' p'->
   Ex pr w (.call (.call (.builtin "int.__hash__") ⟨[.int i t],[]⟩) none g l k) (n+4) s p a s' p'
section
variable{pr:Program}{w:World}{α β:Type}
theorem Ex.bind{m:Sem α}{f:α->Sem β}{n n':Nat}{s HX s':Shared}{p p₁ p':Pos}{a:α}{b:β}(h:Ex pr w m n s p a HX p₁)(h':Ex pr w (f a) n' HX p₁ b s' p'):Ex pr w (m >>= f) (n+n') s p b s' p':=by
 induction h with
 |pure=>rw[RP];exact h'
 |rule _ ih=>rw[Rw];exact .rule (ih h')
 |«at» _ ih=>rw[Rw];exact .at (ih h')
 |load e _ ih=>rw[Rw];exact .load e (ih h')
 |update e l _ ih=>rw[Rw];exact .update e l (ih h')
 |alloc _ ih=>rw[Rw];exact .alloc (ih h')
 |fresh _ ih=>rw[Rw];exact .fresh (ih h')
 |ask _ ih=>rw[Rw];exact .ask (ih h')
 |hash _ ih=>rw[Rw];exact .hash (ih h')
theorem Ex.keep{m:Sem α}{n:Nat}{s s':Shared}{p p':Pos}{a:α}(vs:List Value)(h:Ex pr w m n s p a s' p'):Ex pr w (m.keep vs) n s p a s' p':=by
 induction h with
 |pure=>exact .pure
 |rule _ ih=>exact .rule ih
 |«at» _ ih=>exact .at ih
 |load e _ ih=>exact .load e ih
 |update e l _ ih=>exact .update e l ih
 |alloc _ ih=>exact .alloc ih
 |fresh _ ih=>exact .fresh ih
 |ask _ ih=>exact .ask ih
 |hash _ ih=>exact .hash ih
theorem Ex.holding{m:Sem α}{n:Nat}{s s':Shared}{p p':Pos}{a:α}(vs:List Value)(h:Ex pr w m n s p a s' p'):Ex pr w (holding vs m) n s p a s' p':=by
 unfold PySem.holding;generalize List.filter _ vs=l;cases l with
 |nil=>exact h
 |cons=>exact h.keep _
theorem Ex.onRaise{m:Sem α}{n:Nat}{s s':Shared}{p p':Pos}{a:α}(H:Value->Sem Unit)(h:Ex pr w m n s p a s' p'):Ex pr w (m.onRaise H) n s p a s' p':=by
 induction h with
 |pure=>exact .pure
 |rule _ ih=>exact .rule ih
 |«at» _ ih=>exact .at ih
 |load e _ ih=>exact .load e ih
 |update e l _ ih=>exact .update e l ih
 |alloc _ ih=>exact .alloc ih
 |fresh _ ih=>exact .fresh ih
 |ask _ ih=>exact .ask ih
 |hash _ ih=>exact .hash ih
end
theorem BW(pr:Program)(w:World)(q:Pos)(ZV:Env)(b:List Stmt)(i:Int)(t:Tok)(g:Bool)(l:List Value)(k:Result->Sem Fin)(heap:Heap)(d:Drawn)(tk:Nat)(os:OsState)(p:Pos):
  segGo treeTable pr w 28 (some (.ref 6)) 1 4 ⟨heap,#[],d,tk,os⟩ ⟨.call (.call (.builtin "int.__hash__") ⟨[.int i t],[]⟩) none g l k,.body b ZV,p,[topFrame q]⟩=some (⟨heap,#[],d,tk+1,os⟩,⟨k (.ok (.ret (.int (rawHash i) tk))),.body b ZV,p,[topFrame q]⟩):=by
 kernel_rfl
theorem nL{tb:String->Option Builtin}{pr:Program}{w:World}{UV:Nat}{d4:Option Value}{b n:Nat}{s:Shared}{t:Thread}:segGo tb pr w UV d4 b (n+1) s t=match endAt b t with
  |some _=>none
  |none=>match stepOk UV d4 t with
   |false=>none
   |true=>match step (denote tb) pr w s t with
    |.go s' t'=>segGo tb pr w UV d4 b n s' t'
    |.halt _ _=>none:=rfl
theorem dg{tb:String->Option Builtin}{pr:Program}{w:World}{UV:Nat}{d4:Option Value}{b:Nat}:∀{n m:Nat}{s HX Ug:Shared}{t UW Vl:Thread},segGo tb pr w UV d4 b n s t=some (HX,UW)->segGo tb pr w UV d4 b m HX UW=some (Ug,Vl)->segGo tb pr w UV d4 b (n+m) s t=some (Ug,Vl):=by
 intro X_;induction X_ with
 |zero=>
  intro m s HX Ug t UW Vl h k;obtain⟨rfl,rfl⟩:s=HX/\t=UW:=by simpa[segGo]using h
  rw[RP];exact k
 |succ n IH=>
  intro m s HX Ug t UW Vl h k;rw[Rw,nL];rw[nL]at h;cases e1:endAt b t with
  |some f=>rw[e1]at h;contradiction
  |none=>
   rw[e1]at h;rcases e2:stepOk UV d4 t with _|_
   ·rw[e2]at h;contradiction
   ·rw[e2]at h
    cases e3:step (denote tb) pr w s t with
    |halt o x=>rw[e3]at h;contradiction
    |go s' t'=>rw[e3]at h;exact IH h k
theorem gS{pr:Program}{w:World}{s HX:Shared}{t UW:Thread}(e1:endAt 1 t=none)(e2:stepOk 28 (some (.ref 6)) t=true)(e3:step (denote treeTable) pr w s t=.go HX UW):segGo treeTable pr w 28 (some (.ref 6)) 1 1 s t=some (HX,UW):=by unfold segGo;rw[e1];rw[e2,e3];rfl
theorem Gv{pr:Program}{w:World}{α:Type}{m:Sem α}{n:Nat}{s s':Shared}{p p':Pos}{a:α}(h:Ex pr w m n s p a s' p')(hg:s.gens=#[])(q:Pos)(ZV:Env)(b:List Stmt)(K:α->Sem Fin)(H:Value->Sem Fin)(lv:List Value->List Value):
  segGo treeTable pr w 28 (some (.ref 6)) 1 n s ⟨m.wrap K H id lv,.body b ZV,p,[topFrame q]⟩=some (s',⟨K a,.body b ZV,p',[topFrame q]⟩):=by
 induction h with
 |pure=>rfl
 |rule _ ih=>rw[Sh];exact dg (gS rfl rfl rfl) (ih hg)
 |«at» _ ih=>rw[Sh];exact dg (gS rfl rfl rfl) (ih hg)
 | @load b pt o k n s p a s' p' e _ ih=>rw[Sh];refine dg (gS rfl rfl ?_) (ih hg);obtain⟨heap,gens,drawn,toks,os⟩:=s;show step (denote treeTable) pr w ⟨heap,gens,drawn,toks,os⟩ ⟨.load b pt _,_,_,_⟩=_;simp only[step];rw[show heap.get? b=some o from e]
 | @update b pt f k n s p a s' p' e l _ ih=>
  rw[Sh];refine dg (gS rfl ?_ ?_) (ih hg)
  ·show(_&&(Nat.ble 28 b||_||_||_))=true
   rw[Nat.ble_eq_true_of_le l];rfl
  ·obtain⟨heap,gens,drawn,toks,os⟩:=s
   show step (denote treeTable) pr w ⟨heap,gens,drawn,toks,os⟩ ⟨.update b pt f _,_,_,_⟩=_;simp only[step];rw[Rb (show(heap.get? b).isSome=true from e)]
 |alloc _ ih=>rw[Sh];exact dg (gS rfl rfl rfl) (ih hg)
 |fresh _ ih=>rw[Sh];exact dg (gS rfl rfl rfl) (ih hg)
 |ask _ ih=>rw[Sh];exact dg (gS rfl rfl rfl) (ih hg)
 | @hash i t g l k n s p a s' p' _ ih=>rw[Sh];obtain⟨heap,gens,drawn,toks,os⟩:=s;obtain rfl:gens=#[]:=hg;exact dg (BW pr w q ZV b i t _ _ _ heap drawn toks os p) (ih rfl)
noncomputable def Gc{α:Type}:Sem α->Setting->Sem α|.ask k=>k|_=>λU=>.unsupported ""
noncomputable def Dl{α:Type}:Sem α->Result->Sem α|.call _ _ _ _ k=>k|_=>λU=>.unsupported ""
noncomputable def Gi{α:Type}:Sem α->List Value|.call _ _ _ l _=>l|_=>[]
noncomputable def Gh{α:Type}:Sem α->Bool|.call _ _ g _ _=>g|_=>false
noncomputable abbrev wf(w:World)(b:Bool):World:=w.withFollow "special-get-raises" b
theorem zm(k:Int)(t:Tok):pyHash (.int k t)=.ask (Gc (pyHash (.int k t))):=by kernel_rfl
abbrev oZ(pr:Program)(w:World)(b:Bool)(k:Int)(t:Tok):Sem Int:=Gc (pyHash (.int k t)) ⟨pr,(wf w b).params⟩
theorem xi(pr:Program)(w:World)(b:Bool)(k:Int)(t:Tok):oZ pr w b k t=.call (.call (.builtin "int.__hash__") ⟨[.int k t],[]⟩) none (Gh (oZ pr w b k t)) (Gi (oZ pr w b k t)) (Dl (oZ pr w b k t)):=by cases b<;>kernel_rfl
theorem zo(pr:Program)(w:World)(b:Bool)(k i:Int)(t tk:Tok):Dl (oZ pr w b k t) (.ok (.ret (.int i tk)))=pyHashByItsType.reduced i:=by cases b<;>kernel_rfl
theorem xc{pr:Program}{w:World}{b:Bool}{k:Int}{t:Tok}{s:Shared}{p:Pos}:Ex pr (wf w b) (pyHash (.int k t)) 5 s p (hashInt k) { s with toks:=s.toks+1 } p:=by have hr:=rawHash_range k;rw[zm];refine Ex.ask ?_;show Ex pr (wf w b) (oZ pr w b k t) 4 s p _ _ p;rw[xi];refine Ex.hash (n:=0) ?_;rw[zo];unfold pyHashByItsType.reduced;rw[Rb (by rw[Q7 hr.1,Q7 hr.2];rfl)];exact Ex.pure
noncomputable abbrev dObj(es:List DictEntry):Obj:=⟨.type "dict",none,.dict es.toArray es.length,#[]⟩
noncomputable abbrev vI(k:Int)(tk:Tok)(v:Value):DictEntry:=⟨hashInt k,.int k tk,v⟩
def FG(h:Int)(es:List DictEntry):Prop:=∀e∈es,e.hash<h/\∃k t,e.key=.int k t
theorem FG.places{h:Int}{es:List DictEntry}(hl:FG h es):placesWithHash es.toArray.size (λi=>es.toArray[i]?.map (·.hash)) h=[]:=by
 unfold placesWithHash;rw[List.filter_eq_nil_iff];intro i hi;have hi:i<es.length:=by simpa using hi
 have hm:es[i]∈es:=RH hi
 have:=(hl _ hm).1
 simp[QE hi];exact Int.ne_of_lt this
section
variable{pr:Program}{w:World}{s:Shared}{p:Pos}
theorem vL{d:Addr}{k:Int}{t:Tok}{es:List DictEntry}{h:Int}(hd:s.heap.get? d=some (dObj es))(hl:FG h es):Ex pr w (dictFind d (.int k t) h) 1 s p none s p:=by
 refine Ex.holding _ ?_;refine Ex.bind (n:=1) (n':=0) (a:=es.toArray) (HX:=s) (p₁:=p) ?_ ?_
 ·exact Ex.load hd Ex.pure
 ·rw[hl.places]
  exact Ex.pure
theorem iz(es:List DictEntry)(e:DictEntry):Obj.mapDictKeys (λx=>x.push e) (dObj es)=dObj (es++[e]):=by show(⟨_,_,.dict (es.toArray.push e) _,_⟩:Obj)=⟨_,_,.dict (es++[e]).toArray _,_⟩;simp
theorem vM{d:Addr}{e:DictEntry}{es:List DictEntry}{pt:Option Value}(Kx:28<=d)(hd:s.heap.get? d=some (dObj es))(hsz:es.length<sizeLine):
  Ex pr w (updateDictKeys d (λx=>x.push e) pt) 3 s p () { s with heap:=s.heap.update d (Obj.mapDictKeys λx=>x.push e) } p:=by
 refine Ex.load hd ?_;refine Ex.update (by rw[hd];rfl) Kx ?_;refine Ex.load (o:=dObj (es++[e])) ?_ ?_
 ·rw[<-iz];exact Rk _ hd rfl
 ·have hz:¬((es++[e]).toArray.size>sizeLine+1):=by simp;exact T2 hsz
  have J0:(dObj (es++[e])).data.pastItsLine=none:=Q5 hz;show Ex _ _ (Sem.bind (Sem.pure _) _) _ _ _ _ _ _;rw[Sem.bind,J0];exact Ex.pure
theorem y3{b:Bool}{d:Addr}{k:Int}{t:Tok}{v:Value}{es:List DictEntry}(Kx:28<=d)(hd:s.heap.get? d=some (dObj es))(hl:FG (hashInt k) es)(hsz:es.length<sizeLine):
  Ex pr (wf w b) (dictSet d (.int k t) v) 10 s p () { s with heap:=s.heap.update d (Obj.mapDictKeys λx=>x.push (vI k t v)),toks:=s.toks+1 } p:=by
 refine Ex.holding _ (Ex.bind (n:=5) (n':=5) xc ?_);exact Ex.holding _ (Ex.bind (n:=1) (n':=4) (vL (s:={ s with toks:=s.toks+1 }) hd hl) (Ex.rule (vM (s:={ s with toks:=s.toks+1 }) Kx hd hsz)))
theorem Ea{d:Addr}{k:Int}{t:Tok}{v:Value}{es:List DictEntry}{h:Int}(Kx:28<=d)(hd:s.heap.get? d=some (dObj es))(hl:FG h es)(hsz:es.length<sizeLine):
  Ex pr w (dictPut d h (.int k t) v) 4 s p () { s with heap:=s.heap.update d (Obj.mapDictKeys λx=>x.push ⟨h,.int k t,v⟩) } p:=by
 exact Ex.bind (n:=1) (n':=3) (vL hd hl) (vM Kx hd hsz)
end
noncomputable abbrev hp(l:List Obj)(life:Life):Heap:=⟨l.toArray,life⟩
theorem mP{l₁ l₂:List Obj}{x:Obj}{life:Life}(hx:x.isFreed=false):(hp (l₁++x::l₂) life).get? l₁.length=some x:=by
 have:(l₁++x::l₂).toArray[l₁.length]? = some x:=by simp
 show(match(l₁++x::l₂).toArray[l₁.length]? with|some ⟨_,_,.freed,_⟩=>none|o=>o)=some x;rw[this];obtain⟨c,d,dt,sl⟩:=x;cases dt<;>first|rfl|contradiction
theorem kB{l₁ l₂:List Obj}{x:Obj}{life:Life}(f:Obj->Obj):(hp (l₁++x::l₂) life).update l₁.length f=hp (l₁++f x::l₂) life:=by show Heap.mk ((l₁++x::l₂).toArray.modify l₁.length f) life=Heap.mk _ life;congr 1;apply Array.ext_getElem?;intro i;rw[Array.getElem?_modify];simp only[Q6,List.getElem?_append,List.getElem?_cons];split<;>split<;>(try simp_all)<;>(try rw[Q5 (by lia),Q5 (by lia)])
theorem vR{l:List Obj}{x:Obj}{life:Life}:(hp l life).push x=hp (l++[x]) life:=by show Heap.mk _ life=Heap.mk _ life;simp
abbrev sh(l:List Obj)(life:Life)(d:Drawn)(tk:Nat)(os:OsState):Shared:=⟨hp l life,#[],d,tk,os⟩
def ents3:List (Int×Str)->Nat->List DictEntry
 |[],_=>[]
 |(k,v)::r,tk=>vI k tk (.str v (tk+1))::ents3 r (tk+3)
noncomputable abbrev kT(k:Int):Sem Value:=.fresh λt=>.pure (.int k t)
noncomputable abbrev vT(q:Pos)(v:Str):Sem Value:=.fresh λt=>.at q λU=>.pure (.str v t)
abbrev pT(q:Pos)(x:Int×Str):Sem Value×Sem Value:=(kT x.1,vT q x.2)
def dF:Int->List (Int×Str)->Prop
 |_,[]=>True
 |lo,(k,_)::r=>lo<hashInt k/\dF (hashInt k) r
noncomputable def gm:Int->List (Int×Str)->Int
 |lo,[]=>lo
 |_,(k,_)::r=>gm (hashInt k) r
def eB(lo:Int)(es:List DictEntry):Prop:=∀e∈es,e.hash<=lo/\∃k t,e.key=.int k t
theorem eB.low{lo h:Int}{es:List DictEntry}(u:eB lo es)(l:lo<h):FG h es:=λe m=>⟨Int.lt_of_le_of_lt (u e m).1 l,(u e m).2⟩
theorem eB.push{lo:Int}{es:List DictEntry}{k:Int}{t:Tok}{v:Value}(u:eB lo es)(l:lo<hashInt k):eB (hashInt k) (es++[vI k t v]):=by
 intro e m;rcases Qz.mp m with m|m
 ·exact⟨Int.le_of_lt (Int.lt_of_le_of_lt (u e m).1 l),(u e m).2⟩
 ·obtain rfl:=QB.mp m
  exact⟨Tw _,_,_,rfl⟩
section
variable{pr:Program}{w:World}{life:Life}{dr:Drawn}{os:OsState}{b:Bool}{q:Pos}
theorem BN{d:Addr}{l₁:List Obj}(hd:d=l₁.length)(Kx:28<=d):∀(xs:List (Int×Str))(es:List DictEntry)(lo:Int)(tk:Nat)(p:Pos),eB lo es->dF lo xs->es.length+xs.length<sizeLine->
  Ex pr (wf w b) (forIn (xs.map (pT q)) PUnit.unit λ(x:Sem Value×Sem Value)(_:PUnit)=>(do let kv <-x.1;let vv <-PySem.holding [kv] x.2;PySem.holding [kv,vv] (dictSet d kv vv);pure (ForInStep.yield PUnit.unit):Sem (ForInStep PUnit)))
   (13*xs.length) (sh (l₁++[dObj es]) life dr tk os) p PUnit.unit (sh (l₁++[dObj (es++ents3 xs tk)]) life dr (tk+3*xs.length) os) (if xs=[]then p else q):=by
 intro X_;induction X_ with
 |nil=>intro es lo tk p _ _ _;rw[show es++ents3 [] tk=es from QN es];exact Ex.pure
 |cons q_ xs IH=>
  intro es lo tk p u r z;obtain⟨k,v⟩:=q_;rw[QW,SJ];rw[QK]at z
  have:=IH (es++[vI k tk (.str v (tk+1))]) (hashInt k) (tk+3) q (u.push r.1) r.2 (by rw[Qu];simp;exact z7 z)
  have e1:es++ents3 ((k,v)::xs) tk=(es++[vI k tk (.str v (tk+1))])++ents3 xs (tk+3):=(QQ es [_] _).symm;have e2:tk+3*((k,v)::xs).length=tk+3+3*xs.length:=by rw[QK];lia
  have e3:13*((k,v)::xs).length=13+13*xs.length:=by rw[QK];lia
  rw[e1,e2,e3,Q5 (by simp)];refine Ex.bind (n:=13) (HX:=sh (l₁++[dObj (es++[vI k tk (.str v (tk+1))])]) life dr (tk+3) os) (p₁:=q) (a:=.yield PUnit.unit) ?_ ?_
  ·refine Ex.bind (n:=1) (n':=12) (a:=.int k tk) (HX:=sh (l₁++[dObj es]) life dr (tk+1) os) (p₁:=p) (Ex.fresh Ex.pure) ?_
   refine Ex.bind (n:=2) (n':=10) (a:=.str v (tk+1)) (HX:=sh (l₁++[dObj es]) life dr (tk+2) os) (p₁:=q) (Ex.holding _ (Ex.fresh (Ex.at Ex.pure))) ?_;refine Ex.bind (n:=10) (n':=0) (a:=()) (p₁:=q) (Ex.holding _ (y3 (es:=es) Kx (by subst hd;exact mP rfl) (u.low r.1) (by exact Td z))) ?_
   have:({ sh (l₁++[dObj es]) life dr (tk+2) os with heap:=(sh (l₁++[dObj es]) life dr (tk+2) os).heap.update d (Obj.mapDictKeys λx=>x.push (vI k tk (.str v (tk+1)))),toks:=(sh (l₁++[dObj es]) life dr (tk+2) os).toks+1 }:Shared)=sh (l₁++[dObj (es++[vI k tk (.str v (tk+1))])]) life dr (tk+3) os:=by subst hd;rw[kB,iz]
   rw[this];exact Ex.pure
  ·have h:=this
   rcases xs with _|⟨x,r⟩
   ·exact h
   ·rw[Q5 (by simp)]at h;exact h
theorem y5{l₁:List Obj}(Kx:28<=l₁.length)(xs:List (Int×Str))(lo:Int)(tk:Nat)(p:Pos)(Mi:xs.length=17)(r:dF lo xs):
  Ex pr (wf w b) (subDict (xs.map (pT q))) 223 (sh l₁ life dr tk os) p l₁.length (sh (l₁++[dObj (ents3 xs tk)]) life dr (tk+51) os) q:=by
 have h0:=BN (pr:=pr) (w:=w) (life:=life) (dr:=dr) (os:=os) (b:=b) (q:=q) rfl Kx xs [] lo tk p (λU m=>nomatch m) r (by rw[Mi,sizeLine_eq];simp);rw[Mi,Q5 (by rintro rfl;contradiction)]at h0;refine Ex.bind (n:=1) (n':=222) (a:=l₁.length) (HX:=sh (l₁++[dObj []]) life dr tk os) (p₁:=p) ?_ ?_
 ·have e:(sh l₁ life dr tk os).heap.objs.size=l₁.length:=by simp
  have:=Ex.alloc (pr:=pr) (w:=wf w b) (o:={ cls:=.type "dict",data:=.dict #[] }) (k:=Sem.pure) (s:=sh l₁ life dr tk os) (p:=p) (n:=0) Ex.pure
  rw[e]at this;have e2:(sh l₁ life dr tk os).heap.push { cls:=.type "dict",data:=.dict #[] }=hp (l₁++[dObj []]) life:=vR;rw[e2]at this;exact this
 ·refine Ex.bind (n:=222) (n':=0) (a:=()) (HX:=sh (l₁++[dObj (ents3 xs tk)]) life dr (tk+51) os) (p₁:=q) (Ex.holding _ ?_) Ex.pure
  rw[Q5 (by rw[Qs,Mi];decide)];exact Ex.bind (n:=1) (n':=221) (a:=()) (HX:=sh (l₁++[dObj []]) life dr tk os) (p₁:=p) (Ex.rule Ex.pure) (Ex.bind (n:=221) (n':=0) h0 Ex.pure)
def ents2(KJ:Nat):List (Int×Str)->List DictEntry
 |[]=>[]
 |(k,v)::r=>vI k KJ (.str v (KJ+1))::ents2 (KJ+2) r
noncomputable def kQ(tk:Nat):List (Int×Str)->List (Value×Value)
 |[]=>[]
 |(k,v)::r=>(.int k tk,.str v (tk+1))::kQ (tk+2) r
theorem y2{s:Shared}:∀(xs:List (Int×Str))(s:Shared)(p:Pos),Ex pr w (evalPairs (xs.map (pT q))) (3*xs.length) s p (kQ s.toks xs) { s with toks:=s.toks+2*xs.length } (if xs=[]then p else q):=by
 intro X_;induction X_ with
 |nil=>intro s p;exact Ex.pure
 |cons q_ xs IH=>
  intro s p;obtain⟨k,v⟩:=q_;have h:=IH { s with toks:=s.toks+2 } q;rw[QW,evalPairs,Q5 (by simp)];have e3:3*((k,v)::xs).length=1+(2+(3*xs.length+0)):=by rw[QK];lia
  have e2:s.toks+2*((k,v)::xs).length=s.toks+2+2*xs.length:=by rw[QK];lia
  rw[e3,e2];refine Ex.bind (a:=.int k s.toks) (HX:={ s with toks:=s.toks+1 }) (p₁:=p) (Ex.fresh Ex.pure) ?_;refine Ex.bind (a:=.str v (s.toks+1)) (HX:={ s with toks:=s.toks+2 }) (p₁:=q) (Ex.holding _ (Ex.fresh (Ex.at Ex.pure))) ?_;have h':Ex pr w (evalPairs (xs.map (pT q))) (3*xs.length) { s with toks:=s.toks+2 } q (kQ (s.toks+2) xs) { s with toks:=s.toks+2+2*xs.length } q:=by
   rcases xs with _|⟨x,r⟩
   ·exact h
   ·rw[Q5 (by simp)]at h;exact h
  exact Ex.bind (Ex.holding _ h') Ex.pure
theorem y4{d:Addr}{l₁:List Obj}(hd:d=l₁.length)(Kx:28<=d)(p:Pos):∀(xs:List (Int×Str))(es:List DictEntry)(lo:Int)(KJ tk:Nat),eB lo es->dF lo xs->es.length+xs.length<sizeLine->
  Ex pr (wf w b) (forIn (kQ KJ xs) PUnit.unit λ(x:Value×Value)(_:PUnit)=>(do dictSet d x.1 x.2;pure (ForInStep.yield PUnit.unit):Sem (ForInStep PUnit)))
   (10*xs.length) (sh (l₁++[dObj es]) life dr tk os) p PUnit.unit (sh (l₁++[dObj (es++ents2 KJ xs)]) life dr (tk+xs.length) os) p:=by
 intro X_;induction X_ with
 |nil=>intro es lo KJ tk _ _ _;rw[show es++ents2 KJ []=es from QN es];exact Ex.pure
 |cons q_ xs IH=>
  intro es lo KJ tk u r z;obtain⟨k,v⟩:=q_;rw[show kQ KJ ((k,v)::xs)=(.int k KJ,.str v (KJ+1))::kQ (KJ+2) xs from rfl,SJ];rw[QK]at z;have h:=IH (es++[vI k KJ (.str v (KJ+1))]) (hashInt k) (KJ+2) (tk+1) (u.push r.1) r.2 (by rw[Qu];simp;exact z7 z);have e1:es++ents2 KJ ((k,v)::xs)=(es++[vI k KJ (.str v (KJ+1))])++ents2 (KJ+2) xs:=(QQ es [_] _).symm;have e2:tk+((k,v)::xs).length=tk+1+xs.length:=by rw[QK];exact Eq.symm (Nat.succ_add_eq_add_succ tk xs.length)
  have e3:10*((k,v)::xs).length=(10+0)+10*xs.length:=by rw[QK];lia
  rw[e1,e2,e3];refine Ex.bind (HX:=sh (l₁++[dObj (es++[vI k KJ (.str v (KJ+1))])]) life dr (tk+1) os) (p₁:=p) (a:=.yield PUnit.unit) ?_ ?_
  rotate_left
  ·exact h
  refine Ex.bind (a:=()) (p₁:=p) (y3 (es:=es) Kx (by subst hd;exact mP rfl) (u.low r.1) (by exact Td z)) ?_
  have:({ sh (l₁++[dObj es]) life dr tk os with heap:=(sh (l₁++[dObj es]) life dr tk os).heap.update d (Obj.mapDictKeys λx=>x.push (vI k KJ (.str v (KJ+1)))),toks:=(sh (l₁++[dObj es]) life dr tk os).toks+1 }:Shared)=sh (l₁++[dObj (es++[vI k KJ (.str v (KJ+1))])]) life dr (tk+1) os:=by subst hd;rw[kB,iz]
  rw[this];exact Ex.pure
theorem BM{l₁:List Obj}(Kx:28<=l₁.length)(xs:List (Int×Str))(lo:Int)(tk:Nat)(p:Pos)(h0:xs≠[])(Mr:xs.length<=15)(r:dF lo xs):
  Ex pr (wf w b) (subDict (xs.map (pT q))) (1+13*xs.length) (sh l₁ life dr tk os) p l₁.length (sh (l₁++[dObj (ents2 tk xs)]) life dr (tk+3*xs.length) os) q:=by
 have WM:=y2 (pr:=pr) (w:=wf w b) (q:=q) (s:=sh (l₁++[dObj []]) life dr tk os) xs (sh (l₁++[dObj []]) life dr tk os) p;rw[Q5 h0]at WM;have Km:=y4 (pr:=pr) (w:=w) (life:=life) (dr:=dr) (os:=os) (b:=b) rfl Kx q xs [] lo tk (tk+2*xs.length) (λU m=>nomatch m) r (by rw[sizeLine_eq];simp;lia);rw[show tk+2*xs.length+xs.length=tk+3*xs.length by lia]at Km;refine Ex.bind (n:=1) (n':=13*xs.length) (a:=l₁.length) (HX:=sh (l₁++[dObj []]) life dr tk os) (p₁:=p) ?_ ?_
 ·have e:(sh l₁ life dr tk os).heap.objs.size=l₁.length:=by simp
  have:=Ex.alloc (pr:=pr) (w:=wf w b) (o:={ cls:=.type "dict",data:=.dict #[] }) (k:=Sem.pure) (s:=sh l₁ life dr tk os) (p:=p) (n:=0) Ex.pure
  rw[e]at this;have e2:(sh l₁ life dr tk os).heap.push { cls:=.type "dict",data:=.dict #[] }=hp (l₁++[dObj []]) life:=vR;rw[e2]at this;exact this
 ·refine Ex.bind (n:=13*xs.length) (n':=0) (a:=()) (HX:=sh (l₁++[dObj (ents2 tk xs)]) life dr (tk+3*xs.length) os) (p₁:=q) (Ex.holding _ ?_) Ex.pure
  rw[Rb (by rw[Qs];exact Mr)];rw[show 13*xs.length=3*xs.length+(10*xs.length+0) by lia];refine Ex.bind WM ?_;exact Ex.holding _ (Ex.bind Km Ex.pure)
end
end
section
set_option backward.match.sparseCases true
noncomputable def v6{α:Type}:Sem α->Obj->Sem α|.load _ _ k=>k|_=>λU=>.unsupported ""
noncomputable def Dx{α:Type}:Sem α->Option Value|.load _ p _=>p|_=>none
theorem xk(a:Addr):isInstance (.ref a) (.type "dict")=.load a (Dx (isInstance (.ref a) (.type "dict"))) (v6 (isInstance (.ref a) (.type "dict"))):=by kernel_rfl
theorem zC(a:Addr)(es:List DictEntry):v6 (isInstance (.ref a) (.type "dict")) (dObj es)=.pure true:=by kernel_rfl
theorem xo(a:Addr):specialOf (.ref a) "__iter__" = .load a (Dx (specialOf (.ref a) "__iter__")) (v6 (specialOf (.ref a) "__iter__")):=by kernel_rfl
theorem zI(a:Addr)(es:List DictEntry):v6 (specialOf (.ref a) "__iter__") (dObj es)=.pure (some (.builtin "dict.__iter__")):=by kernel_rfl
section
variable{pr:Program}{w:World}{life:Life}{dr:Drawn}{os:OsState}{tk:Nat}{p:Pos}
def ki:Int->List DictEntry->Prop
 |_,[]=>True
 |lo,e::r=>lo<e.hash/\(∃k t,e.key=.int k t)/\ki e.hash r
theorem eB.pushE{lo:Int}{es:List DictEntry}{e:DictEntry}(u:eB lo es)(l:lo<e.hash)(hk:∃k t,e.key=.int k t):eB e.hash (es++[e]):=by
 intro x m;rcases Qz.mp m with m|m
 ·exact⟨Int.le_of_lt (Int.lt_of_le_of_lt (u x m).1 l),(u x m).2⟩
 ·obtain rfl:=QB.mp m
  exact⟨Tw _,hk⟩
theorem jo{s:Shared}{a:Addr}{es:List DictEntry}{pt:Option Value}(h:s.heap.get? a=some (dObj es)):Ex pr w (dictEntries a pt) 1 s p es.toArray s p:=Ex.load h Ex.pure
theorem sr{s:Shared}{a:Addr}{es:List DictEntry}{pt:Option Value}(h:s.heap.get? a=some (dObj es)):Ex pr w (dictEpoch a pt) 1 s p es.length s p:=Ex.load h Ex.pure
theorem iF{L1 L2:List Obj}{D S:List DictEntry}:(hp (L1++dObj D::(L2++[dObj S])) life).get? (L1.length+1+L2.length)=some (dObj S):=by
 have:L1++dObj D::(L2++[dObj S])=(L1++dObj D::L2)++dObj S::[]:=by simp
 rw[this];have e:L1.length+1+L2.length=(L1++dObj D::L2).length:=by simp;exact Nat.succ_add_eq_add_succ L1.length L2.length
 rw[e];exact mP rfl
theorem y1{L1 L2:List Obj}{S:List DictEntry}(Kx:28<=L1.length):∀(S2 S1 D:List DictEntry)(lo:Int),S=S1++S2->eB lo D->ki lo S2->D.length+S2.length<sizeLine->
  Ex pr w (forIn (List.range' S1.length S2.length) PUnit.unit λ(i:Nat)(_:PUnit)=>(do
   let x <-dictEntries (L1.length+1+L2.length)
   match x[i]? with
   |some e=>do
    PySem.holding [e.key,e.val] (dictPut L1.length e.hash e.key e.val)
    let y <-dictEpoch (L1.length+1+L2.length)
    if(y != S.length)=true then do
     unsupported "dict.changed-during-merge"
     pure (ForInStep.yield PUnit.unit)
    else pure (ForInStep.yield PUnit.unit)
   |_=>do
    unsupported "dict.changed-during-merge"
    : Sem (ForInStep PUnit)))
   (6*S2.length) (sh (L1++dObj D::(L2++[dObj S])) life dr tk os) p PUnit.unit (sh (L1++dObj (D++S2)::(L2++[dObj S])) life dr tk os) p:=by
 intro X_;induction X_ with
 |nil=>intro S1 D lo _ _ _ _;rw[QN];exact Ex.pure
 |cons e S2 IH=>
  intro S1 D lo hS u r z;obtain⟨r1,⟨k,t,hk⟩,r2⟩:=r;rw[QK]at z;rw[QK,List.range'_succ,SJ];have h:=IH (S1++[e]) (D++[e]) e.hash (by rw[hS];simp) (u.pushE r1 ⟨k,t,hk⟩) r2 (by rw[Qu];simp;exact z7 z);rw[QQ,TX,show(S1++[e]).length=S1.length+1 by simp]at h;rw[show 6*(S2.length+1)=(1+(4+(1+0)))+6*S2.length by lia];refine Ex.bind (a:=.yield PUnit.unit) (HX:=sh (L1++dObj (D++[e])::(L2++[dObj S])) life dr tk os) (p₁:=p) ?_ ?_
  rotate_left
  ·exact h
  refine Ex.bind (a:=S.toArray) (HX:=sh (L1++dObj D::(L2++[dObj S])) life dr tk os) (p₁:=p) (jo iF) ?_;have he:S.toArray[S1.length]? = some e:=by rw[hS];simp
  rw[he];refine Ex.bind (a:=()) (HX:=sh (L1++dObj (D++[e])::(L2++[dObj S])) life dr tk os) (p₁:=p) (Ex.holding _ ?_) ?_
  ·obtain⟨eh,ek,ev⟩:=e
   obtain rfl:ek=.int k t:=hk;have q:=Ea (pr:=pr) (w:=w) (s:=sh (L1++dObj D::(L2++[dObj S])) life dr tk os) (p:=p) (d:=L1.length) (k:=k) (t:=t) (v:=ev) (es:=D) (h:=eh) Kx (mP rfl) (u.low r1) (by exact Td z)
   have:(sh (L1++dObj D::(L2++[dObj S])) life dr tk os).heap.update L1.length (Obj.mapDictKeys λx=>x.push ⟨eh,.int k t,ev⟩)=hp (L1++dObj (D++[⟨eh,.int k t,ev⟩])::(L2++[dObj S])) life:=by rw[kB,iz]
   rw[this]at q;exact q
  ·refine Ex.bind (a:=S.length) (HX:=sh (L1++dObj (D++[e])::(L2++[dObj S])) life dr tk os) (p₁:=p) (sr iF) ?_
   rw[Q5 (by simp)];exact Ex.pure
theorem y0{L1 L2:List Obj}{S D:List DictEntry}{lo:Int}(Kx:28<=L1.length)(h0:D≠[])(u:eB lo D)(r:ki lo S)(z:D.length+S.length<sizeLine):
  Ex pr w (mergeMapping L1.length (.ref (L1.length+1+L2.length)) false) (5+6*S.length) (sh (L1++dObj D::(L2++[dObj S])) life dr tk os) p () (sh (L1++dObj (D++S)::(L2++[dObj S])) life dr tk os) p:=by
 have hl:=y1 (pr:=pr) (w:=w) (life:=life) (dr:=dr) (os:=os) (tk:=tk) (p:=p) (L1:=L1) (L2:=L2) (S:=S) Kx S [] D lo rfl u r z;rw[Ro]at hl;rw[show 5+6*S.length=1+(1+(1+(1+(1+(6*S.length+0))))) by lia];refine Ex.bind (a:=true) (HX:=sh (L1++dObj D::(L2++[dObj S])) life dr tk os) (p₁:=p) ?_ ?_
 ·rw[xk]
  refine Ex.load iF ?_;rw[zC];exact Ex.pure
 rw[Rb rfl];refine Ex.bind (a:=some (.builtin "dict.__iter__")) (HX:=sh (L1++dObj D::(L2++[dObj S])) life dr tk os) (p₁:=p) ?_ ?_
 ·rw[xo]
  refine Ex.load iF ?_;rw[zI];exact Ex.pure
 have hs:((L1.length+1+L2.length)==sysModules)=false:=by
  have:sysModules=1:=rfl
  rw[this,beq_eq_false_iff_ne];lia
 rw[pure_bind,beq_self_eq_true];show Ex pr w (ite ((L1.length+1+L2.length==sysModules)=true) _ (dictEntries L1.length >>= _)) _ _ _ _ _ _;rw[hs,Q5 Rc];refine Ex.bind (a:=D.toArray) (HX:=sh (L1++dObj D::(L2++[dObj S])) life dr tk os) (p₁:=p) (jo (mP rfl)) ?_;rw[Q5 (by simpa using h0)];refine Ex.bind (a:=S.toArray) (HX:=sh (L1++dObj D::(L2++[dObj S])) life dr tk os) (p₁:=p) (jo iF) ?_;refine Ex.bind (a:=S.length) (HX:=sh (L1++dObj D::(L2++[dObj S])) life dr tk os) (p₁:=p) (sr iF) ?_;rw[List.range_eq_range',QJ];exact Ex.bind hl Ex.pure
end
end
theorem dF.app:∀{a b:List (Int×Str)}{lo:Int},dF lo (a++b)->dF lo a/\dF (gm lo a) b:=by
 intro X_;induction X_ with
 |nil=>intro _ _ h;exact⟨trivial,h⟩
 |cons q_ l_ IH=>intro _ _ h;obtain⟨_,_⟩:=q_;exact⟨⟨h.1,(IH h.2).1⟩,(IH h.2).2⟩
theorem dF.e3:∀{a:List (Int×Str)}{lo:Int}{tk:Nat},dF lo a->ki lo (ents3 a tk):=by
 intro X_;induction X_ with
 |nil=>intro _ _ _;exact trivial
 |cons q_ l_ IH=>intro _ _ h;obtain⟨_,_⟩:=q_;exact⟨h.1,⟨_,_,rfl⟩,IH h.2⟩
theorem dF.e2:∀{a:List (Int×Str)}{lo:Int}{tk:Nat},dF lo a->ki lo (ents2 tk a):=by
 intro X_;induction X_ with
 |nil=>intro _ _ _;exact trivial
 |cons q_ l_ IH=>intro _ _ h;obtain⟨_,_⟩:=q_;exact⟨h.1,⟨_,_,rfl⟩,IH h.2⟩
theorem eB.e3:∀{a:List (Int×Str)}{lo:Int}{tk:Nat}{D:List DictEntry},eB lo D->dF lo a->eB (gm lo a) (D++ents3 a tk):=by
 intro X_;induction X_ with
 |nil=>intro lo _ D u _;exact(QV (eB lo) (QN D)).mpr u
 |cons q_ r IH=>
  intro lo tk D u h;obtain⟨k,v⟩:=q_
  have:=IH (tk:=tk+3) (u.push (k:=k) (t:=tk) (v:=.str v (tk+1)) h.1) h.2
  rw[QQ]at this;exact this
theorem jl:∀(a:List (Int×Str))(tk:Nat),(ents3 a tk).length=a.length:=by
 intro X_;induction X_ with
 |nil=>intro _;exact rfl
 |cons q_ r IH=>intro tk;obtain⟨_,_⟩:=q_;exact QV Nat.succ (IH _)
theorem yP:∀(a:List (Int×Str))(tk:Nat),(ents2 tk a).length=a.length:=by
 intro X_;induction X_ with
 |nil=>intro _;exact rfl
 |cons q_ r IH=>intro tk;obtain⟨_,_⟩:=q_;exact QV Nat.succ (IH _)
noncomputable abbrev It:=Option (Sem Value)×Sem Value
noncomputable abbrev gI(x:Sem Value×Sem Value):It:=(some x.1,x.2)
def bm(run:List (Sem Value×Sem Value))(main:Option Addr):Sem (Option Addr):=
 if run.isEmpty=true then pure main else match main with
  |none=>do
   let x <-subDict run
   pure (some x)
  |some d=>do
   let sub <-PySem.holding [.ref d] (subDict run)
   (PySem.holding [.ref d,.ref sub] (mergeMapping d (.ref sub) false)).onRaise λx=>do
    let _ <-PySem.holding [.ref d,x] (runValue (.builtin "proto.let_go" {}))
    pure ()
   pure (some d)
section
variable(f:It->Option Addr×List (Sem Value×Sem Value)->Sem (ForInStep (Option Addr×List (Sem Value×Sem Value))))(hf:∀(p:Sem Value×Sem Value)(main:Option Addr)(run:List (Sem Value×Sem Value)),run.length+1≠17->f (gI p) (main,run)=pure (.yield (main,run++[p])))(hg:∀(p:Sem Value×Sem Value)(main:Option Addr)(run:List (Sem Value×Sem Value)),run.length+1=17->f (gI p) (main,run)=bm (run++[p]) main >>= λm=>pure (.yield (m,[])))
include hf in
theorem zh(main:Option Addr)(rest:List It):∀(xs run:List (Sem Value×Sem Value)),run.length+xs.length<17->forIn (xs.map gI++rest) (main,run) f=forIn rest (main,run++xs) f:=by
 intro X_;induction X_ with
 |nil=>intro run _;simp
 |cons p xs IH=>intro run h;rw[QK]at h;rw[QW,RY,SJ,hf p main run (by lia),pure_bind];dsimp only;rw[IH (run++[p]) (by simp;lia),QQ,TX]
include hf hg in
theorem Gz(main:Option Addr)(rest:List It)(xs:List (Sem Value×Sem Value))(h:xs.length=17):forIn (xs.map gI++rest) (main,[]) f=bm xs main >>= λm=>forIn rest (m,[]) f:=by
 obtain⟨ys,y,rfl⟩:∃ys y,xs=ys++[y]:=⟨xs.dropLast,xs.getLast (by rintro rfl;contradiction),(List.dropLast_concat_getLast _).symm⟩;have hy:ys.length=16:=by simpa using h
 rw[QU,QQ,zh f hf main _ ys [] (by simp;lia),SK];rw[QW,Tq,TX,SJ,hg y main ys (by exact Nat.succ_inj.mpr hy),bind_assoc];rfl
end
def entsC:List (List (Int×Str))->Nat->List DictEntry
 |[],_=>[]
 |c::r,tk=>ents3 c tk++entsC r (tk+51)
def subsC:List (List (Int×Str))->Nat->List Obj
 |[],_=>[]
 |c::r,tk=>dObj (ents3 c tk)::subsC r (tk+51)
section
variable{pr:Program}{w:World}{life:Life}{dr:Drawn}{os:OsState}{b:Bool}{q:Pos}
theorem sw{L1 L2:List Obj}{D S:List DictEntry}{lo:Int}{xs:List (Int×Str)}{tk tk' n:Nat}{p:Pos}(Kx:28<=L1.length)(hx:xs≠[])(h0:D≠[])(u:eB lo D)(r:ki lo S)(z:D.length+S.length<sizeLine)(h:Ex pr (wf w b) (subDict (xs.map (pT q))) n (sh (L1++dObj D::L2) life dr tk os) p (L1++dObj D::L2).length (sh ((L1++dObj D::L2)++[dObj S]) life dr tk' os) q):
  Ex pr (wf w b) (bm (xs.map (pT q)) (some L1.length)) (n+(5+6*S.length)) (sh (L1++dObj D::L2) life dr tk os) p (some L1.length) (sh (L1++dObj (D++S)::(L2++[dObj S])) life dr tk' os) q:=by
 unfold bm;rw[Q5 (by simpa using hx)];refine Ex.bind (Ex.holding _ h) ?_;have e:(L1++dObj D::L2).length=L1.length+1+L2.length:=by simp;exact Eq.symm (Nat.succ_add_eq_add_succ L1.length L2.length)
 have e2:(L1++dObj D::L2)++[dObj S]=L1++dObj D::(L2++[dObj S]):=by simp
 rw[e,e2];exact Ex.bind (n':=0) (Ex.onRaise _ (Ex.holding _ (y0 Kx h0 u r z))) Ex.pure
section
variable(f:It->Option Addr×List (Sem Value×Sem Value)->Sem (ForInStep (Option Addr×List (Sem Value×Sem Value))))(hf:∀(p:Sem Value×Sem Value)(main:Option Addr)(run:List (Sem Value×Sem Value)),run.length+1≠17->f (gI p) (main,run)=pure (.yield (main,run++[p])))(hg:∀(p:Sem Value×Sem Value)(main:Option Addr)(run:List (Sem Value×Sem Value)),run.length+1=17->f (gI p) (main,run)=bm (run++[p]) main >>= λm=>pure (.yield (m,[])))
include hf hg in
theorem xb{L1:List Obj}(Kx:28<=L1.length)(rest:List It){α:Type}(κ:Option Addr×List (Sem Value×Sem Value)->Sem α):∀(cs:List (List (Int×Str)))(D:List DictEntry)(L2:List Obj)(lo:Int)(tk:Nat)(p:Pos)(n:Nat)(a:α)(s':Shared)(p':Pos),
  (∀c∈cs,c.length=17)->D≠[]->eB lo D->dF lo cs.flatten->D.length+cs.flatten.length<sizeLine->
  Ex pr (wf w b) (forIn rest (some L1.length,[]) f >>= κ) n (sh (L1++dObj (D++entsC cs tk)::(L2++subsC cs tk)) life dr (tk+51*cs.length) os) (if cs=[]then p else q) a s' p'->
  Ex pr (wf w b) (forIn (cs.flatten.map (λx=>gI (pT q x))++rest) (some L1.length,[]) f >>= κ) (330*cs.length+n) (sh (L1++dObj D::L2) life dr tk os) p a s' p':=by
 intro X_;induction X_ with
 |nil=>intro D L2 lo tk p n a s' p' _ _ _ _ _ h;rw[show D++entsC [] tk=D from QN D,show L2++subsC [] tk=L2 from QN L2,Rb rfl]at h;rw[show 330*([]:List (List (Int×Str))).length+n=n from RP n];exact h
 |cons c cs IH=>
  intro D L2 lo tk p n a s' p' Mi h0 u r z h;rw[SE]at r z;refine xA r.app λr1 r2=>?_;have hc:=Mi c (.head _);rw[Qu,hc]at z;have e0:(List.map (λx=>gI (pT q x)) (c::cs).flatten++rest)=(c.map (pT q)).map gI++(cs.flatten.map (λx=>gI (pT q x))++rest):=by rw[SE,QU,QZ,QQ];rfl
  rw[e0,Gz f hf hg _ _ _ (by rw[Qs];exact hc),bind_assoc];have s1:=y5 (pr:=pr) (w:=w) (life:=life) (dr:=dr) (os:=os) (b:=b) (q:=q) (l₁:=L1++dObj D::L2) (by simp;exact Nat.le_add_right_of_le Kx) c lo tk p hc r1;have fl:=sw (S:=ents3 c tk) Kx (by rintro rfl;contradiction) h0 u r1.e3 (by rw[jl,hc];lia) s1;rw[jl,hc]at fl;have ih:=IH (D++ents3 c tk) (L2++[dObj (ents3 c tk)]) (gm lo c) (tk+51) q n a s' p' (λx m=>Mi x (.tail _ m)) (by simp[h0]) (u.e3 r1) r2 (by rw[Qu,jl,hc];lia)
   (by
    have e1:D++entsC (c::cs) tk=D++ents3 c tk++entsC cs (tk+51):=(QQ D _ _).symm;have e2:L2++subsC (c::cs) tk=L2++[dObj (ents3 c tk)]++subsC cs (tk+51):=(QQ L2 [_] _).symm;have e3:tk+51*(c::cs).length=tk+51+51*cs.length:=by rw[QK];lia
    rw[e1,e2,e3,Q5 (by simp)]at h;rw[ite_self];exact h)
  rw[show 330*(c::cs).length+n=(223+(5+6*17))+(330*cs.length+n) by rw[QK];lia];exact Ex.bind fl ih
end
theorem BL{L1:List Obj}(Kx:28<=L1.length)(c0:List (Int×Str))(cs:List (List (Int×Str)))(last:List (Int×Str))(lo:Int)(tk:Nat)(p:Pos)(Pg:c0.length=17)(RA:∀c∈cs,c.length=17)(KH:last≠[])(hl:last.length<=15)(r:dF lo (c0++(cs.flatten++last)))(z:17+(cs.flatten.length+last.length)<sizeLine):
  Ex pr (wf w b) (dictDisplay ((c0++(cs.flatten++last)).map λx=>gI (pT q x))) (223+(330*cs.length+(1+13*last.length+(5+6*last.length)))) (sh L1 life dr tk os) p (.ref L1.length)
   (sh (L1++dObj (ents3 c0 tk++entsC cs (tk+51)++ents2 (tk+51+51*cs.length) last)::(subsC cs (tk+51)++[dObj (ents2 (tk+51+51*cs.length) last)])) life dr (tk+51+51*cs.length+3*last.length) os) q:=by
 refine xA r.app λr0 r'=>?_;refine xA r'.app λr1 r2=>?_;have key:∀f,(∀(p:Sem Value×Sem Value)(main:Option Addr)(run:List (Sem Value×Sem Value)),run.length+1≠17->f (gI p) (main,run)=pure (.yield (main,run++[p])))->
   (∀(p:Sem Value×Sem Value)(main:Option Addr)(run:List (Sem Value×Sem Value)),run.length+1=17->f (gI p) (main,run)=bm (run++[p]) main >>= λm=>pure (.yield (m,[])))->
   Ex pr (wf w b) (forIn ((c0++(cs.flatten++last)).map λx=>gI (pT q x)) ((none:Option Addr),([]:List (Sem Value×Sem Value))) f >>= λr=>bm r.2 r.1 >>= λm=>match m with|some d=>pure (.ref d)|none=>newDict)
    (223+(330*cs.length+(1+13*last.length+(5+6*last.length)))) (sh L1 life dr tk os) p (.ref L1.length)
    (sh (L1++dObj (ents3 c0 tk++entsC cs (tk+51)++ents2 (tk+51+51*cs.length) last)::(subsC cs (tk+51)++[dObj (ents2 (tk+51+51*cs.length) last)])) life dr (tk+51+51*cs.length+3*last.length) os) q:=by
  intro f hf hg;have e0:((c0++(cs.flatten++last)).map λx=>gI (pT q x))=(c0.map (pT q)).map gI++(cs.flatten.map (λx=>gI (pT q x))++(last.map (pT q)).map gI):=by rw[QU,QU,QZ,QZ];rfl
  rw[e0,Gz f hf hg _ _ _ (by rw[Qs];exact Pg),bind_assoc];have s1:=y5 (pr:=pr) (w:=w) (life:=life) (dr:=dr) (os:=os) (b:=b) (q:=q) (l₁:=L1) Kx c0 lo tk p Pg r0;refine Ex.bind (a:=some L1.length) (HX:=sh (L1++[dObj (ents3 c0 tk)]) life dr (tk+51) os) (p₁:=q) ?_ ?_
  ·unfold bm
   rw[Q5 (by rw[List.isEmpty_iff];rintro e;rw[List.map_eq_nil_iff]at e;subst e;contradiction)];exact Ex.bind (n:=223) (n':=0) s1 Ex.pure
  ·have hD:ents3 c0 tk≠[]:=by rintro e;have:=jl c0 tk;rw[e,Pg]at this;contradiction
   have u0:eB (gm lo c0) (ents3 c0 tk):=by have:=eB.e3 (tk:=tk) (D:=[]) (lo:=lo) (λU m=>nomatch m) r0;exact this
   have u1:eB (gm (gm lo c0) cs.flatten) (ents3 c0 tk++entsC cs (tk+51)):=by
    have:∀(cs:List (List (Int×Str)))(D:List DictEntry)(lo:Int)(tk:Nat),eB lo D->dF lo cs.flatten->eB (gm lo cs.flatten) (D++entsC cs tk):=by
     intro cs;induction cs with
     |nil=>intro D lo tk u _;exact(QV (eB lo) (QN D)).mpr u
     |cons c cs ih=>
      intro D lo tk u r;rw[SE]at r ⊢;refine xA r.app λa b=>?_
      have:=ih (D++ents3 c tk) (gm lo c) (tk+51) (u.e3 a) b
      rw[show D++entsC (c::cs) tk=D++ents3 c tk++entsC cs (tk+51)from(QQ D _ _).symm];have e:∀(x y:List (Int×Str))(lo:Int),gm lo (x++y)=gm (gm lo x) y:=by
       intro x;induction x with
       |nil=>intro y lo;rfl
       |cons h t ih=>intro y lo;exact ih y _
      rw[e];exact this
    exact this cs _ _ _ u0 r1
   have Yu:∀(cs:List (List (Int×Str)))(tk:Nat),(entsC cs tk).length=cs.flatten.length:=by
    intro cs;induction cs with
    |nil=>intro tk;rfl
    |cons c cs ih=>intro tk;refine Qu.trans ?_;rw[jl,ih,SE,Qu]
   have s2:=BM (pr:=pr) (w:=w) (life:=life) (dr:=dr) (os:=os) (b:=b) (q:=q) (l₁:=L1++dObj (ents3 c0 tk++entsC cs (tk+51))::subsC cs (tk+51)) (by simp;exact Nat.le_add_right_of_le Kx) last _ (tk+51+51*cs.length) q KH hl r2;have fl:=sw (S:=ents2 (tk+51+51*cs.length) last) Kx KH (by simp[hD]) u1 r2.e2 (by rw[Qu,jl,Yu,yP,Pg];lia) s2;rw[yP]at fl
   have:=xb f hf hg (pr:=pr) (w:=w) (life:=life) (dr:=dr) (os:=os) (b:=b) (q:=q) (L1:=L1) Kx ((last.map (pT q)).map gI) (λr=>bm r.2 r.1 >>= λm=>match m with|some d=>pure (.ref d)|none=>newDict) cs (ents3 c0 tk) [] (gm lo c0) (tk+51) q _ _ _ _ RA hD u0 r1 (by rw[jl,Pg];lia)
    (by have g0:=zh f hf (some L1.length) [] (last.map (pT q)) [] (by simp;lia);rw[QN,SK]at g0;rw[g0,List.forIn_nil,pure_bind,ite_self,SK];exact Ex.bind (n':=0) fl Ex.pure)
   simpa using this
 unfold dictDisplay;exact key _ (λp main run h=>by
  have JO:((run++[(p.1,p.2)]).length==17)=false:=by simp;exact Nat.add_one_ne_add_one_iff.mp h
  exact Q5 (by rw[JO];exact Rc)) (λp main run h=>by
  have JO:((run++[(p.1,p.2)]).length==17)=true:=by simp;exact Nat.add_right_cancel h
  exact(Rb JO).trans rfl)
end
noncomputable def chunked{α:Type}:Nat->List α->List (List α)
 |0,_=>[]
 |n+1,l=>l.take 17::chunked n (l.drop 17)
noncomputable def dKV:Stmt->List (Int×Str)
 |.Assign _ (.Dict ks vs _) _=>(ks.zip vs).map λx=>((match x.1 with|some (.Constant (.int i) _ _)=>i|_=>0),(match x.2 with|.Constant (.str s) _ _=>s|_=>Str.empty))
 |_=>[]
noncomputable def dPos:Stmt->Pos|.Assign _ (.Dict _ _ q) _=>q|_=>⟨0,0,0,0⟩
noncomputable def dKs:Stmt->List (Option Expr)|.Assign _ (.Dict ks _ _) _=>ks|_=>[]
noncomputable def dVs:Stmt->List Expr|.Assign _ (.Dict _ vs _) _=>vs|_=>[]
noncomputable def aPos:Stmt->Pos|.Assign _ _ q=>q|_=>⟨0,0,0,0⟩
noncomputable def aNm:Stmt->Str|.Assign [.Name n _] _ _=>n|_=>Str.empty
noncomputable def aNp:Stmt->Pos|.Assign [.Name _ q] _ _=>q|_=>⟨0,0,0,0⟩
noncomputable def risesB:Int->List (Int×Str)->Bool
 |_,[]=>true
 |lo,(k,_)::r=>decide (lo<hashInt k)&&risesB (hashInt k) r
theorem Ax:∀{l:List (Int×Str)}{lo:Int},risesB lo l=true->dF lo l:=by
 intro X_;induction X_ with
 |nil=>intro _ _;exact trivial
 |cons q_ l_ IH=>intro _ h;obtain⟨_,_⟩:=q_;exact⟨QS (QI.mp h).1,IH (QI.mp h).2⟩
def kap(ZV:Env)(s:Stmt)(v:Value):Sem Flow:=do standAt (aNp s);bindName ZV (aNm s) v;pure .next
theorem run_dict{pr:Program}{w:World}{b:Bool}{ZV:Env}{s:Stmt}{bd:List Stmt}{q0 p0:Pos}{L1:List Obj}{life:Life}{dr:Drawn}{tk:Nat}{os:OsState}{N:Nat}{r:Flow×Shared×Code×Pos}{c0:List (Int×Str)}{cs:List (List (Int×Str))}{last:List (Int×Str)}(hs:s=.Assign [.Name (aNm s) (aNp s)] (.Dict (dKs s) (dVs s) (dPos s)) (aPos s))(hi:(evalEachOpt (dKs s) ZV).zip ((evalEach (dVs s) ZV).map λv=>do let x <-v;standAt (dPos s);pure x)=(c0++(cs.flatten++last)).map λx=>gI (pT (dPos s) x))(Kx:28<=L1.length)(Pg:c0.length=17)(RA:(cs.all λc=>c.length==17)=true)(hl:(!last.isEmpty&&decide (last.length<=15))=true)(hr:risesB (-1) (c0++(cs.flatten++last))=true)(z:17+(cs.flatten.length+last.length)<sizeLine)(h:segRun treeTable pr (wf w b) 28 (some (.ref 6)) 1 N (sh (L1++dObj (ents3 c0 tk++entsC cs (tk+51)++ents2 (tk+51+51*cs.length) last)::(subsC cs (tk+51)++[dObj (ents2 (tk+51+51*cs.length) last)])) life dr (tk+51+51*cs.length+3*last.length) os)
   ⟨(kap ZV s (.ref L1.length)).wrap doneF deadEnd id id,.body bd ZV,dPos s,[topFrame q0]⟩=some r):
  segRun treeTable pr (wf w b) 28 (some (.ref 6)) 1 ((1+(1+(223+(330*cs.length+(1+13*last.length+(5+6*last.length))))))+N) (sh L1 life dr tk os) (piecesOf [s] ZV (.body bd ZV) p0 [topFrame q0])=some r:=by
 refine xA (QI.mp hl) λKH Mx=>?_;have hd:=BL (pr:=pr) (w:=w) (life:=life) (dr:=dr) (os:=os) (b:=b) (q:=dPos s) (L1:=L1) Kx c0 cs last (-1) tk (dPos s) Pg (λc m=>by simpa using QL.mp RA c m) (by simpa using KH) (QS Mx) (Ax hr) z;have e:Ex pr (wf w b) (do standAt (aPos s);standAt (dPos s);dictDisplay ((evalEachOpt (dKs s) ZV).zip ((evalEach (dVs s) ZV).map λv=>do let x <-v;standAt (dPos s);pure x))) _ (sh L1 life dr tk os) p0 _ _ _:=
  Ex.bind (n:=1) (a:=()) (HX:=sh L1 life dr tk os) (p₁:=aPos s) (Ex.at Ex.pure) (Ex.bind (n:=1) (a:=()) (HX:=sh L1 life dr tk os) (p₁:=dPos s) (Ex.at Ex.pure) (hi▸hd))
 have t:execs [s] ZV=(do standAt (aPos s);standAt (dPos s);dictDisplay ((evalEachOpt (dKs s) ZV).zip ((evalEach (dVs s) ZV).map λv=>do let x <-v;standAt (dPos s);pure x)):Sem Value) >>= kap ZV s:=by have e1:=exec_Assign_Name ZV (aNm s) (aNp s) (.Dict (dKs s) (dVs s) (dPos s)) (aPos s) rfl;rw[<-hs,arm_eval_Dict]at e1;rw[execs_cons,e1];unfold kap;simp only[bind_assoc,pure_bind,execs_nil]
 show segRun treeTable pr (wf w b) 28 (some (.ref 6)) 1 _ (sh L1 life dr tk os) ⟨(execs [s] ZV).wrap doneF deadEnd id id,.body bd ZV,p0,[topFrame q0]⟩=some r;rw[t,Sem.bind_eq_wrap',Sem.wrap_wrap];exact seg_go (Gv e rfl q0 ZV bd _ _ _) h
end Mine.Lake.D
namespace Mine.Lake.H
section

open Mine
noncomputable abbrev P0:Program:=PySem.Challenge.pw_kl0127_02
def st(i:Nat):Stmt:=((behindTheImports P0)[i]?).getD (.Pass ⟨0,0,0,0⟩)
noncomputable def Gg:Stmt->List Stmt|.ClassDef _ _ _ b _ _ _ _ _ _ _=>b|_=>[]
def sub(s:Stmt)(k:Nat):Stmt:=((Gg s)[k]?).getD (.Pass ⟨0,0,0,0⟩)
noncomputable def Gx:Stmt->Arguments|.FunctionDef _ a _ _ _ _ _ _ _ _=>a|_=>⟨[],[],none,[],[],none,[]⟩
noncomputable def Dp:Stmt->List Stmt|.FunctionDef _ _ b _ _ _ _ _ _ _=>b|_=>[]
noncomputable def y6:Stmt->Scope|.FunctionDef _ _ _ _ _ _ s _ _ _=>s|_=>⟨.module,[],false,false,[]⟩
noncomputable abbrev ze(p:Params)(x:String)(t:Nat)(v:Value):DictEntry:=⟨PyData.keyHash p (.ofString x),.str (.ofString x) t,v⟩
noncomputable abbrev zs(x:String)(t:Nat):Value:=.str (.ofString x) t
noncomputable abbrev zi(i:Int)(t:Nat):Value:=.int i t
noncomputable abbrev zn(o:Obj)(l r:BT):BT:=.node o l r
noncomputable abbrev zl(o:Obj):BT:=.node o .nil .nil
noncomputable abbrev zt(vs:Array Value)(n:Nat):Obj:=⟨.type "tuple",none,.seq vs n,#[]⟩
abbrev zg(x y:String)(s:Stmt):Data:=.func { name:=.ofString x,qualname:=.ofString y,params:=Gx s,body:=.stmts (Dp s),scope:=y6 s,globals:=0,closure:=[],defaults:=.none,kwdefaults:=.none,doc:=.none,pyModule:=.none,annotations:=none,code:=.none,closureTuple:=.none,builtins:=0 }
abbrev zgq:="/claim/cut.py"
abbrev zfq:="cpy313.wsgiref.headers"
abbrev zf(x y:String)(s:Stmt)(d k:Value)(m:String)(t:Nat)(c:Addr):Data:=.func { name:=.ofString x,qualname:=.ofString y,params:=Gx s,body:=.stmts (Dp s),scope:=y6 s,globals:=3,closure:=[],defaults:=d,kwdefaults:=k,doc:=.none,pyModule:=.str (.ofString m) t,annotations:=none,code:=.ref c,closureTuple:=.none,builtins:=0 }
abbrev zaq(x y:String)(t:Nat)(l a f:Int)(r g:Addr)(u v w:Value)(n:Nat):Obj:=⟨.type "code",none,.fields #[zs x t,zs y (t+1),zs zgq (t+2),zi l 0,zi a 0,zi 0 0,zi 0 0,zi f 0,.ref r,.bool true,zi 276 0,.ref g,.none,u,v,w,zi n 0,zi l 0,zs zgq (n+1)],#[]⟩
abbrev zbq(x y:String)(s:Stmt)(d k:Value)(m:String)(t:Nat)(c:Addr):Obj:=⟨.type "function",none,zf x y s d k m t c,#[]⟩
abbrev zcq(x y:String)(s:Stmt):Obj:=⟨.none,none,zg x y s,#[]⟩
noncomputable abbrev zeq(v:Array Value):Obj:=⟨.none,none,.fields v,#[]⟩
abbrev zdq(p:Params)(x:String)(t:Nat):DictEntry:=ze p x t (.builtin x)
def ZV:Env:={ scope:=P0.main.scope,locals:=mainNs,globals:=mainNs,cells:=[],code:=(.ref 30),frame:=some 31 }
def cd:Code:=.body (behindTheImports P0) ZV
noncomputable def life:Life:={ registered:=[],finalised:=[],alive:=[],known:=0,ids:=[],orphanDicts:=[],counting:=false,cnt:=#[],zero:=[],soft:=0,below:=false,collecting:=false,loading:=false,debug:=0,thresholds:=[2000,10,10],woke:=false,asked:=0,gcEnabled:=true,old:=[],middle:=[],young:=0,intoMiddle:=false }
noncomputable def q0:Pos:=⟨0,0,0,0⟩
def ux(p:Params):List DictEntry:=[(ze p "__doc__" 166 .none),(ze p "__package__" 167 .none),(ze p "__loader__" 168 (.builtin "__main__.__loader__#opaque")),(ze p "__spec__" 169 .none),(ze p "__annotations__" 170 (.ref 6)),(ze p "__builtins__" 171 (.ref 4)),(ze p "__file__" 173 (zs zgq 172)),(ze p "__cached__" 174 .none),(ze p "_sre" 275 (.ref 12)),(ze p "_wall" 288 (.ref 38)),(ze p "tspecials" 324 (.ref 43)),(ze p "_name_disallowed_re" 350 (.ref 48)),(ze p "_value_disallowed_re" 384 (.ref 53)),(ze p "_formatparam" 394 (.ref 61)),(ze p "Headers" 553 (.ref 184)),(ze p "b1_set" 615 (.ref 196)),(ze p "in_table_b1" 622 (.ref 206)),(ze p "b3_exceptions" 2573 (.ref 207)),(ze p "map_table_b3" 2581 (.ref 252)),(ze p "ENDMARKER" 2585 (zi 0 2584)),(ze p "LPAR" 2587 (zi 7 2586)),(ze p "RPAR" 2589 (zi 8 2588)),(ze p "LSQB" 2591 (zi 9 2590)),(ze p "RSQB" 2593 (zi 10 2592)),(ze p "COLON" 2595 (zi 11 2594)),(ze p "COMMA" 2597 (zi 12 2596)),(ze p "SEMI" 2599 (zi 13 2598)),(ze p "PLUS" 2601 (zi 14 2600)),(ze p "MINUS" 2603 (zi 15 2602)),(ze p "STAR" 2605 (zi 16 2604)),(ze p "SLASH" 2607 (zi 17 2606)),(ze p "VBAR" 2609 (zi 18 2608)),(ze p "AMPER" 2611 (zi 19 2610)),(ze p "LESS" 2613 (zi 20 2612)),(ze p "GREATER" 2615 (zi 21 2614)),(ze p "EQUAL" 2617 (zi 22 2616)),(ze p "DOT" 2619 (zi 23 2618)),(ze p "PERCENT" 2621 (zi 24 2620)),(ze p "LBRACE" 2623 (zi 25 2622)),(ze p "RBRACE" 2625 (zi 26 2624)),(ze p "EQEQUAL" 2627 (zi 27 2626)),(ze p "NOTEQUAL" 2629 (zi 28 2628)),(ze p "LESSEQUAL" 2631 (zi 29 2630)),(ze p "GREATEREQUAL" 2633 (zi 30 2632)),(ze p "TILDE" 2635 (zi 31 2634)),(ze p "CIRCUMFLEX" 2637 (zi 32 2636)),(ze p "LEFTSHIFT" 2639 (zi 33 2638)),(ze p "RIGHTSHIFT" 2641 (zi 34 2640)),(ze p "DOUBLESTAR" 2643 (zi 35 2642)),(ze p "PLUSEQUAL" 2645 (zi 36 2644)),(ze p "MINEQUAL" 2647 (zi 37 2646)),(ze p "STAREQUAL" 2649 (zi 38 2648)),(ze p "SLASHEQUAL" 2651 (zi 39 2650)),(ze p "PERCENTEQUAL" 2653 (zi 40 2652)),(ze p "AMPEREQUAL" 2655 (zi 41 2654)),(ze p "VBAREQUAL" 2657 (zi 42 2656)),(ze p "CIRCUMFLEXEQUAL" 2659 (zi 43 2658)),(ze p "LEFTSHIFTEQUAL" 2661 (zi 44 2660)),(ze p "RIGHTSHIFTEQUAL" 2663 (zi 45 2662)),(ze p "DOUBLESTAREQUAL" 2665 (zi 46 2664)),(ze p "DOUBLESLASH" 2667 (zi 47 2666)),(ze p "DOUBLESLASHEQUAL" 2669 (zi 48 2668)),(ze p "AT" 2671 (zi 49 2670)),(ze p "ATEQUAL" 2673 (zi 50 2672)),(ze p "RARROW" 2675 (zi 51 2674)),(ze p "ELLIPSIS" 2677 (zi 52 2676)),(ze p "COLONEQUAL" 2679 (zi 53 2678)),(ze p "EXCLAMATION" 2681 (zi 54 2680)),(ze p "NT_OFFSET" 2683 (zi 256 2682)),(ze p "EXACT_TOKEN_TYPES" 2780 (.ref 253)),(ze p "ISTERMINAL" 2787 (.ref 262)),(ze p "ISNONTERMINAL" 2794 (.ref 269)),(ze p "ISEOF" 2801 (.ref 276)),(ze p "_MAX_STRING_SIZE" 2805 (zi 40 2804)),(ze p "_MOVE_COST" 2807 (zi 2 2806)),(ze p "_CASE_COST" 2809 (zi 1 2808)),(ze p "_substitution_cost" 2817 (.ref 283)),(ze p "_levenshtein_distance" 2837 (.ref 290)),(ze p "_law_ends" 2845 (.ref 297)),(ze p "_law_drawn" 2851 (.ref 302)),(ze p "_law_typed" 2857 (.ref 307)),(ze p "_law_symbols" 2867 (.ref 314)),(ze p "_law_edges" 2879 (.ref 321)),(ze p "_law_sides" 2885 (.ref 326)),(ze p "_law_far" 2891 (.ref 331)),(ze p "_law_written" 2897 (.ref 336)),(ze p "law" 2903 (.ref 341))]
def o0(p:Params):Obj:=⟨(.type "dict"),none,(.dict #[(ze p "__name__" 1 (zs "builtins" 160)),(ze p "__doc__" 2 (.builtin "builtins.__doc__:str#opaque")),(ze p "__package__" 3 (.builtin "builtins.__package__:str#opaque")),(ze p "__loader__" 4 (.builtin "builtins.__loader__:shared#opaque")),(ze p "__spec__" 5 (.builtin "builtins.__spec__#opaque")),zdq p "__build_class__" 6,zdq p "__import__" 7,zdq p "abs" 8,zdq p "all" 9,zdq p "any" 10,zdq p "ascii" 11,zdq p "bin" 12,zdq p "breakpoint" 13,zdq p "callable" 14,zdq p "chr" 15,zdq p "compile" 16,zdq p "delattr" 17,zdq p "dir" 18,zdq p "divmod" 19,zdq p "eval" 20,zdq p "exec" 21,zdq p "format" 22,zdq p "getattr" 23,zdq p "globals" 24,zdq p "hasattr" 25,zdq p "hash" 26,zdq p "hex" 27,zdq p "id" 28,zdq p "input" 29,zdq p "isinstance" 30,zdq p "issubclass" 31,zdq p "iter" 32,zdq p "aiter" 33,zdq p "len" 34,zdq p "locals" 35,zdq p "max" 36,zdq p "min" 37,zdq p "next" 38,zdq p "anext" 39,zdq p "oct" 40,zdq p "ord" 41,zdq p "pow" 42,zdq p "print" 43,zdq p "repr" 44,zdq p "round" 45,zdq p "setattr" 46,zdq p "sorted" 47,zdq p "sum" 48,zdq p "vars" 49,(ze p "None" 50 .none),(ze p "Ellipsis" 51 .ellipsis),(ze p "NotImplemented" 52 .notImplemented),(ze p "False" 53 (.bool false)),(ze p "True" 54 (.bool true)),(ze p "bool" 55 (.type "bool")),(ze p "memoryview" 56 (.type "memoryview")),(ze p "bytearray" 57 (.type "bytearray")),(ze p "bytes" 58 (.type "bytes")),(ze p "classmethod" 59 (.type "classmethod")),(ze p "complex" 60 (.type "complex")),(ze p "dict" 61 (.type "dict")),(ze p "enumerate" 62 (.type "enumerate")),(ze p "filter" 63 (.type "filter")),(ze p "float" 64 (.type "float")),(ze p "frozenset" 65 (.type "frozenset")),(ze p "property" 66 (.type "property")),(ze p "int" 67 (.type "int")),(ze p "list" 68 (.type "list")),(ze p "map" 69 (.type "map")),(ze p "object" 70 (.type "object")),(ze p "range" 71 (.type "range")),(ze p "reversed" 72 (.type "reversed")),(ze p "set" 73 (.type "set")),(ze p "slice" 74 (.type "slice")),(ze p "staticmethod" 75 (.type "staticmethod")),(ze p "str" 76 (.type "str")),(ze p "super" 77 (.type "super")),(ze p "tuple" 78 (.type "tuple")),(ze p "type" 79 (.type "type")),(ze p "zip" 80 (.type "zip")),(ze p "__debug__" 81 (.bool true)),(ze p "BaseException" 82 (.type "BaseException")),(ze p "BaseExceptionGroup" 83 (.type "BaseExceptionGroup")),(ze p "Exception" 84 (.type "Exception")),(ze p "GeneratorExit" 85 (.type "GeneratorExit")),(ze p "KeyboardInterrupt" 86 (.type "KeyboardInterrupt")),(ze p "SystemExit" 87 (.type "SystemExit")),(ze p "ArithmeticError" 88 (.type "ArithmeticError")),(ze p "AssertionError" 89 (.type "AssertionError")),(ze p "AttributeError" 90 (.type "AttributeError")),(ze p "BufferError" 91 (.type "BufferError")),(ze p "EOFError" 92 (.type "EOFError")),(ze p "ImportError" 93 (.type "ImportError")),(ze p "LookupError" 94 (.type "LookupError")),(ze p "MemoryError" 95 (.type "MemoryError")),(ze p "NameError" 96 (.type "NameError")),(ze p "OSError" 97 (.type "OSError")),(ze p "ReferenceError" 98 (.type "ReferenceError")),(ze p "RuntimeError" 99 (.type "RuntimeError")),(ze p "StopAsyncIteration" 100 (.type "StopAsyncIteration")),(ze p "StopIteration" 101 (.type "StopIteration")),(ze p "SyntaxError" 102 (.type "SyntaxError")),(ze p "SystemError" 103 (.type "SystemError")),(ze p "TypeError" 104 (.type "TypeError")),(ze p "ValueError" 105 (.type "ValueError")),(ze p "Warning" 106 (.type "Warning")),(ze p "FloatingPointError" 107 (.type "FloatingPointError")),(ze p "OverflowError" 108 (.type "OverflowError")),(ze p "ZeroDivisionError" 109 (.type "ZeroDivisionError")),(ze p "BytesWarning" 110 (.type "BytesWarning")),(ze p "DeprecationWarning" 111 (.type "DeprecationWarning")),(ze p "EncodingWarning" 112 (.type "EncodingWarning")),(ze p "FutureWarning" 113 (.type "FutureWarning")),(ze p "ImportWarning" 114 (.type "ImportWarning")),(ze p "PendingDeprecationWarning" 115 (.type "PendingDeprecationWarning")),(ze p "ResourceWarning" 116 (.type "ResourceWarning")),(ze p "RuntimeWarning" 117 (.type "RuntimeWarning")),(ze p "SyntaxWarning" 118 (.type "SyntaxWarning")),(ze p "UnicodeWarning" 119 (.type "UnicodeWarning")),(ze p "UserWarning" 120 (.type "UserWarning")),(ze p "BlockingIOError" 121 (.type "BlockingIOError")),(ze p "ChildProcessError" 122 (.type "ChildProcessError")),(ze p "ConnectionError" 123 (.type "ConnectionError")),(ze p "FileExistsError" 124 (.type "FileExistsError")),(ze p "FileNotFoundError" 125 (.type "FileNotFoundError")),(ze p "InterruptedError" 126 (.type "InterruptedError")),(ze p "IsADirectoryError" 127 (.type "IsADirectoryError")),(ze p "NotADirectoryError" 128 (.type "NotADirectoryError")),(ze p "PermissionError" 129 (.type "PermissionError")),(ze p "ProcessLookupError" 130 (.type "ProcessLookupError")),(ze p "TimeoutError" 131 (.type "TimeoutError")),(ze p "IndentationError" 132 (.type "IndentationError")),(ze p "_IncompleteInputError" 133 (.type "_IncompleteInputError")),(ze p "IndexError" 134 (.type "IndexError")),(ze p "KeyError" 135 (.type "KeyError")),(ze p "ModuleNotFoundError" 136 (.type "ModuleNotFoundError")),(ze p "NotImplementedError" 137 (.type "NotImplementedError")),(ze p "PythonFinalizationError" 138 (.type "PythonFinalizationError")),(ze p "RecursionError" 139 (.type "RecursionError")),(ze p "UnboundLocalError" 140 (.type "UnboundLocalError")),(ze p "UnicodeError" 141 (.type "UnicodeError")),(ze p "BrokenPipeError" 142 (.type "BrokenPipeError")),(ze p "ConnectionAbortedError" 143 (.type "ConnectionAbortedError")),(ze p "ConnectionRefusedError" 144 (.type "ConnectionRefusedError")),(ze p "ConnectionResetError" 145 (.type "ConnectionResetError")),(ze p "TabError" 146 (.type "TabError")),(ze p "UnicodeDecodeError" 147 (.type "UnicodeDecodeError")),(ze p "UnicodeEncodeError" 148 (.type "UnicodeEncodeError")),(ze p "UnicodeTranslateError" 149 (.type "UnicodeTranslateError")),(ze p "ExceptionGroup" 150 (.type "ExceptionGroup")),(ze p "EnvironmentError" 151 (.type "OSError")),(ze p "IOError" 152 (.type "OSError")),zdq p "open" 153,(ze p "quit" 154 (.builtin "builtins.quit#opaque")),(ze p "exit" 155 (.builtin "builtins.exit#opaque")),(ze p "copyright" 156 (.builtin "builtins.copyright#opaque")),(ze p "credits" 157 (.builtin "builtins.credits#opaque")),(ze p "license" 158 (.builtin "builtins.license#opaque")),(ze p "help" 159 (.builtin "builtins.help#opaque"))] 159),#[]⟩
def o1(p:Params):Obj:=⟨(.type "dict"),none,(.dict #[(ze p "builtins" 162 (.ref 4)),(ze p "__main__" 163 (.ref 5)),(ze p "_sre" 244 (.ref 12))] 3),#[]⟩
def o2(p:Params):Obj:=⟨.none,none,(.dict #[(ze p "\x69mport.loaded._sre" 183 (.bool true)),(ze p "class._frozen_importlib.BuiltinImporter" 185 (.ref 14)),(ze p "watched.\x69mport" 206 (.ref 18)),(ze p "class._frozen_importlib.ModuleSpec" 216 (.ref 22)),(ze p "sys.modules.booked-epoch" 245 (zi 3 0)),(ze p "\x69mport.later-laid._sre" 270 (.bool true)),(ze p "watched.library" 272 (.ref 27)),(ze p "watched.library-objects" 0 (zs "\x0c" 0)),(ze p "watched.library-deep._sre" 273 (zs "\x04\x00\x00\x0b\x04\x00\x00\x0b\x04\x00\x00\x03\x04\x00\x00\x0b\x08\x04dict\x02" 0))] 9),#[]⟩
def o3(p:Params):Obj:=⟨(.type "dict"),none,(.dict #[(ze p "__name__" 165 (zs "__main__" 164)),(ze p "__doc__" 166 .none),(ze p "__package__" 167 .none),(ze p "__loader__" 168 (.builtin "__main__.__loader__#opaque")),(ze p "__spec__" 169 .none),(ze p "__annotations__" 170 (.ref 6)),(ze p "__builtins__" 171 (.ref 4)),(ze p "__file__" 173 (zs zgq 172)),(ze p "__cached__" 174 .none),(ze p "_sre" 275 (.ref 12))] 10),#[]⟩
noncomputable def o4:Obj:=⟨(.type "module"),(some 0),.plain,#[]⟩
noncomputable def o5:Obj:=⟨(.type "module"),(some 3),.plain,#[]⟩
noncomputable def o6:Obj:=⟨(.type "dict"),none,(.dict #[] 0),#[]⟩
def o7:Obj:=zt #[] 0
def o8:Obj:=zeq #[]
def o9:Obj:=⟨(.type "code"),none,(.fields #[(zs "<module>" 176),(zs "<module>" 177),(zs zgq 178),(zi 1 0),(zi 0 0),(zi 0 0),(zi 0 0),(zi 0 0),(.ref 7),(.bool false),(zi 175 0),(.ref 8),.none,.none,.none,.none,(zi 179 0),(zi 1 0),(zs zgq 180)]),#[]⟩
def we:Obj:=⟨(.type "frame"),none,.plain,#[(some (.ref 9)),(some (.ref 3)),(some (.ref 3)),none,(some (zs "__main__" 164)),none,(some (.ref 0))]⟩
def kK(p:Params):Obj:=⟨(.type "dict"),none,(.dict #[(ze p "__name__" 247 (zs "_sre" 246)),(ze p "__doc__" 248 .none),(ze p "__package__" 250 (zs "" 249)),(ze p "__loader__" 251 (.builtin "off-the-table:_sre.__loader__:shared#opaque")),(ze p "__spec__" 252 (.builtin "off-the-table:_sre.__spec__:shared#opaque")),(ze p "compile" 253 (.builtin "_sre.compile")),(ze p "template" 254 (.builtin "off-the-table:_sre.template:shared#opaque")),(ze p "getcodesize" 255 (.builtin "off-the-table:_sre.getcodesize:shared#opaque")),(ze p "ascii_iscased" 256 (.builtin "off-the-table:_sre.ascii_iscased:shared#opaque")),(ze p "unicode_iscased" 257 (.builtin "off-the-table:_sre.unicode_iscased:shared#opaque")),(ze p "ascii_tolower" 258 (.builtin "off-the-table:_sre.ascii_tolower:shared#opaque")),(ze p "unicode_tolower" 259 (.builtin "off-the-table:_sre.unicode_tolower:shared#opaque")),(ze p "MAGIC" 261 (zi 20230612 260)),(ze p "CODESIZE" 263 (zi 4 262)),(ze p "MAXREPEAT" 265 (zi 4294967295 264)),(ze p "MAXGROUPS" 267 (zi 1073741823 266)),(ze p "copyright" 269 (zs " SRE 2.2.2 Copyright (c) 1997-2002 by Secret Labs AB " 268))] 17),#[]⟩
noncomputable def gX:Obj:=⟨(.type "module"),(some 11),.plain,#[]⟩
def gY(p:Params):Obj:=⟨(.type "dict"),none,(.dict #[(ze p "__module__" 189 (zs "_frozen_importlib" 186)),(ze p "__firstlineno__" 190 (zi 971 187)),(ze p "__doc__" 191 (.builtin "_frozen_importlib.BuiltinImporter.__doc__:str#opaque")),(ze p "_ORIGIN" 192 (zs "built-in" 188)),(ze p "find_spec" 193 (.builtin "_frozen_importlib.BuiltinImporter.find_spec#opaque")),(ze p "create_module" 194 (.builtin "_frozen_importlib.BuiltinImporter.create_module#opaque")),(ze p "exec_module" 195 (.builtin "_frozen_importlib.BuiltinImporter.exec_module#opaque")),(ze p "get_code" 196 (.builtin "_frozen_importlib.BuiltinImporter.get_code#opaque")),(ze p "get_source" 197 (.builtin "_frozen_importlib.BuiltinImporter.get_source#opaque")),(ze p "is_package" 198 (.builtin "_frozen_importlib.BuiltinImporter.is_package#opaque")),(ze p "load_module" 199 (.builtin "_frozen_importlib.BuiltinImporter.load_module#opaque")),(ze p "__static_attributes__" 200 (.ref 15)),(ze p "__dict__" 202 (.ref 16)),(ze p "__weakref__" 204 (.ref 17))] 14),#[]⟩
noncomputable def yk:Obj:=⟨(.type "type"),none,(.cls { name:=(.ofString "BuiltinImporter"),bases:=[(.type "object")],mro:=[(.ref 14),(.type "object")],ns:=13,qualname:=(.ofString "BuiltinImporter"),hasDict:=true,slotNames:=[],subclasses:=[],abstract:=false,collection:=none,hasDel:=false }),#[]⟩
def Cz:Obj:=⟨(.type "getset_descriptor"),none,(.fields #[(zs "__dict__" 201),(.ref 14),(.builtin "function.__dict__"),(.builtin "function.__dict__#set")]),#[]⟩
def FQ:Obj:=⟨(.type "getset_descriptor"),none,(.fields #[(zs "__weakref__" 203),(.ref 14),(.builtin "ExceptionGroup.__weakref__"),.none]),#[]⟩
def KQ:Obj:=⟨.none,none,(.seq #[(zi 13 0),(zs "\x06\xbd\n__module__\x06\xba\x11_frozen_importlib\x06\xbe\x0f__firstlineno__\x04\xbb\x00\u03cb\x06\xbf\x07__doc__\t4_frozen_importlib.BuiltinImporter.__doc__:str#opaque\x06\xc0\x07_ORIGIN\x06\xbc\x08built-in\x06\xc1\tfind_spec\t2_frozen_importlib.BuiltinImporter.find_spec#opaque\x06\xc2\x0dcreate_module\t6_frozen_importlib.BuiltinImporter.create_module#opaque\x06\xc3\x0bexec_module\t4_frozen_importlib.BuiltinImporter.exec_module#opaque\x06\xc4\x08get_code\t1_frozen_importlib.BuiltinImporter.get_code#opaque\x06\xc5\nget_source\t3_frozen_importlib.BuiltinImporter.get_source#opaque\x06\xc6\nis_package\t3_frozen_importlib.BuiltinImporter.is_package#opaque\x06\xc7\x0bload_module\t4_frozen_importlib.BuiltinImporter.load_module#opaque\x06\xc8\x15__static_attributes__\x04\x00\x00\x0f\x06\xca\x08__dict__\x04\x00\x00\x10\x06\xcc\x0b__weakref__\x04\x00\x00\x11" 0),(.bool true),(.bool true),(zs "" 205),(zi 21 0),(zs "\x06\xe3\n__module__\x06\xd9\x11_frozen_importlib\x06\xe4\x0f__firstlineno__\x04\xda\x00\u0232\x06\xe5\x07__doc__\t/_frozen_importlib.ModuleSpec.__doc__:str#opaque\x06\xe6\x08__init__\t,_frozen_importlib.ModuleSpec.__init__#opaque\x06\xe7\x08__repr__\t,_frozen_importlib.ModuleSpec.__repr__#opaque\x06\xe8\x06__eq__\t*_frozen_importlib.ModuleSpec.__eq__#opaque\x06\xe9\x06cached\t*_frozen_importlib.ModuleSpec.cached#opaque\x06\xea\x06parent\t*_frozen_importlib.ModuleSpec.parent#opaque\x06\xeb\x0chas_location\t0_frozen_importlib.ModuleSpec.has_location#opaque\x06\xec\x15__static_attributes__\x04\x00\x00\x17\x06\xee\x08__dict__\x04\x00\x00\x18\x06\xf0\x0b__weakref__\x04\x00\x00\x19\x06\xf1\x08__hash__\x00" 0),(.bool true),(.bool true),(zs "" 242)] 1),#[]⟩
noncomputable def FR:Obj:=⟨(.type "list"),none,(.seq #[] 0),#[]⟩
def Lb(p:Params):Obj:=⟨(.type "dict"),none,(.dict #[(ze p "name" 208 (zs "_sre" 207)),(ze p "loader" 209 (.ref 14)),(ze p "origin" 210 (zs "built-in" 184)),(ze p "loader_state" 211 .none),(ze p "submodule_search_locations" 212 .none),(ze p "_uninitialized_submodules" 213 (.ref 19)),(ze p "_set_fileattr" 214 (.bool false)),(ze p "_cached" 215 .none),(ze p "_initializing" 243 (.bool false))] 9),#[]⟩
def Lj(p:Params):Obj:=⟨(.type "dict"),none,(.dict #[(ze p "__module__" 227 (zs "_frozen_importlib" 217)),(ze p "__firstlineno__" 228 (zi 562 218)),(ze p "__doc__" 229 (.builtin "_frozen_importlib.ModuleSpec.__doc__:str#opaque")),(ze p "__init__" 230 (.builtin "_frozen_importlib.ModuleSpec.__init__#opaque")),(ze p "__repr__" 231 (.builtin "_frozen_importlib.ModuleSpec.__repr__#opaque")),(ze p "__eq__" 232 (.builtin "_frozen_importlib.ModuleSpec.__eq__#opaque")),(ze p "cached" 233 (.builtin "_frozen_importlib.ModuleSpec.cached#opaque")),(ze p "parent" 234 (.builtin "_frozen_importlib.ModuleSpec.parent#opaque")),(ze p "has_location" 235 (.builtin "_frozen_importlib.ModuleSpec.has_location#opaque")),(ze p "__static_attributes__" 236 (.ref 23)),(ze p "__dict__" 238 (.ref 24)),(ze p "__weakref__" 240 (.ref 25)),(ze p "__hash__" 241 .none)] 13),#[]⟩
noncomputable def Lv:Obj:=⟨(.type "type"),none,(.cls { name:=(.ofString "ModuleSpec"),bases:=[(.type "object")],mro:=[(.ref 22),(.type "object")],ns:=21,qualname:=(.ofString "ModuleSpec"),hasDict:=true,slotNames:=[],subclasses:=[],abstract:=false,collection:=none,hasDel:=false }),#[]⟩
def LH:Obj:=zt #[(zs "_cached" 219),(zs "_set_fileattr" 220),(zs "_uninitialized_submodules" 221),(zs "loader" 222),(zs "loader_state" 223),(zs "name" 224),(zs "origin" 225),(zs "submodule_search_locations" 226)] 0
def LS:Obj:=⟨(.type "getset_descriptor"),none,(.fields #[(zs "__dict__" 237),(.ref 22),(.builtin "function.__dict__"),(.builtin "function.__dict__#set")]),#[]⟩
def L6:Obj:=⟨(.type "getset_descriptor"),none,(.fields #[(zs "__weakref__" 239),(.ref 22),(.builtin "ExceptionGroup.__weakref__"),.none]),#[]⟩
noncomputable def Me:Obj:=⟨(.ref 22),(some 20),.plain,#[]⟩
def Ml:Obj:=⟨.none,none,(.seq #[(zi 11 0),(.str (.mk #[6,247,8,95,95,110,97,109,101,95,95,6,246,4,95,115,114,101,6,248,7,95,95,100,111,99,95,95,0,6,250,11,95,95,112,97,99,107,97,103,101,95,95,6,249,0,6,251,10,95,95,108,111,97,100,101,114,95,95,4,0,0,14,6,252,8,95,95,115,112,101,99,95,95,4,0,0,26,6,253,7,99,111,109,112,105,108,101,9,12,95,115,114,101,46,99,111,109,112,105,108,101,6,254,8,116,101,109,112,108,97,116,101,9,13,95,115,114,101,46,116,101,109,112,108,97,116,101,6,255,11,103,101,116,99,111,100,101,115,105,122,101,9,16,95,115,114,101,46,103,101,116,99,111,100,101,115,105,122,101,6,256,13,97,115,99,105,105,95,105,115,99,97,115,101,100,9,18,95,115,114,101,46,97,115,99,105,105,95,105,115,99,97,115,101,100,6,257,15,117,110,105,99,111,100,101,95,105,115,99,97,115,101,100,9,20,95,115,114,101,46,117,110,105,99,111,100,101,95,105,115,99,97,115,101,100,6,258,13,97,115,99,105,105,95,116,111,108,111,119,101,114,9,18,95,115,114,101,46,97,115,99,105,105,95,116,111,108,111,119,101,114,6,259,15,117,110,105,99,111,100,101,95,116,111,108,111,119,101,114,9,20,95,115,114,101,46,117,110,105,99,111,100,101,95,116,111,108,111,119,101,114,6,261,5,77,65,71,73,67,4,260,0,20230612,6,263,8,67,79,68,69,83,73,90,69,4,262,0,4,6,265,9,77,65,88,82,69,80,69,65,84,4,264,0,4294967295,6,267,9,77,65,88,71,82,79,85,80,83,4,266,0,1073741823,6,269,9,99,111,112,121,114,105,103,104,116,6,268,53,32,83,82,69,32,50,46,50,46,50,32,67,111,112,121,114,105,103,104,116,32,40,99,41,32,49,57,57,55,45,50,48,48,50,32,98,121,32,83,101,99,114,101,116,32,76,97,98,115,32,65,66,32]) 0),(.bool true),(.bool false),(zs "_sre" 271)] 0),#[]⟩
def Of:Obj:=⟨(.type "code"),none,(.fields #[(zs "<module>" 277),(zs "<module>" 278),(zs zgq 279),(zi 1 0),(zi 0 0),(zi 0 0),(zi 0 0),(zi 0 0),(.ref 28),(.bool false),(zi 276 0),(.ref 29),.none,.none,.none,.none,(zi 280 0),(zi 1 0),(zs zgq 281)]),#[]⟩
def Og:Obj:=⟨(.type "frame"),none,.plain,#[(some (.ref 30)),(some (.ref 3)),(some (.ref 3)),none,(some (zs "__main__" 164)),none,(some (.ref 0))]⟩
def Nc(p:Params):Obj:=⟨(.type "dict"),none,(.dict (List.toArray ((ze p "__name__" 165 (zs zfq 289))::(ux p).take 10)) 11),#[]⟩
def wg:Obj:=zeq #[(zi 2 0),(zi 0 0),(.ref 37)]
def Nd(p:Params):Obj:=⟨(.type "dict"),none,(.dict (List.toArray ((ze p "__name__" 165 (zs zfq 289))::(ux p).take 11)) 12),#[]⟩
def Pc:Obj:=zt #[.none] 0
def Nf(p:Params):Obj:=⟨(.type "dict"),none,(.dict (List.toArray ((ze p "__name__" 165 (zs zfq 289))::(ux p).take 12)) 13),#[]⟩
def Oh(p:Params):Obj:=zt #[(zi 14 0),(zi 10 0),(zi 4 0),(zi 1 0),(zi 1 0),(zi 22 0),(zi 0 0),(zi 31 0),(zi 16 0),(zi 127 0),(zi 0 0),(zi 13 0),(zi 7 0),(zi 22 0),(zi 0 0),(zi 31 0),(zi 16 0),(zi 127 0),(zi 0 0),(zi 1 0)] 0
def Oi(p:Params):Obj:=⟨(.type "re.Pattern"),none,(.fields #[(zs "[\\x00-\\x1F\\x7F]" 326),(zi 32 349),(zi 0 0),.none,.none,(.ref 47),(zi 0 0)]),#[]⟩
def Ng(p:Params):Obj:=⟨(.type "dict"),none,(.dict (List.toArray ((ze p "__name__" 165 (zs zfq 289))::(ux p).take 13)) 14),#[]⟩
def Oj(p:Params):Obj:=zt #[(zi 14 0),(zi 14 0),(zi 4 0),(zi 1 0),(zi 1 0),(zi 9 0),(zi 4294966783 0),(zi 0 0),(zi 0 0),(zi 2147483648 0),(zi 0 0),(zi 0 0),(zi 0 0),(zi 0 0),(zi 0 0),(zi 13 0),(zi 11 0),(zi 9 0),(zi 4294966783 0),(zi 0 0),(zi 0 0),(zi 2147483648 0),(zi 0 0),(zi 0 0),(zi 0 0),(zi 0 0),(zi 0 0),(zi 1 0)] 0
def Ok(p:Params):Obj:=⟨(.type "re.Pattern"),none,(.fields #[(zs "[\\x00-\\x08\\x0A-\\x1F\\x7F]" 352),(zi 32 383),(zi 0 0),.none,.none,(.ref 52),(zi 0 0)]),#[]⟩
def Nh(p:Params):Obj:=⟨(.type "dict"),none,(.dict (List.toArray ((ze p "__name__" 165 (zs zfq 289))::(ux p).take 14)) 15),#[]⟩
def Hw:Obj:=zeq #[(zi 2 0),(zi 0 0),(.ref 37),(zi 9 0),(zi 0 0),(.ref 60)]
def Ni(p:Params):Obj:=⟨(.type "dict"),none,(.dict (List.toArray ((ze p "__name__" 165 (zs zfq 289))::(ux p).take 15)) 16),#[]⟩
def Ag:Obj:=zeq #[(zi 2 0),(zi 0 0),(.ref 37),(zi 9 0),(zi 0 0),(.ref 60),(zi 18 0),(zi 0 0),(.ref 67)]
def Ol(p:Params):Obj:=zt #[.none] 0
def Om(p:Params):Obj:=zaq "__init__" "Headers.__init__" 407 20 2 3 70 71 (.ref 72) (.ref 73) (.ref 74) 414
def On(p:Params):Obj:=zbq "__init__" "Headers.__init__" (sub (st 6) 0) (.ref 69) .none zfq 289 75
def Oo(p:Params):Obj:=⟨(.type "code"),none,(.fields #[(zs "_convert_string_type" 417),(zs "Headers._convert_string_type" 418),(zs zgq 419),(zi 30 0),(zi 2 0),(zi 0 0),(zi 1 0),(zi 3 0),(.ref 77),(.bool true),(zi 276 0),(.ref 78),.none,(.ref 79),(.ref 80),(.ref 81),(zi 424 0),(zi 30 0),(zs zgq 425)]),#[]⟩
def Nm(p:Params):Obj:=zbq "_convert_string_type" "Headers._convert_string_type" (sub (st 6) 1) .none .none zfq 289 82
def G5(p:Params):Obj:=zaq "__delitem__" "Headers.__delitem__" 443 45 2 3 98 99 .none .none (.ref 100) 446
def G6(p:Params):Obj:=zbq "__delitem__" "Headers.__delitem__" (sub (st 6) 4) .none .none zfq 289 101
def EP(p:Params):Obj:=zt #[.none] 0
def EQ(p:Params):Obj:=zaq "get" "Headers.get" 473 58 3 3 125 126 (.ref 127) (.ref 128) (.ref 129) 481
def Cw(p:Params):Obj:=zbq "get" "Headers.get" (sub (st 6) 8) (.ref 124) .none zfq 289 130
def G7(p:Params):Obj:=zaq "keys" "Headers.keys" 484 65 1 3 132 133 .none .none (.ref 134) 487
def ER(p:Params):Obj:=zbq "keys" "Headers.keys" (sub (st 6) 9) .none .none zfq 289 135
def G8(p:Params):Obj:=zaq "values" "Headers.values" 490 68 1 3 137 138 .none .none (.ref 139) 493
def ES(p:Params):Obj:=zbq "values" "Headers.values" (sub (st 6) 10) .none .none zfq 289 140
def G9(p:Params):Obj:=zaq "add_header" "Headers.add_header" 532 86 3 11 175 176 (.ref 177) (.ref 178) (.ref 179) 542
def ET(p:Params):Obj:=zbq "add_header" "Headers.add_header" (sub (st 6) 16) .none .none zfq 289 180
def Nj(p:Params):Obj:=⟨(.type "dict"),none,(.dict (List.toArray ((ze p "__name__" 165 (zs "cpy313.stringprep" 554))::(ux p).take 15)) 16),#[]⟩
def Nk(p:Params):Obj:=⟨(.type "dict"),none,(.dict (List.toArray ((ze p "__name__" 165 (zs "cpy313.stringprep" 554))::(ux p).take 16)) 17),#[]⟩
def Hb(p:Params):Obj:=⟨(.type "set"),none,(.set #[(65024,(zi 65024 572)),(65025,(zi 65025 573)),(65026,(zi 65026 574)),(65027,(zi 65027 575)),(65028,(zi 65028 576)),(65029,(zi 65029 577)),(6150,(zi 6150 558)),(65030,(zi 65030 578)),(65031,(zi 65031 579)),(65032,(zi 65032 580)),(65033,(zi 65033 581)),(6155,(zi 6155 559)),(6156,(zi 6156 560)),(6157,(zi 6157 561)),(8203,(zi 8203 562)),(8204,(zi 8204 563)),(8205,(zi 8205 564)),(65034,(zi 65034 582)),(65035,(zi 65035 583)),(65036,(zi 65036 584)),(65037,(zi 65037 585)),(65038,(zi 65038 586)),(65039,(zi 65039 587)),(173,(zi 173 556)),(847,(zi 847 557)),(8288,(zi 8288 565)),(65279,(zi 65279 566))] 29 { mask:=127,place:=#[0,1,2,3,4,5,6,7,8,9,10,11,12,13,14,15,16,17,18,19,20,21,22,45,79,96,127],dummies:=#[],finger:=0,led:=!(p.followText "set-order"),moves:=2,plain:=true }),#[]⟩
def Nl(p:Params):Obj:=⟨(.type "dict"),none,(.dict (List.toArray ((ze p "__name__" 165 (zs "cpy313.stringprep" 554))::(ux p).take 17)) 18),#[]⟩
def DC:Obj:=zeq #[(zi 2 0),(zi 0 0),(.ref 37),(zi 9 0),(zi 0 0),(.ref 60),(zi 18 0),(zi 0 0),(.ref 67),(zi 101 0),(zi 0 0),(.ref 205)]
def Hc(p:Params):Obj:=zaq "in_table_b1" "in_table_b1" 616 101 1 3 200 201 (.ref 202) (.ref 203) (.ref 204) 620
def He(p:Params):Obj:=zbq "in_table_b1" "in_table_b1" (st 9) .none .none "cpy313.stringprep" 554 205
def bx:List (Int×Str):=D.dKV (st 10)
def Gd:List (Int×Str):=bx.take 17
def yv:List (List (Int×Str)):=D.chunked 37 (bx.drop 17)
def bl:List (Int×Str):=bx.drop 646
noncomputable def FM:Nat:=623
def bD:List DictEntry:=D.ents3 Gd FM++D.entsC yv (FM+51)++D.ents2 (FM+51+51*yv.length) bl
def bS:List Obj:=D.subsC yv (FM+51)++[D.dObj (D.ents2 (FM+51+51*yv.length) bl)]
def Hf(p:Params):Obj:=D.dObj bD
def Lh:Obj:=(bS[0]?).getD default
def Li:Obj:=(bS[1]?).getD default
def Lk:Obj:=(bS[2]?).getD default
def Ll:Obj:=(bS[3]?).getD default
def Lm:Obj:=(bS[4]?).getD default
def Ln:Obj:=(bS[5]?).getD default
def Lo:Obj:=(bS[6]?).getD default
def Lp:Obj:=(bS[7]?).getD default
def Lq:Obj:=(bS[8]?).getD default
def Lr:Obj:=(bS[9]?).getD default
def Ls:Obj:=(bS[10]?).getD default
def Lu:Obj:=(bS[11]?).getD default
def Lw:Obj:=(bS[12]?).getD default
def Lx:Obj:=(bS[13]?).getD default
def Ly:Obj:=(bS[14]?).getD default
def Lz:Obj:=(bS[15]?).getD default
def LA:Obj:=(bS[16]?).getD default
def LB:Obj:=(bS[17]?).getD default
def LC:Obj:=(bS[18]?).getD default
def LD:Obj:=(bS[19]?).getD default
def LE:Obj:=(bS[20]?).getD default
def LG:Obj:=(bS[21]?).getD default
def LI:Obj:=(bS[22]?).getD default
def LJ:Obj:=(bS[23]?).getD default
def LK:Obj:=(bS[24]?).getD default
def LL:Obj:=(bS[25]?).getD default
def LM:Obj:=(bS[26]?).getD default
def LN:Obj:=(bS[27]?).getD default
def LO:Obj:=(bS[28]?).getD default
def LP:Obj:=(bS[29]?).getD default
def LQ:Obj:=(bS[30]?).getD default
def LR:Obj:=(bS[31]?).getD default
def LU:Obj:=(bS[32]?).getD default
def LV:Obj:=(bS[33]?).getD default
def LW:Obj:=(bS[34]?).getD default
def LX:Obj:=(bS[35]?).getD default
def LY:Obj:=(bS[36]?).getD default
def LZ:Obj:=(bS[37]?).getD default
def HS(p:Params):Obj:=⟨(.type "dict"),none,(.dict (List.toArray ((ze p "__name__" 165 (zs "cpy313.stringprep" 554))::(ux p).take 18)) 19),#[]⟩
def HT(p:Params):Obj:=⟨(.type "dict"),none,(.dict (List.toArray ((ze p "__name__" 165 (zs "cpy313.token" 2582))::(ux p).take 48)) 49),#[]⟩
def Ah:Obj:=zeq #[(zi 2 0),(zi 0 0),(.ref 37),(zi 9 0),(zi 0 0),(.ref 60),(zi 18 0),(zi 0 0),(.ref 67),(zi 101 0),(zi 0 0),(.ref 205),(zi 104 0),(zi 0 0),(.ref 251)]
def Hg(p:Params):Obj:=zaq "map_table_b3" "map_table_b3" 2574 104 1 3 246 247 (.ref 248) (.ref 249) (.ref 250) 2579
def Hi(p:Params):Obj:=zbq "map_table_b3" "map_table_b3" (st 11) .none .none "cpy313.stringprep" 554 251
def HU(p:Params):Obj:=⟨(.type "dict"),none,(.dict (List.toArray ((ze p "__name__" 165 (zs "cpy313.token" 2582))::(ux p).take 69)) 70),#[]⟩
def HV(p:Params):Obj:=⟨(.type "dict"),none,(.dict (List.toArray ((ze p "__name__" 165 (zs "cpy313.token" 2582))::(ux p).take 70)) 71),#[]⟩
def Hj(p:Params):Obj:=⟨(.type "dict"),none,(.dict #[(ze p "!" 2684 (zi 54 2680)),(ze p "!=" 2686 (zi 28 2628)),(ze p "%" 2688 (zi 24 2620)),(ze p "%=" 2690 (zi 40 2652)),(ze p "&" 2692 (zi 19 2610)),(ze p "&=" 2694 (zi 41 2654)),(ze p "(" 2696 (zi 7 2586)),(ze p ")" 2698 (zi 8 2588)),(ze p "*" 2700 (zi 16 2604)),(ze p "**" 2702 (zi 35 2642)),(ze p "**=" 2704 (zi 46 2664)),(ze p "*=" 2706 (zi 38 2648)),(ze p "+" 2708 (zi 14 2600)),(ze p "+=" 2710 (zi 36 2644)),(ze p "," 2712 (zi 12 2596)),(ze p "-" 2714 (zi 15 2602)),(ze p "-=" 2716 (zi 37 2646)),(ze p "->" 2718 (zi 51 2674)),(ze p "." 2720 (zi 23 2618)),(ze p "..." 2722 (zi 52 2676)),(ze p "/" 2724 (zi 17 2606)),(ze p "//" 2726 (zi 47 2666)),(ze p "//=" 2728 (zi 48 2668)),(ze p "/=" 2730 (zi 39 2650)),(ze p ":" 2732 (zi 11 2594)),(ze p ":=" 2734 (zi 53 2678)),(ze p ";" 2736 (zi 13 2598)),(ze p "<" 2738 (zi 20 2612)),(ze p "<<" 2740 (zi 33 2638)),(ze p "<<=" 2742 (zi 44 2660)),(ze p "<=" 2744 (zi 29 2630)),(ze p "=" 2746 (zi 22 2616)),(ze p "==" 2748 (zi 27 2626)),(ze p ">" 2750 (zi 21 2614)),(ze p ">=" 2752 (zi 30 2632)),(ze p ">>" 2753 (zi 34 2640)),(ze p ">>=" 2754 (zi 45 2662)),(ze p "@" 2755 (zi 49 2670)),(ze p "@=" 2756 (zi 50 2672)),(ze p "[" 2757 (zi 9 2590)),(ze p "]" 2758 (zi 10 2592)),(ze p "^" 2759 (zi 32 2636)),(ze p "^=" 2760 (zi 43 2658)),(ze p "{" 2761 (zi 25 2622)),(ze p "|" 2762 (zi 18 2608)),(ze p "|=" 2763 (zi 42 2656)),(ze p "}" 2764 (zi 26 2624)),(ze p "~" 2765 (zi 31 2634))] 48),#[]⟩
def HW(p:Params):Obj:=⟨(.type "dict"),none,(.dict (List.toArray ((ze p "__name__" 165 (zs "law_kl0127_02" 2838))::(ux p).take 81)) 82),#[]⟩
def Hx:Obj:=zeq #[(zi 2 0),(zi 0 0),(.ref 37),(zi 9 0),(zi 0 0),(.ref 60),(zi 18 0),(zi 0 0),(.ref 67),(zi 101 0),(zi 0 0),(.ref 205),(zi 104 0),(zi 0 0),(.ref 251),(zi 161 0),(zi 0 0),(.ref 261),(zi 163 0),(zi 0 0),(.ref 268),(zi 165 0),(zi 0 0),(.ref 275),(zi 171 0),(zi 0 0),(.ref 282),(zi 177 0),(zi 0 0),(.ref 289),(zi 216 0),(zi 0 0),(.ref 296),(zi 218 0),(zi 0 0),(.ref 301),(zi 236 0),(zi 0 0),(.ref 306)]
def Hk(p:Params):Obj:=zaq "ISTERMINAL" "ISTERMINAL" 2781 161 1 3 256 257 (.ref 258) (.ref 259) (.ref 260) 2785
def Hl(p:Params):Obj:=zbq "ISTERMINAL" "ISTERMINAL" (st 64) .none .none "cpy313.token" 2582 261
def Hm(p:Params):Obj:=zaq "ISNONTERMINAL" "ISNONTERMINAL" 2788 163 1 3 263 264 (.ref 265) (.ref 266) (.ref 267) 2792
def Hn(p:Params):Obj:=zbq "ISNONTERMINAL" "ISNONTERMINAL" (st 65) .none .none "cpy313.token" 2582 268
def Ho(p:Params):Obj:=zaq "ISEOF" "ISEOF" 2795 165 1 3 270 271 (.ref 272) (.ref 273) (.ref 274) 2799
def Hp(p:Params):Obj:=zbq "ISEOF" "ISEOF" (st 66) .none .none "cpy313.token" 2582 275
def Hq(p:Params):Obj:=zaq "_substitution_cost" "_substitution_cost" 2810 171 2 3 277 278 (.ref 279) (.ref 280) (.ref 281) 2815
def Hr(p:Params):Obj:=zbq "_substitution_cost" "_substitution_cost" (st 71) .none .none "cpy313.traceback" 2802 282
def Hs(p:Params):Obj:=zaq "_levenshtein_distance" "_levenshtein_distance" 2818 177 3 3 284 285 (.ref 286) (.ref 287) (.ref 288) 2835
def Ht(p:Params):Obj:=zbq "_levenshtein_distance" "_levenshtein_distance" (st 72) .none .none "cpy313.traceback" 2802 289
def Hu(p:Params):Obj:=zaq "_law_ends" "_law_ends" 2840 216 0 3 291 292 (.ref 293) (.ref 294) (.ref 295) 2843
def Hv(p:Params):Obj:=zbq "_law_ends" "_law_ends" (st 74) .none .none "law_kl0127_02" 2838 296
def Hz(p:Params):Obj:=zaq "_law_drawn" "_law_drawn" 2846 218 1 3 298 299 .none .none (.ref 300) 2849
def HB(p:Params):Obj:=zbq "_law_drawn" "_law_drawn" (st 75) .none .none "law_kl0127_02" 2838 301
def HD(p:Params):Obj:=zaq "_law_typed" "_law_typed" 2852 236 2 3 303 304 .none .none (.ref 305) 2855
def HE(p:Params):Obj:=zbq "_law_typed" "_law_typed" (st 76) .none .none "law_kl0127_02" 2838 306
def HF(p:Params):Obj:=zaq "_law_symbols" "_law_symbols" 2858 249 1 3 308 309 (.ref 310) (.ref 311) (.ref 312) 2865
def HG(p:Params):Obj:=zbq "_law_symbols" "_law_symbols" (st 77) .none .none "law_kl0127_02" 2838 313
def HH(p:Params):Obj:=zaq "_law_edges" "_law_edges" 2868 258 1 3 315 316 (.ref 317) (.ref 318) (.ref 319) 2877
def HI(p:Params):Obj:=zbq "_law_edges" "_law_edges" (st 78) .none .none "law_kl0127_02" 2838 320
def HJ(p:Params):Obj:=zaq "_law_sides" "_law_sides" 2880 274 1 3 322 323 .none .none (.ref 324) 2883
def HL(p:Params):Obj:=zbq "_law_sides" "_law_sides" (st 79) .none .none "law_kl0127_02" 2838 325
def HM(p:Params):Obj:=zaq "_law_far" "_law_far" 2886 277 2 3 327 328 .none .none (.ref 329) 2889
def HN(p:Params):Obj:=zbq "_law_far" "_law_far" (st 80) .none .none "law_kl0127_02" 2838 330
def HO(p:Params):Obj:=zaq "_law_written" "_law_written" 2892 293 2 3 332 333 .none .none (.ref 334) 2895
def HP(p:Params):Obj:=zbq "_law_written" "_law_written" (st 81) .none .none "law_kl0127_02" 2838 335
def HQ(p:Params):Obj:=zaq "law" "law" 2898 312 1 3 337 338 .none .none (.ref 339) 2901
def HR(p:Params):Obj:=zbq "law" "law" (st 82) .none .none "law_kl0127_02" 2838 340
noncomputable def IZ:List Obj->List Obj
 |[]=>[]
 |[a]=>[a]
 |a::_::r=>a::IZ r
def br:Nat->List Obj->BT
 |0,_=>.nil
 |_+1,[]=>.nil
 |n+1,o::r=>.node o (br n (IZ r)) (br n (IZ r.tail))
def L(p:Params):List Obj:=[o0 p,o1 p,o2 p,⟨(.type "dict"),none,(.dict (List.toArray ((ze p "__name__" 165 (zs "law_kl0127_02" 2838))::(ux p).take 87)) 88),#[]⟩,o4,o5,o6,o7,o8,o9,we,kK p,gX,gY p,yk,o7,Cz,FQ,KQ,FR,Lb p,Lj p,Lv,LH,LS,L6,Me,Ml,o7,zeq #[(zi 2 0),(zi 0 0),(.ref 37),(zi 9 0),(zi 0 0),(.ref 60),(zi 18 0),(zi 0 0),(.ref 67),(zi 101 0),(zi 0 0),(.ref 205),(zi 104 0),(zi 0 0),(.ref 251),(zi 161 0),(zi 0 0),(.ref 261),(zi 163 0),(zi 0 0),(.ref 268),(zi 165 0),(zi 0 0),(.ref 275),(zi 171 0),(zi 0 0),(.ref 282),(zi 177 0),(zi 0 0),(.ref 289),(zi 216 0),(zi 0 0),(.ref 296),(zi 218 0),(zi 0 0),(.ref 301),(zi 236 0),(zi 0 0),(.ref 306),(zi 249 0),(zi 0 0),(.ref 313),(zi 258 0),(zi 0 0),(.ref 320),(zi 274 0),(zi 0 0),(.ref 325),(zi 277 0),(zi 0 0),(.ref 330),(zi 293 0),(zi 0 0),(.ref 335),(zi 312 0),(zi 0 0),(.ref 340)],Of,Og,o7,o8,zt #[(zs "k" 285)] 0,o7,zcq "_wall" "_wall" (st 0),zaq "_wall" "_wall" 282 2 1 3 32 33 (.ref 34) (.ref 35) (.ref 36) 286,zbq "_wall" "_wall" (st 0) .none .none "__main__" 164 37,⟨(.type "list"),none,(.seq #[(zi 14 294),(zi 14 295),(zi 4 296),(zi 1 297),(zi 1 298),(zi 9 299),(zi 0 300),(zi 4227896069 301),(zi 939524097 302),(zi 0 303),(zi 0 304),(zi 0 305),(zi 0 306),(zi 0 307),(zi 0 308),(zi 13 309),(zi 11 310),(zi 9 311),(zi 0 312),(zi 4227896069 313),(zi 939524097 314),(zi 0 315),(zi 0 316),(zi 0 317),(zi 0 318),(zi 0 319),(zi 0 320),(zi 1 321)] 0),#[]⟩,o6,Pc,zt #[(zi 14 0),(zi 14 0),(zi 4 0),(zi 1 0),(zi 1 0),(zi 9 0),(zi 0 0),(zi 4227896069 0),(zi 939524097 0),(zi 0 0),(zi 0 0),(zi 0 0),(zi 0 0),(zi 0 0),(zi 0 0),(zi 13 0),(zi 11 0),(zi 9 0),(zi 0 0),(zi 4227896069 0),(zi 939524097 0),(zi 0 0),(zi 0 0),(zi 0 0),(zi 0 0),(zi 0 0),(zi 0 0),(zi 1 0)] 0,⟨(.type "re.Pattern"),none,(.fields #[(zs "[ \\(\\)<>@,;:\\\\\"/\\[\\]\\?=]" 292),(zi 32 323),(zi 0 0),.none,.none,(.ref 42),(zi 0 0)]),#[]⟩,⟨(.type "list"),none,(.seq #[(zi 14 328),(zi 10 329),(zi 4 330),(zi 1 331),(zi 1 332),(zi 22 333),(zi 0 334),(zi 31 335),(zi 16 336),(zi 127 337),(zi 0 338),(zi 13 339),(zi 7 340),(zi 22 341),(zi 0 342),(zi 31 343),(zi 16 344),(zi 127 345),(zi 0 346),(zi 1 347)] 0),#[]⟩,o6,Pc,Oh p,Oi p,⟨(.type "list"),none,(.seq #[(zi 14 354),(zi 14 355),(zi 4 356),(zi 1 357),(zi 1 358),(zi 9 359),(zi 4294966783 360),(zi 0 361),(zi 0 362),(zi 2147483648 363),(zi 0 364),(zi 0 365),(zi 0 366),(zi 0 367),(zi 0 368),(zi 13 369),(zi 11 370),(zi 9 371),(zi 4294966783 372),(zi 0 373),(zi 0 374),(zi 2147483648 375),(zi 0 376),(zi 0 377),(zi 0 378),(zi 0 379),(zi 0 380),(zi 1 381)] 0),#[]⟩,o6,Pc,Oj p,Ok p,zt #[.none,(zi 1 385)] 0,o7,o8,zt #[(zs "param" 389),(zs "value" 390),(zs "quote" 391)] 0,o7,zcq "_formatparam" "_formatparam" (st 5),zaq "_formatparam" "_formatparam" 386 9 3 3 55 56 (.ref 57) (.ref 58) (.ref 59) 392,zbq "_formatparam" "_formatparam" (st 5) (.ref 54) .none zfq 289 60,o7,⟨(.type "builtin_function_or_method"),none,(.fields #[(.builtin "type.__prepare__"),(.type "type")]),#[]⟩,⟨(.type "dict"),none,(.dict #[(ze p "__module__" 402 (zs zfq 289)),(ze p "__qualname__" 404 (zs "Headers" 403)),(ze p "__firstlineno__" 406 (zi 18 405)),(ze p "__init__" 416 (.ref 76)),(ze p "_convert_string_type" 426 (.ref 83)),(ze p "__len__" 433 (.ref 90)),(ze p "__setitem__" 442 (.ref 97)),(ze p "__delitem__" 448 (.ref 102)),(ze p "__getitem__" 456 (.ref 109)),(ze p "__contains__" 464 (.ref 116)),(ze p "get_all" 472 (.ref 123)),(ze p "get" 483 (.ref 131)),(ze p "keys" 489 (.ref 136)),(ze p "values" 495 (.ref 141)),(ze p "items" 502 (.ref 148)),(ze p "__repr__" 509 (.ref 155)),(ze p "__str__" 515 (.ref 160)),(ze p "__bytes__" 522 (.ref 167)),(ze p "setdefault" 531 (.ref 174)),(ze p "add_header" 544 (.ref 181)),(ze p "__static_attributes__" 546 (.ref 182))] 21),#[]⟩,o7,zeq #[(zi 20 0),(zi 4 0),(.ref 75),(zi 30 0),(zi 4 0),(.ref 82),(zi 38 0),(zi 4 0),(.ref 89),(zi 41 0),(zi 4 0),(.ref 96),(zi 45 0),(zi 4 0),(.ref 101),(zi 49 0),(zi 4 0),(.ref 108),(zi 52 0),(zi 4 0),(.ref 115),(zi 55 0),(zi 4 0),(.ref 122),(zi 58 0),(zi 4 0),(.ref 130),(zi 65 0),(zi 4 0),(.ref 135),(zi 68 0),(zi 4 0),(.ref 140),(zi 71 0),(zi 4 0),(.ref 147),(zi 74 0),(zi 4 0),(.ref 154),(zi 77 0),(zi 4 0),(.ref 159),(zi 80 0),(zi 4 0),(.ref 166),(zi 83 0),(zi 4 0),(.ref 173),(zi 86 0),(zi 4 0),(.ref 180)],⟨(.type "code"),none,(.fields #[(zs "Headers" 397),(zs "Headers" 398),(zs zgq 399),(zi 18 0),(zi 0 0),(zi 0 0),(zi 0 0),(zi 0 0),(.ref 65),(.bool false),(zi 276 0),(.ref 66),.none,.none,.none,.none,(zi 400 0),(zi 18 0),(zs zgq 401)]),#[]⟩,⟨(.type "frame"),none,.plain,#[(some (.ref 67)),(some (.ref 3)),(some (.ref 64)),none,(some (zs zfq 289)),none,(some (.ref 0))]⟩,Ol p,o7,o8,zt #[(zs "self" 410),(zs "headers" 411),(zs "k" 412),(zs "v" 413)] 0,o7,zcq "__init__" "Headers.__init__" (sub (st 6) 0),Om p,On p,o7,o8,zt #[(zs "self" 420),(zs "value" 421),(zs "name" 422),(zs "regex" 423)] 0,o7,zcq "_convert_string_type" "Headers._convert_string_type" (sub (st 6) 1),Oo p,Nm p,o7,o8,zt #[(zs "self" 430)] 0,o7,zcq "__len__" "Headers.__len__" (sub (st 6) 2),zaq "__len__" "Headers.__len__" 427 38 1 3 84 85 (.ref 86) (.ref 87) (.ref 88) 431,zbq "__len__" "Headers.__len__" (sub (st 6) 2) .none .none zfq 289 89,o7,o8,zt #[(zs "self" 437),(zs "name" 438),(zs "val" 439)] 0,o7,zcq "__setitem__" "Headers.__setitem__" (sub (st 6) 3),zaq "__setitem__" "Headers.__setitem__" 434 41 3 3 91 92 (.ref 93) (.ref 94) (.ref 95) 440,zbq "__setitem__" "Headers.__setitem__" (sub (st 6) 3) .none .none zfq 289 96,o7,o8,zcq "__delitem__" "Headers.__delitem__" (sub (st 6) 4),G5 p,G6 p,o7,o8,zt #[(zs "self" 452),(zs "name" 453)] 0,o7,zcq "__getitem__" "Headers.__getitem__" (sub (st 6) 5),zaq "__getitem__" "Headers.__getitem__" 449 49 2 3 103 104 (.ref 105) (.ref 106) (.ref 107) 454,zbq "__getitem__" "Headers.__getitem__" (sub (st 6) 5) .none .none zfq 289 108,o7,o8,zt #[(zs "self" 460),(zs "name" 461)] 0,o7,zcq "__contains__" "Headers.__contains__" (sub (st 6) 6),zaq "__contains__" "Headers.__contains__" 457 52 2 3 110 111 (.ref 112) (.ref 113) (.ref 114) 462,zbq "__contains__" "Headers.__contains__" (sub (st 6) 6) .none .none zfq 289 115,o7,o8,zt #[(zs "self" 468),(zs "name" 469)] 0,o7,zcq "get_all" "Headers.get_all" (sub (st 6) 7),zaq "get_all" "Headers.get_all" 465 55 2 3 117 118 (.ref 119) (.ref 120) (.ref 121) 470,zbq "get_all" "Headers.get_all" (sub (st 6) 7) .none .none zfq 289 122,EP p,o7,o8,zt #[(zs "self" 476),(zs "name" 477),(zs "default" 478),(zs "k" 479),(zs "v" 480)] 0,o7,zcq "get" "Headers.get" (sub (st 6) 8),EQ p,Cw p,o7,o8,zcq "keys" "Headers.keys" (sub (st 6) 9),G7 p,ER p,o7,o8,zcq "values" "Headers.values" (sub (st 6) 10),G8 p,ES p,o7,o8,zt #[(zs "self" 499)] 0,o7,zcq "items" "Headers.items" (sub (st 6) 11),zaq "items" "Headers.items" 496 71 1 3 142 143 (.ref 144) (.ref 145) (.ref 146) 500,zbq "items" "Headers.items" (sub (st 6) 11) .none .none zfq 289 147,o7,o8,zt #[(zs "self" 506)] 0,o7,zcq "__repr__" "Headers.__repr__" (sub (st 6) 12),zaq "__repr__" "Headers.__repr__" 503 74 1 3 149 150 (.ref 151) (.ref 152) (.ref 153) 507,zbq "__repr__" "Headers.__repr__" (sub (st 6) 12) .none .none zfq 289 154,o7,o8,zcq "__str__" "Headers.__str__" (sub (st 6) 13),zaq "__str__" "Headers.__str__" 510 77 1 3 156 157 .none .none (.ref 158) 513,zbq "__str__" "Headers.__str__" (sub (st 6) 13) .none .none zfq 289 159,o7,o8,zt #[(zs "self" 519)] 0,o7,zcq "__bytes__" "Headers.__bytes__" (sub (st 6) 14),zaq "__bytes__" "Headers.__bytes__" 516 80 1 3 161 162 (.ref 163) (.ref 164) (.ref 165) 520,zbq "__bytes__" "Headers.__bytes__" (sub (st 6) 14) .none .none zfq 289 166,o7,o8,zt #[(zs "self" 526),(zs "name" 527),(zs "value" 528)] 0,o7,zcq "setdefault" "Headers.setdefault" (sub (st 6) 15),zaq "setdefault" "Headers.setdefault" 523 83 3 3 168 169 (.ref 170) (.ref 171) (.ref 172) 529,zbq "setdefault" "Headers.setdefault" (sub (st 6) 15) .none .none zfq 289 173,o7,o8,zt #[(zs "self" 535),(zs "_name" 536),(zs "_value" 537),(zs "_params" 538),(zs "parts" 539),(zs "k" 540),(zs "v" 541)] 0,o7,zcq "add_header" "Headers.add_header" (sub (st 6) 16),G9 p,ET p,zt #[(zs "_headers" 545)] 0,⟨(.type "dict"),none,(.dict #[(ze p "__module__" 402 (zs zfq 289)),(ze p "__firstlineno__" 406 (zi 18 405)),(ze p "__init__" 416 (.ref 76)),(ze p "_convert_string_type" 426 (.ref 83)),(ze p "__len__" 433 (.ref 90)),(ze p "__setitem__" 442 (.ref 97)),(ze p "__delitem__" 448 (.ref 102)),(ze p "__getitem__" 456 (.ref 109)),(ze p "__contains__" 464 (.ref 116)),(ze p "get_all" 472 (.ref 123)),(ze p "get" 483 (.ref 131)),(ze p "keys" 489 (.ref 136)),(ze p "values" 495 (.ref 141)),(ze p "items" 502 (.ref 148)),(ze p "__repr__" 509 (.ref 155)),(ze p "__str__" 515 (.ref 160)),(ze p "__bytes__" 522 (.ref 167)),(ze p "setdefault" 531 (.ref 174)),(ze p "add_header" 544 (.ref 181)),(ze p "__static_attributes__" 546 (.ref 182)),(ze p "__dict__" 548 (.ref 185)),(ze p "__weakref__" 550 (.ref 186)),(ze p "__doc__" 551 .none)] 4),#[]⟩,⟨(.type "type"),none,(.cls { name:=(.ofString "Headers"),bases:=[(.type "object")],mro:=[(.ref 184),(.type "object")],ns:=183,qualname:=(.ofString "Headers"),hasDict:=true,slotNames:=[],subclasses:=[],abstract:=false,collection:=none,hasDel:=false }),#[none,none,(some (zs "Headers" 395)),(some (zs "Headers" 403)),(some (.builtin "object.__new__")),(some (.bool true))]⟩,⟨(.type "getset_descriptor"),none,(.fields #[(zs "__dict__" 547),(.ref 184),(.builtin "function.__dict__"),(.builtin "function.__dict__#set")]),#[]⟩,⟨(.type "getset_descriptor"),none,(.fields #[(zs "__weakref__" 549),(.ref 184),(.builtin "ExceptionGroup.__weakref__"),.none]),#[]⟩,⟨(.type "super"),none,(.fields #[(.ref 184),(.ref 184),(.ref 184)]),#[]⟩,⟨(.type "builtin_function_or_method"),none,(.fields #[(.builtin "object.__init_subclass__"),(.ref 184)]),#[]⟩,⟨(.type "list"),none,(.seq #[(zi 173 556),(zi 847 557),(zi 6150 558),(zi 6155 559),(zi 6156 560),(zi 6157 561),(zi 8203 562),(zi 8204 563),(zi 8205 564),(zi 8288 565),(zi 65279 566)] 0),#[]⟩,⟨(.type "range"),none,(.fields #[(zi 65024 567),(zi 65040 568),(zi 1 569)]),#[]⟩,⟨(.type "list"),none,(.seq #[(zi 65024 572),(zi 65025 573),(zi 65026 574),(zi 65027 575),(zi 65028 576),(zi 65029 577),(zi 65030 578),(zi 65031 579),(zi 65032 580),(zi 65033 581),(zi 65034 582),(zi 65035 583),(zi 65036 584),(zi 65037 585),(zi 65038 586),(zi 65039 587)] 18),#[]⟩,⟨(.type "range_iterator"),none,(.fields #[(zi 65040 0),(zi 0 0),(zi 1 0)]),#[]⟩,o7,⟨(.type "StopIteration"),none,(.fields #[(.ref 193),.none,.none,.none,(.bool false),.none]),#[]⟩,⟨(.type "list"),none,(.seq #[(zi 173 556),(zi 847 557),(zi 6150 558),(zi 6155 559),(zi 6156 560),(zi 6157 561),(zi 8203 562),(zi 8204 563),(zi 8205 564),(zi 8288 565),(zi 65279 566),(zi 65024 572),(zi 65025 573),(zi 65026 574),(zi 65027 575),(zi 65028 576),(zi 65029 577),(zi 65030 578),(zi 65031 579),(zi 65032 580),(zi 65033 581),(zi 65034 582),(zi 65035 583),(zi 65036 584),(zi 65037 585),(zi 65038 586),(zi 65039 587)] 0),#[]⟩,Hb p,⟨(.type "list_iterator"),none,(.fields #[.none,(zi 27 0)]),#[]⟩,o7,⟨(.type "StopIteration"),none,(.fields #[(.ref 198),.none,.none,.none,(.bool false),.none]),#[]⟩,o7,o8,zt #[(zs "code" 619)] 0,o7,zcq "in_table_b1" "in_table_b1" (st 9),Hc p,He p,Hf p,Lh,Li,Lk,Ll,Lm,Ln,Lo,Lp,Lq,Lr,Ls,Lu,Lw,Lx,Ly,Lz,LA,LB,LC,LD,LE,LG,LI,LJ,LK,LL,LM,LN,LO,LP,LQ,LR,LU,LV,LW,LX,LY,LZ,o7,o8,zt #[(zs "code" 2577),(zs "r" 2578)] 0,o7,zcq "map_table_b3" "map_table_b3" (st 11),Hg p,Hi p,Hj p,⟨(.type "dict"),none,(.dict #[(ze p "->" 2718 (zi 51 2674)),(ze p "." 2720 (zi 23 2618)),(ze p "..." 2722 (zi 52 2676)),(ze p "/" 2724 (zi 17 2606)),(ze p "//" 2726 (zi 47 2666)),(ze p "//=" 2728 (zi 48 2668)),(ze p "/=" 2730 (zi 39 2650)),(ze p ":" 2732 (zi 11 2594)),(ze p ":=" 2734 (zi 53 2678)),(ze p ";" 2736 (zi 13 2598)),(ze p "<" 2738 (zi 20 2612)),(ze p "<<" 2740 (zi 33 2638)),(ze p "<<=" 2742 (zi 44 2660)),(ze p "<=" 2744 (zi 29 2630)),(ze p "=" 2746 (zi 22 2616)),(ze p "==" 2748 (zi 27 2626)),(ze p ">" 2750 (zi 21 2614))] 17),#[]⟩,⟨(.type "dict"),none,(.dict #[(ze p ">=" 2752 (zi 30 2632)),(ze p ">>" 2753 (zi 34 2640)),(ze p ">>=" 2754 (zi 45 2662)),(ze p "@" 2755 (zi 49 2670)),(ze p "@=" 2756 (zi 50 2672)),(ze p "[" 2757 (zi 9 2590)),(ze p "]" 2758 (zi 10 2592)),(ze p "^" 2759 (zi 32 2636)),(ze p "^=" 2760 (zi 43 2658)),(ze p "{" 2761 (zi 25 2622)),(ze p "|" 2762 (zi 18 2608)),(ze p "|=" 2763 (zi 42 2656)),(ze p "}" 2764 (zi 26 2624)),(ze p "~" 2765 (zi 31 2634))] 14),#[]⟩,o7,o8,zt #[(zs "x" 2784)] 0,o7,zcq "ISTERMINAL" "ISTERMINAL" (st 64),Hk p,Hl p,o7,o8,zt #[(zs "x" 2791)] 0,o7,zcq "ISNONTERMINAL" "ISNONTERMINAL" (st 65),Hm p,Hn p,o7,o8,zt #[(zs "x" 2798)] 0,o7,zcq "ISEOF" "ISEOF" (st 66),Ho p,Hp p,o7,o8,zt #[(zs "ch_a" 2813),(zs "ch_b" 2814)] 0,o7,zcq "_substitution_cost" "_substitution_cost" (st 71),Hq p,Hr p,o7,o8,zt #[(zs "a" 2821),(zs "b" 2822),(zs "max_cost" 2823),(zs "pre" 2824),(zs "post" 2825),(zs "row" 2826),(zs "result" 2827),(zs "bindex" 2828),(zs "bchar" 2829),(zs "distance" 2830),(zs "minimum" 2831),(zs "index" 2832),(zs "substitute" 2833),(zs "insert_delete" 2834)] 0,o7,zcq "_levenshtein_distance" "_levenshtein_distance" (st 72),Hs p,Ht p,o7,o8,o7,o7,zcq "_law_ends" "_law_ends" (st 74),Hu p,Hv p,o7,o8,zcq "_law_drawn" "_law_drawn" (st 75),Hz p,HB p,o7,o8,zcq "_law_typed" "_law_typed" (st 76),HD p,HE p,o7,o8,zt #[(zs "text" 2861),(zs "symbols" 2862),(zs "at" 2863),(zs "piece" 2864)] 0,o7,zcq "_law_symbols" "_law_symbols" (st 77),HF p,HG p,o7,o8,zt #[(zs "symbols" 2871),(zs "pile" 2872),(zs "edges" 2873),(zs "name" 2874),(zs "symbol" 2875),(zs "part" 2876)] 0,o7,zcq "_law_edges" "_law_edges" (st 78),HH p,HI p,o7,o8,zcq "_law_sides" "_law_sides" (st 79),HJ p,HL p,o7,o8,zcq "_law_far" "_law_far" (st 80),HM p,HN p,o7,o8,zcq "_law_written" "_law_written" (st 81),HO p,HP p,o7,o8,zcq "law" "law" (st 82),HQ p,HR p]
def H0(p:Params):Heap:=⟨#[(o0 p),(o1 p),(o2 p),(o3 p),(o4),(o5),(o6),(o7),(o8),(o9),(we),(kK p),(gX),(gY p),(yk),(o7),(Cz),(FQ),(KQ),(FR),(Lb p),(Lj p),(Lv),(LH),(LS),(L6),(Me),(Ml)],life⟩
def Ha(p:Params):Heap:=⟨#[(o0 p),(o1 p),(o2 p),(o3 p),(o4),(o5),(o6),(o7),(o8),(o9),(we),(kK p),(gX),(gY p),(yk),(o7),(Cz),(FQ),(KQ),(FR),(Lb p),(Lj p),(Lv),(LH),(LS),(L6),(Me),(Ml),(o7),(o8),(Of),(Og)],life⟩
def tb(p:Params):BT:=br 10 ((((L p).take 32).set 3 (o3 p)).set 29 (o8))
def Sb(w:World)(os:OsState):SharedT:=⟨tb w.params,32,life,#[],⟨0,0,0,0⟩,282,os⟩
theorem Aj:∀w:World,(fencedOpening treeTable P0 w 100000).map (λs=>(s.heap,s.gens,s.drawn,s.toks))=some (H0 w.params,#[],⟨0,0,0,0⟩,276):=λw=>by kernel_rfl
noncomputable abbrev d4:Option Value:=(some (.ref 6))
theorem Nu(w:World)(os:OsState):topGo treeTable P0 w 28 d4 12 ⟨H0 w.params,#[],⟨0,0,0,0⟩,276,os⟩ (topStub P0)=some (⟨Ha w.params,#[],⟨0,0,0,0⟩,282,os⟩,⟨denote treeTable cd,cd,⟨0,0,0,0⟩,[topFrame q0]⟩):=by kernel_rfl
theorem DR(w:World)(os:OsState):segRun treeTable P0 w 28 d4 1 1 ⟨Ha w.params,#[],⟨0,0,0,0⟩,282,os⟩ (blockOf (behindTheImports P0) ZV cd ⟨0,0,0,0⟩ [topFrame q0])=some (.next,(Sb w os).abs,cd,⟨0,0,0,0⟩):=by kernel_rfl
def t0(p:Params):BT:=br 10 ((((L p).take 39).set 3 (Nc p)).set 29 (wg))
def S0(w:World)(os:OsState):SharedT:=⟨t0 w.params,39,life,#[],⟨0,0,0,0⟩,291,os⟩
abbrev g0:List Stmt:=[st 0,st 1]
theorem P9(w:World)(os:OsState):segRunT treeTable P0 w 28 d4 1 39 (Sb w os) (piecesOf g0 ZV cd ⟨0,0,0,0⟩ [topFrame q0])=some (.next,S0 w os,cd,⟨5,0,5,8⟩):=by kernel_rfl
def t1(p:Params):BT:=br 10 ((((L p).take 44).set 3 (Nd p)).set 29 (wg))
def S1(w:World)(os:OsState):SharedT:=⟨t1 w.params,44,life,#[],⟨0,0,0,0⟩,325,os⟩
abbrev g1:List Stmt:=[st 2]
theorem Qa(w:World)(os:OsState):segRunT treeTable P0 w 28 d4 1 78 (S0 w os) (piecesOf g1 ZV cd ⟨5,0,5,8⟩ [topFrame q0])=some (.next,S1 w os,cd,⟨6,0,6,9⟩):=by kernel_rfl
def t2(p:Params):BT:=br 10 ((((L p).take 49).set 3 (Nf p)).set 29 (wg))
def S2(w:World)(os:OsState):SharedT:=⟨t2 w.params,49,life,#[],⟨0,0,0,0⟩,351,os⟩
abbrev g2:List Stmt:=[st 3]
theorem Qb(w:World)(os:OsState):segRunT treeTable P0 w 28 d4 1 70 (S1 w os) (piecesOf g2 ZV cd ⟨6,0,6,9⟩ [topFrame q0])=some (.next,S2 w os,cd,⟨7,0,7,19⟩):=by kernel_rfl
def t3(p:Params):BT:=br 10 ((((L p).take 54).set 3 (Ng p)).set 29 (wg))
def S3(w:World)(os:OsState):SharedT:=⟨t3 w.params,54,life,#[],⟨0,0,0,0⟩,385,os⟩
abbrev g3:List Stmt:=[st 4]
theorem Qc(w:World)(os:OsState):segRunT treeTable P0 w 28 d4 1 78 (S2 w os) (piecesOf g3 ZV cd ⟨7,0,7,19⟩ [topFrame q0])=some (.next,S3 w os,cd,⟨8,0,8,20⟩):=by kernel_rfl
def t4(p:Params):BT:=br 10 ((((L p).take 62).set 3 (Nh p)).set 29 (Hw))
def S4(w:World)(os:OsState):SharedT:=⟨t4 w.params,62,life,#[],⟨0,0,0,0⟩,395,os⟩
abbrev g4:List Stmt:=[st 5]
theorem Qd(w:World)(os:OsState):segRunT treeTable P0 w 28 d4 1 34 (S3 w os) (piecesOf g4 ZV cd ⟨8,0,8,20⟩ [topFrame q0])=some (.next,S4 w os,cd,⟨9,0,17,20⟩):=by kernel_rfl
def t5(p:Params):BT:=br 10 ((((L p).take 189).set 3 (Ni p)).set 29 (Ag))
def S5(w:World)(os:OsState):SharedT:=⟨t5 w.params,189,life,#[],⟨0,0,0,0⟩,554,os⟩
abbrev g5:List Stmt:=[st 6]
theorem Qe(w:World)(os:OsState):segRunT treeTable P0 w 28 d4 1 731 (S4 w os) (piecesOf g5 ZV cd ⟨9,0,17,20⟩ [topFrame q0])=some (.next,S5 w os,cd,⟨18,0,98,93⟩):=by kernel_rfl
def t6(p:Params):BT:=br 10 ((((L p).take 189).set 3 (Nj p)).set 29 (Ag))
def S6(w:World)(os:OsState):SharedT:=⟨t6 w.params,189,life,#[],⟨0,0,0,0⟩,556,os⟩
abbrev g6:List Stmt:=[st 7]
theorem Qf(w:World)(os:OsState):segRunT treeTable P0 w 28 d4 1 10 (S5 w os) (piecesOf g6 ZV cd ⟨18,0,98,93⟩ [topFrame q0])=some (.next,S6 w os,cd,⟨99,0,99,8⟩):=by kernel_rfl
def t7(p:Params):BT:=br 10 ((((L p).take 200).set 3 (Nk p)).set 29 (Ag))
def S7(w:World)(os:OsState):SharedT:=⟨t7 w.params,200,life,#[],⟨0,0,0,0⟩,616,os⟩
abbrev g7:List Stmt:=[st 8]
theorem xM(w:World)(os:OsState):segRunT treeTable P0 (w.withFollow "special-get-raises" false) 28 d4 1 999 (S6 w os) (piecesOf g7 ZV cd ⟨99,0,99,8⟩ [topFrame q0])=some (.next,S7 w os,cd,⟨100,0,100,6⟩):=by rw[Sd,Se];kernel_rfl
theorem An(w:World)(os:OsState):segRunT treeTable P0 (w.withFollow "special-get-raises" true) 28 d4 1 999 (S6 w os) (piecesOf g7 ZV cd ⟨99,0,99,8⟩ [topFrame q0])=some (.next,S7 w os,cd,⟨100,0,100,6⟩):=by rw[Sd,Se];kernel_rfl
theorem Qg(w:World)(os:OsState):segRunT treeTable P0 w 28 d4 1 999 (S6 w os) (piecesOf g7 ZV cd ⟨99,0,99,8⟩ [topFrame q0])=some (.next,S7 w os,cd,⟨100,0,100,6⟩):=byRow2 "special-get-raises" (P:=λv=>∀os,segRunT treeTable P0 v 28 d4 1 999 (S6 v os) (piecesOf g7 ZV cd ⟨99,0,99,8⟩ [topFrame q0])=some (.next,S7 v os,cd,⟨100,0,100,6⟩)) (λw os=>xM w os) (λw os=>An w os) w os
def t8(p:Params):BT:=br 10 ((((L p).take 207).set 3 (Nl p)).set 29 (DC))
def S8(w:World)(os:OsState):SharedT:=⟨t8 w.params,207,life,#[],⟨0,0,0,0⟩,623,os⟩
abbrev g8:List Stmt:=[st 9]
theorem Qh(w:World)(os:OsState):segRunT treeTable P0 w 28 d4 1 30 (S7 w os) (piecesOf g8 ZV cd ⟨100,0,100,6⟩ [topFrame q0])=some (.next,S8 w os,cd,⟨101,0,102,30⟩):=by kernel_rfl
def t9(p:Params):BT:=br 10 ((((L p).take 246).set 3 (HS p)).set 29 (DC))
def S9(w:World)(os:OsState):SharedT:=⟨t9 w.params,246,life,#[],⟨0,0,0,0⟩,2574,os⟩
abbrev g9:List Stmt:=[st 10]
theorem nb:((1+(1+(223+(330*yv.length+(1+13*bl.length+(5+6*bl.length))))))+8)=12525:=by kernel_rfl
theorem OA:st 10=.Assign [.Name (D.aNm (st 10)) (D.aNp (st 10))] (.Dict (D.dKs (st 10)) (D.dVs (st 10)) (D.dPos (st 10))) (D.aPos (st 10)):=by kernel_rfl
theorem Oz:(evalEachOpt (D.dKs (st 10)) ZV).zip ((evalEach (D.dVs (st 10)) ZV).map λv=>do let x <-v;standAt (D.dPos (st 10));pure x)=(Gd++(yv.flatten++bl)).map λx=>D.gI (D.pT (D.dPos (st 10)) x):=by kernel_rfl
theorem OD:D.risesB (-1) (Gd++(yv.flatten++bl))=true:=by kernel_rfl
theorem Oy:Gd.length=17:=by kernel_rfl
theorem Ox:(yv.all λc=>c.length==17)=true:=by kernel_rfl
theorem OB:(!bl.isEmpty&&decide (bl.length<=15))=true:=by kernel_rfl
theorem OC:yv.flatten.length+bl.length=633:=by kernel_rfl
theorem Qj(w:World)(b:Bool)(os:OsState):segRun treeTable P0 (D.wf w b) 28 d4 1 8 (D.sh ((t8 (D.wf w b).params).list 207++D.dObj bD::bS) life ⟨0,0,0,0⟩ (FM+51+51*yv.length+3*bl.length) os) ⟨(D.kap ZV (st 10) (.ref ((t8 (D.wf w b).params).list 207).length)).wrap doneF deadEnd id id,cd,D.dPos (st 10),[topFrame q0]⟩=some (.next,(S9 (D.wf w b) os).abs,cd,⟨103,0,103,13⟩):=by kernel_rfl
theorem Op(w:World)(b:Bool)(os:OsState):segRun treeTable P0 (D.wf w b) 28 d4 1 12525 (S8 (D.wf w b) os).abs (piecesOf g9 ZV cd ⟨101,0,102,30⟩ [topFrame q0])=some (.next,(S9 (D.wf w b) os).abs,cd,⟨103,0,103,13⟩):=by rw[<-nb];exact D.run_dict (L1:=(t8 (D.wf w b).params).list 207) (c0:=Gd) (cs:=yv) (last:=bl) (N:=8) OA Oz (by simp[BT.list]) Oy Ox OB OD (by rw[OC,sizeLine_eq];decide) (Qj w b os)
theorem Qi(w:World)(os:OsState):segRun treeTable P0 w 28 d4 1 12525 (S8 w os).abs (piecesOf g9 ZV cd ⟨101,0,102,30⟩ [topFrame q0])=some (.next,(S9 w os).abs,cd,⟨103,0,103,13⟩):=byRow2 "special-get-raises" (P:=λv=>∀os,segRun treeTable P0 v 28 d4 1 12525 (S8 v os).abs (piecesOf g9 ZV cd ⟨101,0,102,30⟩ [topFrame q0])=some (.next,(S9 v os).abs,cd,⟨103,0,103,13⟩)) (λw os=>Op w false os) (λw os=>Op w true os) w os
def Qm(p:Params):BT:=br 10 ((((L p).take 253).set 3 (HT p)).set 29 (Ah))
def IR(w:World)(os:OsState):SharedT:=⟨Qm w.params,253,life,#[],⟨0,0,0,0⟩,2642,os⟩
abbrev xg:List Stmt:=[st 11,st 12,st 13,st 14,st 15,st 16,st 17,st 18,st 19,st 20,st 21,st 22,st 23,st 24,st 25,st 26,st 27,st 28,st 29,st 30,st 31,st 32,st 33,st 34,st 35,st 36,st 37,st 38,st 39,st 40,st 41]
theorem Nn(w:World)(os:OsState):segRunT treeTable P0 w 28 d4 1 301 (S9 w os) (piecesOf xg ZV cd ⟨103,0,103,13⟩ [topFrame q0])=some (.next,IR w os,cd,⟨138,0,138,10⟩):=by kernel_rfl
def Qn(p:Params):BT:=br 10 ((((L p).take 253).set 3 (HU p)).set 29 (Ah))
def FJ(w:World)(os:OsState):SharedT:=⟨Qn w.params,253,life,#[],⟨0,0,0,0⟩,2684,os⟩
abbrev vP:List Stmt:=[st 42,st 43,st 44,st 45,st 46,st 47,st 48,st 49,st 50,st 51,st 52,st 53,st 54,st 55,st 56,st 57,st 58,st 59,st 60,st 61,st 62]
theorem No(w:World)(os:OsState):segRunT treeTable P0 w 28 d4 1 190 (IR w os) (piecesOf vP ZV cd ⟨138,0,138,10⟩ [topFrame q0])=some (.next,FJ w os,cd,⟨159,0,159,9⟩):=by kernel_rfl
def Qo(p:Params):BT:=br 10 ((((L p).take 256).set 3 (HV p)).set 29 (Ah))
def FK(w:World)(os:OsState):SharedT:=⟨Qo w.params,256,life,#[],⟨0,0,0,0⟩,2781,os⟩
abbrev rh:List Stmt:=[st 63]
theorem uQ(w:World)(os:OsState):segRunT treeTable P0 (w.withFollow "special-get-raises" false) 28 d4 1 979 (FJ w os) (piecesOf rh ZV cd ⟨159,0,159,9⟩ [topFrame q0])=some (.next,FK w os,cd,⟨160,0,160,17⟩):=by rw[Sd,Se];kernel_rfl
theorem xL(w:World)(os:OsState):segRunT treeTable P0 (w.withFollow "special-get-raises" true) 28 d4 1 979 (FJ w os) (piecesOf rh ZV cd ⟨159,0,159,9⟩ [topFrame q0])=some (.next,FK w os,cd,⟨160,0,160,17⟩):=by rw[Sd,Se];kernel_rfl
theorem Np(w:World)(os:OsState):segRunT treeTable P0 w 28 d4 1 979 (FJ w os) (piecesOf rh ZV cd ⟨159,0,159,9⟩ [topFrame q0])=some (.next,FK w os,cd,⟨160,0,160,17⟩):=byRow2 "special-get-raises" (P:=λv=>∀os,segRunT treeTable P0 v 28 d4 1 979 (FJ v os) (piecesOf rh ZV cd ⟨159,0,159,9⟩ [topFrame q0])=some (.next,FK v os,cd,⟨160,0,160,17⟩)) (λw os=>uQ w os) (λw os=>xL w os) w os
def Qp(p:Params):BT:=br 10 ((((L p).take 308).set 3 (HW p)).set 29 (Hx))
def IS(w:World)(os:OsState):SharedT:=⟨Qp w.params,308,life,#[],⟨0,0,0,0⟩,2858,os⟩
abbrev ub:List Stmt:=[st 64,st 65,st 66,st 67,st 68,st 69,st 70,st 71,st 72,st 73,st 74,st 75,st 76]
theorem Nq(w:World)(os:OsState):segRunT treeTable P0 w 28 d4 1 285 (FK w os) (piecesOf ub ZV cd ⟨160,0,160,17⟩ [topFrame q0])=some (.next,IS w os,cd,⟨236,0,248,16⟩):=by kernel_rfl
def Ov(p:Params):BT:=br 10 ((L p).take 342)
def p8(w:World)(os:OsState):SharedT:=⟨Ov w.params,342,life,#[],⟨0,0,0,0⟩,2904,os⟩
abbrev sC:List Stmt:=[st 77,st 78,st 79,st 80,st 81,st 82]
theorem Nr(w:World)(os:OsState):segRunT treeTable P0 w 28 d4 1 171 (IS w os) (piecesOf sC ZV cd ⟨236,0,248,16⟩ [topFrame q0])=some (.next,p8 w os,cd,⟨312,0,326,81⟩):=by kernel_rfl
theorem Ef(w:World)(os:OsState):topRun treeTable P0 w 28 d4 2 (p8 w os).abs ⟨doneF .next,cd,⟨312,0,326,81⟩,[topFrame q0]⟩=some (p8 w os).abs:=by kernel_rfl
theorem E7(w:World)(os:OsState):topRun treeTable P0 w 28 d4 (171+2) (IS w os).abs (restOf (sC++[]) ZV cd ⟨236,0,248,16⟩ [topFrame q0])=some (p8 w os).abs:=piece_app (segRun_of (Nr w os)) (piece_nil (Ef w os))
theorem E6(w:World)(os:OsState):topRun treeTable P0 w 28 d4 (285+(171+2)) (FK w os).abs (restOf (ub++(sC++[])) ZV cd ⟨160,0,160,17⟩ [topFrame q0])=some (p8 w os).abs:=piece_app (segRun_of (Nq w os)) (E7 w os)
theorem E5(w:World)(os:OsState):topRun treeTable P0 w 28 d4 (979+(285+(171+2))) (FJ w os).abs (restOf (rh++(ub++(sC++[]))) ZV cd ⟨159,0,159,9⟩ [topFrame q0])=some (p8 w os).abs:=piece_app (segRun_of (Np w os)) (E6 w os)
theorem E3(w:World)(os:OsState):topRun treeTable P0 w 28 d4 (190+(979+(285+(171+2)))) (IR w os).abs (restOf (vP++(rh++(ub++(sC++[])))) ZV cd ⟨138,0,138,10⟩ [topFrame q0])=some (p8 w os).abs:=piece_app (segRun_of (No w os)) (E5 w os)
theorem E2(w:World)(os:OsState):topRun treeTable P0 w 28 d4 (301+(190+(979+(285+(171+2))))) (S9 w os).abs (restOf (xg++(vP++(rh++(ub++(sC++[]))))) ZV cd ⟨103,0,103,13⟩ [topFrame q0])=some (p8 w os).abs:=piece_app (segRun_of (Nn w os)) (E3 w os)
theorem Ie(w:World)(os:OsState):topRun treeTable P0 w 28 d4 (12525+(301+(190+(979+(285+(171+2)))))) (S8 w os).abs (restOf (g9++(xg++(vP++(rh++(ub++(sC++[])))))) ZV cd ⟨101,0,102,30⟩ [topFrame q0])=some (p8 w os).abs:=piece_app (Qi w os) (E2 w os)
theorem Id(w:World)(os:OsState):topRun treeTable P0 w 28 d4 (30+(12525+(301+(190+(979+(285+(171+2))))))) (S7 w os).abs (restOf (g8++(g9++(xg++(vP++(rh++(ub++(sC++[]))))))) ZV cd ⟨100,0,100,6⟩ [topFrame q0])=some (p8 w os).abs:=piece_app (segRun_of (Qh w os)) (Ie w os)
theorem Ic(w:World)(os:OsState):topRun treeTable P0 w 28 d4 (999+(30+(12525+(301+(190+(979+(285+(171+2)))))))) (S6 w os).abs (restOf (g7++(g8++(g9++(xg++(vP++(rh++(ub++(sC++[])))))))) ZV cd ⟨99,0,99,8⟩ [topFrame q0])=some (p8 w os).abs:=piece_app (segRun_of (Qg w os)) (Id w os)
theorem Ib(w:World)(os:OsState):topRun treeTable P0 w 28 d4 (10+(999+(30+(12525+(301+(190+(979+(285+(171+2))))))))) (S5 w os).abs (restOf (g6++(g7++(g8++(g9++(xg++(vP++(rh++(ub++(sC++[]))))))))) ZV cd ⟨18,0,98,93⟩ [topFrame q0])=some (p8 w os).abs:=piece_app (segRun_of (Qf w os)) (Ic w os)
theorem Ia(w:World)(os:OsState):topRun treeTable P0 w 28 d4 (731+(10+(999+(30+(12525+(301+(190+(979+(285+(171+2)))))))))) (S4 w os).abs (restOf (g5++(g6++(g7++(g8++(g9++(xg++(vP++(rh++(ub++(sC++[])))))))))) ZV cd ⟨9,0,17,20⟩ [topFrame q0])=some (p8 w os).abs:=piece_app (segRun_of (Qe w os)) (Ib w os)
theorem H9(w:World)(os:OsState):topRun treeTable P0 w 28 d4 (34+(731+(10+(999+(30+(12525+(301+(190+(979+(285+(171+2))))))))))) (S3 w os).abs (restOf (g4++(g5++(g6++(g7++(g8++(g9++(xg++(vP++(rh++(ub++(sC++[]))))))))))) ZV cd ⟨8,0,8,20⟩ [topFrame q0])=some (p8 w os).abs:=piece_app (segRun_of (Qd w os)) (Ia w os)
theorem H8(w:World)(os:OsState):topRun treeTable P0 w 28 d4 (78+(34+(731+(10+(999+(30+(12525+(301+(190+(979+(285+(171+2)))))))))))) (S2 w os).abs (restOf (g3++(g4++(g5++(g6++(g7++(g8++(g9++(xg++(vP++(rh++(ub++(sC++[])))))))))))) ZV cd ⟨7,0,7,19⟩ [topFrame q0])=some (p8 w os).abs:=piece_app (segRun_of (Qc w os)) (H9 w os)
theorem Av(w:World)(os:OsState):topRun treeTable P0 w 28 d4 (70+(78+(34+(731+(10+(999+(30+(12525+(301+(190+(979+(285+(171+2))))))))))))) (S1 w os).abs (restOf (g2++(g3++(g4++(g5++(g6++(g7++(g8++(g9++(xg++(vP++(rh++(ub++(sC++[]))))))))))))) ZV cd ⟨6,0,6,9⟩ [topFrame q0])=some (p8 w os).abs:=piece_app (segRun_of (Qb w os)) (H8 w os)
theorem H7(w:World)(os:OsState):topRun treeTable P0 w 28 d4 (78+(70+(78+(34+(731+(10+(999+(30+(12525+(301+(190+(979+(285+(171+2)))))))))))))) (S0 w os).abs (restOf (g1++(g2++(g3++(g4++(g5++(g6++(g7++(g8++(g9++(xg++(vP++(rh++(ub++(sC++[])))))))))))))) ZV cd ⟨5,0,5,8⟩ [topFrame q0])=some (p8 w os).abs:=piece_app (segRun_of (Qa w os)) (Av w os)
theorem H6(w:World)(os:OsState):topRun treeTable P0 w 28 d4 (39+(78+(70+(78+(34+(731+(10+(999+(30+(12525+(301+(190+(979+(285+(171+2))))))))))))))) (Sb w os).abs (restOf (g0++(g1++(g2++(g3++(g4++(g5++(g6++(g7++(g8++(g9++(xg++(vP++(rh++(ub++(sC++[]))))))))))))))) ZV cd ⟨0,0,0,0⟩ [topFrame q0])=some (p8 w os).abs:=piece_app (segRun_of (P9 w os)) (H7 w os)
theorem Gf:behindTheImports P0=(g0++(g1++(g2++(g3++(g4++(g5++(g6++(g7++(g8++(g9++(xg++(vP++(rh++(ub++(sC++[]))))))))))))))):=by kernel_rfl
def H1(p:Params):Heap:=absHeap (Ov p) 342 life
theorem Nw(w:World)(os:OsState):topRun treeTable P0 w 28 d4 (12+(1+(39+(78+(70+(78+(34+(731+(10+(999+(30+(12525+(301+(190+(979+(285+(171+2))))))))))))))))) ⟨H0 w.params,#[],⟨0,0,0,0⟩,276,os⟩ (topStub P0)=some (p8 w os).abs:=go_top (Nu w os) (piece_block (DR w os) (by rw[Gf];exact(H6 w os)))
def KK(p:Params):Frag:=(List.range 342).zip (L p)
noncomputable def KA:List Addr:=List.range 342
theorem OT(p:Params):KA=(KK p).map (·.1):=by kernel_rfl
noncomputable abbrev r0:OpenRow:=OpenLaw.row PySem.Challenge.rw_kl0127_02
def qv:Program:={ P0 with main:={ P0.main with body:=[(P0.main.body[0]?).getD (.Pass ⟨0,0,0,0⟩),st 82] } }
noncomputable def loose:List Str:=[(.ofString "_wall"),(.ofString "tspecials"),(.ofString "_name_disallowed_re"),(.ofString "_value_disallowed_re"),(.ofString "_formatparam"),(.ofString "Headers"),(.ofString "b1_set"),(.ofString "in_table_b1"),(.ofString "b3_exceptions"),(.ofString "map_table_b3"),(.ofString "ENDMARKER"),(.ofString "LPAR"),(.ofString "RPAR"),(.ofString "LSQB"),(.ofString "RSQB"),(.ofString "COLON"),(.ofString "COMMA"),(.ofString "SEMI"),(.ofString "PLUS"),(.ofString "MINUS"),(.ofString "STAR"),(.ofString "SLASH"),(.ofString "VBAR"),(.ofString "AMPER"),(.ofString "LESS"),(.ofString "GREATER"),(.ofString "EQUAL"),(.ofString "DOT"),(.ofString "PERCENT"),(.ofString "LBRACE"),(.ofString "RBRACE"),(.ofString "EQEQUAL"),(.ofString "NOTEQUAL"),(.ofString "LESSEQUAL"),(.ofString "GREATEREQUAL"),(.ofString "TILDE"),(.ofString "CIRCUMFLEX"),(.ofString "LEFTSHIFT"),(.ofString "RIGHTSHIFT"),(.ofString "DOUBLESTAR"),(.ofString "PLUSEQUAL"),(.ofString "MINEQUAL"),(.ofString "STAREQUAL"),(.ofString "SLASHEQUAL"),(.ofString "PERCENTEQUAL"),(.ofString "AMPEREQUAL"),(.ofString "VBAREQUAL"),(.ofString "CIRCUMFLEXEQUAL"),(.ofString "LEFTSHIFTEQUAL"),(.ofString "RIGHTSHIFTEQUAL"),(.ofString "DOUBLESTAREQUAL"),(.ofString "DOUBLESLASH"),(.ofString "DOUBLESLASHEQUAL"),(.ofString "AT"),(.ofString "ATEQUAL"),(.ofString "RARROW"),(.ofString "ELLIPSIS"),(.ofString "COLONEQUAL"),(.ofString "EXCLAMATION"),(.ofString "NT_OFFSET"),(.ofString "EXACT_TOKEN_TYPES"),(.ofString "ISTERMINAL"),(.ofString "ISNONTERMINAL"),(.ofString "ISEOF"),(.ofString "_MAX_STRING_SIZE"),(.ofString "_MOVE_COST"),(.ofString "_CASE_COST"),(.ofString "_substitution_cost"),(.ofString "_levenshtein_distance"),(.ofString "_law_ends"),(.ofString "_law_drawn"),(.ofString "_law_typed"),(.ofString "_law_symbols"),(.ofString "_law_edges"),(.ofString "_law_sides"),(.ofString "_law_far"),(.ofString "_law_written")]
abbrev HK:Hook:=kHook KK KA OT
theorem Ik(w:World):((H0 w.params).isNs mainGlobals&&(#[]:Array GenState).size==0,(H0 w.params).objs.size,(H0 w.params).nsMap mainGlobals "__annotations__")=(true,28,d4):=by kernel_rfl
theorem GU(w:World)(os:OsState):(staticsOk (importedModules P0.main.body) (H0 w.params) (H1 w.params)&&namesBound P0 (H1 w.params)&&gensDone ⟨H1 w.params,#[],⟨0,0,0,0⟩,2904,os⟩&&laidKept (H0 w.params) (H1 w.params))=true:=by kernel_rfl
theorem GV(w:World)(os:OsState):openSeen qv loose (importedModules P0.main.body) (λs=>xlAt qv [] s&&recOk (RowW.records r0.toRowW) s) true ⟨H1 w.params,#[],⟨0,0,0,0⟩,2904,os⟩=openGood qv loose:=by rw[PySem.W.Fast.te4187177175401517315];kernel_rfl
theorem GW(w:World)(os:OsState):Hook.obs HK ⟨H1 w.params,#[],⟨0,0,0,0⟩,2904,os⟩=Hook.val HK w:=by kernel_rfl
theorem GM:LeftO P0 qv loose (λs=>xlAt qv [] s&&recOk (RowW.records r0.toRowW) s) (Hook.obs HK) (Hook.val HK) 100000:=LeftO.of_pieces Aj Ik Nw (by decide) (λw=>funext λos=>looks_pair (GU w os) (looks_pair (GV w os) (GW w os)))
end
end Mine.Lake.H
namespace Mine.Lake.W
noncomputable abbrev P0:Program:=PySem.Challenge.pw_kl0127_02
set_option genCtorIdx true in
inductive D where
 |none|bool (b:Bool)|int (i:Int)|str (s:Str)|tup (ds:List D)|list (ds:List D)|ref (a:Addr)|inst (C b:Addr)|hdr (C:Addr) (ds:List D)|exc (m:Str)|rng (a b:Int)
noncomputable abbrev aQ(c:String)(vs:List Value)(n:Nat):Obj:=⟨.type c,Option.none,.seq vs.toArray n,#[]⟩
noncomputable abbrev eH:=Addr->Option Obj
inductive bO(g:eH)(a C b:Addr):Prop
 |mk (d:Addr) (od:Obj) (i1:g a=some (instObj C d)) (i2:g d=some od) (i3:lookIn "_headers" od=some (some (.ref b))) (i4:∀y:Str,y≠"_headers"->lookIn y od=some none):bO g a C b
theorem bO.el{P:Prop}{g:eH}{a C b:Addr}(h:bO g a C b)(k:∀d od,g a=some (instObj C d)->g d=some od->lookIn "_headers" od=some (some (.ref b))->(∀y:Str,y≠"_headers"->lookIn y od=some none)->P):P:=by cases h;exact k _ _ ‹_› ‹_› ‹_› ‹_›
mutual
inductive RV(g:eH):D->Value->Prop
 |none:RV g .none .none
 |bool (b:Bool):RV g (.bool b) (.bool b)
 |int (i:Int) (t:Tok):RV g (.int i) (.int i t)
 |str (s:Str) (t:Tok):RV g (.str s) (.str s t)
 |tup {a:Addr} {o:Obj} {vs:List Value} {n:Nat} {ds:List D}:g a=some o->o.cls=.type "tuple"->o.data=.seq vs.toArray n->aX g ds vs->RV g (.tup ds) (.ref a)
 |list {a:Addr} {vs:List Value} {n:Nat} {ds:List D}:g a=some (aQ "list" vs n)->aX g ds vs->RV g (.list ds) (.ref a)
 |ref (a:Addr):RV g (.ref a) (.ref a)
 |inst {a C b:Addr}:bO g a C b->RV g (.inst C b) (.ref a)
 |hdr {a C b:Addr} {vs:List Value} {n:Nat} {ds:List D}:bO g a C b->g b=some (aQ "list" vs n)->aX g ds vs->RV g (.hdr C ds) (.ref a)
 |exc {e t:Addr} {oe ot:Obj} {vs:Array Value} {n:Nat} {m:Str} {tk:Tok}:g e=some oe->oe.cls=.type "ValueError"->oe.data=.fields vs->vs[0]? = some (.ref t)->g t=some ot->ot.cls=.type "tuple"->ot.data=.seq #[.str m tk] n->RV g (.exc m) (.ref e)
 |rng {r:Addr} {a b:Int} {t u v:Tok}:g r=some { cls:=.type "range",dict:=Option.none,data:=.fields #[.int a t,.int b u,.int 1 v],slots:=#[] }->RV g (.rng a b) (.ref r)
inductive aX(g:eH):List D->List Value->Prop
 |nil:aX g [] []
 |cons {d:D} {ds:List D} {v:Value} {vs:List Value}:RV g d v->aX g ds vs->aX g (d::ds) (v::vs)
end
theorem aX.Z3{g:eH}{vs:List Value}(h:aX g [] vs):vs=[]:=by cases h;rfl
theorem aX.Z9{P:Prop}{g:eH}{d:D}{ds:List D}{vs:List Value}(h:aX g (d::ds) vs)(k:∀v r,vs=v::r->RV g d v->aX g ds r->P):P:=by cases h with|cons a r=>exact k _ _ rfl a r
theorem aX.both{g:eH}{d:D}{ds:List D}{v:Value}{vs:List Value}(h:aX g (d::ds) (v::vs)):RV g d v/\aX g ds vs:=by cases h with|cons a r=>exact⟨a,r⟩
theorem RV.intK{P:Prop}{g:eH}{i:Int}{v:Value}(h:RV g (.int i) v)(k:∀t,v=.int i t->P):P:=by cases h with|int _ t=>exact k t rfl
theorem RV.strK{P:Prop}{g:eH}{i:Str}{v:Value}(h:RV g (.str i) v)(k:∀t,v=.str i t->P):P:=by cases h with|str _ t=>exact k t rfl
theorem RV.instK{P:Prop}{g:eH}{C b:Addr}{v:Value}(h:RV g (.inst C b) v)(k:∀a,v=.ref a->bO g a C b->P):P:=by cases h with|inst i=>exact k _ rfl i
noncomputable def GF(o:Obj):Bool:=match lookIn "_headers" o with|some (some _)=>true|_=>false
noncomputable def BO(o:Obj):Bool:=match o.cls with|.type t=>t == "ValueError" || t == "range" |_=>false
def fZ(o:Obj):Bool:=match o.data with|.seq ..=>true|.plain=>true|.dict ..=>GF o|.fields _=>BO o|_=>false
theorem pe{o:Obj}{vs:Array Value}{n:Nat}(e:o.data=.seq vs n):fZ o=true:=by unfold fZ;rw[e]
theorem xm{o:Obj}{v:Value}(e:lookIn "_headers" o=some (some v)):fZ o=true:=by
 obtain⟨c,d,da,sl⟩:=o;cases da with
 |dict es n=>show GF _=true;unfold GF;rw[e]
 |_=>contradiction
theorem uF{o:Obj}{vs:Array Value}(c:o.cls=.type "ValueError")(e:o.data=.fields vs):fZ o=true:=by unfold fZ BO;rw[e,c];rfl
def am(g g':eH):Prop:=∀a o,fZ o=true->g a=some o->g' a=some o
theorem am.refl(g:eH):am g g:=λU U U e=>e
theorem am.trans{g g' g'':eH}(x:am g g')(y:am g' g''):am g g'':=λa o q e=>y a o q (x a o q e)
theorem bO.mono{g g':eH}(k:am g g'){a C b:Addr}:bO g a C b->bO g' a C b:=λ⟨d,od,h1,h2,h3,h4⟩=>⟨d,od,k _ _ (by rfl) h1,k _ _ (xm h3) h2,h3,h4⟩
theorem RV.mono{g g':eH}(k:am g g'){d:D}{v:Value}(h:RV g d v):RV g' d v:=
 RV.rec (motive_1:=λd v U=>RV g' d v) (motive_2:=λds vs U=>aX g' ds vs) .none .bool .int .str (λe q p U r=>.tup (k _ _ (pe p) e) q p r) (λe U r=>.list (k _ _ (by rfl) e) r) .ref (λe=>.inst (e.mono k))
  (λe q U r=>.hdr (e.mono k) (k _ _ (by rfl) q) r) (λe c d i e' c' d'=>.exc (k _ _ (uF c d) e) c d i (k _ _ (pe d') e') c' d') (λe=>.rng (k _ _ (by rfl) e)) .nil (λU U a r=>.cons a r) h
theorem aX.mono{g g':eH}(k:am g g'){ds:List D}{vs:List Value}(h:aX g ds vs):aX g' ds vs:=by
 induction ds generalizing vs with
 |nil=>obtain rfl:=h.Z3;exact .nil
 |cons d ds ih=>refine aX.Z9 h λU U U a r=>?_;subst U;exact .cons (a.mono k) (ih r)
theorem aX.length{g:eH}{ds:List D}{vs:List Value}(h:aX g ds vs):vs.length=ds.length:=by
 induction ds generalizing vs with
 |nil=>obtain rfl:=h.Z3;rfl
 |cons d ds ih=>refine aX.Z9 h λU U U a r=>?_;subst U;rw[QK,QK,ih r]
theorem aX.app{g:eH}{ds My:List D}{vs vs':List Value}(h:aX g ds vs)(y:aX g My vs'):aX g (ds++My) (vs++vs'):=by
 induction ds generalizing vs with
 |nil=>obtain rfl:=h.Z3;exact y
 |cons d ds ih=>refine aX.Z9 h λU U U a r=>?_;subst U;exact .cons a (ih r)
theorem aX.get{g:eH}{ds:List D}{vs:List Value}{i:Nat}{d:D}(h:aX g ds vs)(e:ds[i]? = some d):∃v,vs[i]? = some v/\RV g d v:=by
 induction ds generalizing vs i with
 |nil=>contradiction
 |cons d ds ih=>
  refine aX.Z9 h λU U U a r=>?_;subst U
  ·cases i with
   |zero=>obtain rfl:=QG e;exact⟨_,rfl,a⟩
   |succ i=>have z:=ih (i:=i) r e;exact z
theorem aX.set{g:eH}{ds:List D}{vs:List Value}(i:Nat){d:D}{v:Value}(h:aX g ds vs)(y:RV g d v):aX g (ds.set i d) (vs.set i v):=by
 induction ds generalizing vs i with
 |nil=>obtain rfl:=h.Z3;exact .nil
 |cons d ds ih=>
  refine aX.Z9 h λU U U a r=>?_;subst U
  ·cases i with
   |zero=>exact .cons y r
   |succ i=>exact .cons a (ih i r)
inductive F7(g:eH)(ds:List D)(v:Value):Prop
 |mk (a:Addr) (o:Obj) (vs:List Value) (n:Nat) (e:v=.ref a) (r:g a=some o/\o.cls=.type "tuple"/\o.data=.seq (List.toArray vs) n/\aX g ds vs):F7 g ds v
inductive dK(g:eH)(ds:List D)(v:Value):Prop
 |mk (a:Addr) (vs:List Value) (n:Nat) (e:v=.ref a) (r:g a=some (aQ "list" vs n)/\aX g ds vs):dK g ds v
theorem dK.el{P:Prop}{g:eH}{ds:List D}{v:Value}(h:dK g ds v)(k:∀a vs n,v=.ref a->g a=some (aQ "list" vs n)->aX g ds vs->P):P:=by obtain⟨a,vs,n,e,h1,h2⟩:=h;exact k a vs n e h1 h2
inductive ym(g:eH)(C:Addr)(ds:List D)(v:Value):Prop
 |mk (a b:Addr) (vs:List Value) (n:Nat) (e:v=.ref a) (r:bO g a C b/\g b=some (aQ "list" vs n)/\aX g ds vs):ym g C ds v
theorem ym.el{P:Prop}{g:eH}{C:Addr}{ds:List D}{v:Value}(h:ym g C ds v)(k:∀a b vs n,v=.ref a->bO g a C b->g b=some (aQ "list" vs n)->aX g ds vs->P):P:=by obtain⟨a,b,vs,n,e,h1,h2,h3⟩:=h;exact k a b vs n e h1 h2 h3
inductive cq(g:eH)(d:D)(ds:List D)(vs:List Value):Prop
 |mk (v:Value) (r:List Value) (e:vs=v::r) (h:RV g d v/\aX g ds r):cq g d ds vs
theorem cq.el{P:Prop}{g:eH}{d:D}{ds:List D}{vs:List Value}(h:cq g d ds vs)(k:∀v r,vs=v::r->RV g d v->aX g ds r->P):P:=by obtain⟨v,r,e,h1,h2⟩:=h;exact k v r e h1 h2
def F0(g:eH):D->Value->Prop
 |.none,v=>v=.none
 |.bool b,v=>v=.bool b
 |.int i,v=>∃t,v=.int i t
 |.str s,v=>∃t,v=.str s t
 |.tup ds,v=>F7 g ds v
 |.list ds,v=>dK g ds v
 |.ref a,v=>v=.ref a
 |.inst C b,v=>∃a,v=.ref a/\bO g a C b
 |.hdr C ds,v=>ym g C ds v
 |.exc _,_=>True
 |.rng a b,v=>∃r t u w,v=.ref r/\g r=some { cls:=.type "range",dict:=Option.none,data:=.fields #[.int a t,.int b u,.int 1 w],slots:=#[] }
theorem RV.inv{g:eH}{d:D}{v:Value}(h:RV g d v):F0 g d v:=by
 cases h with
 |none=>rfl
 |bool=>rfl
 |int _ t=>exact⟨t,rfl⟩
 |str _ t=>exact⟨t,rfl⟩
 |tup h1 h2 h3 h4=>exact⟨_,_,_,_,rfl,h1,h2,h3,h4⟩
 |list h1 h2=>exact⟨_,_,_,rfl,h1,h2⟩
 |ref=>rfl
 |inst h=>exact⟨_,rfl,h⟩
 |hdr h1 h2 h3=>exact⟨_,_,_,_,rfl,h1,h2,h3⟩
 |exc=>trivial
 |rng h=>exact⟨_,_,_,_,rfl,h⟩
theorem aX.Z0{g:eH}{d:D}{ds:List D}{vs:List Value}(h:aX g (d::ds) vs):cq g d ds vs:=by cases h with|cons a r=>exact⟨_,_,rfl,a,r⟩
noncomputable def less(h:Heap)(ms:List Addr):eH:=λb=>if b∈ms then none else h.get? b
theorem ab{h:Heap}{ms:List Addr}{b:Addr}{o:Obj}:less h ms b=some o↔b∉ms/\h.get? b=some o:=by unfold less;by_cases q:b∈ms<;>simp[q]
structure oJ(wr:List Str)(ZV:Env)(Hy h:Heap)(m:Str->Option Value):Prop where
 ns:∃ml,h.Ns ZV.locals ml/\(∀x,ZV.kindOf x=some .local->ml x=m x)/\ml "_headers" = none
 cell:∀x c,(ZV.kindOf x=some .cell\/ZV.kindOf x=some .free)->ZV.cells.lookup x=some c->h.IsCell c (m x)
 has:∀x,(ZV.kindOf x=some .cell\/ZV.kindOf x=some .free)->∃c,ZV.cells.lookup x=some c
 apart:ZV.cells.Pairwise λx y=>x.2≠y.2
 off:∀p∈ZV.cells,p.2≠ZV.locals
 keep:∀b o,Hy.get? b=some o->h.get? b=some o
 above:Hy.get? ZV.locals=none
 Z1:∀x∈wr,∀c,ZV.cells.lookup x=some c->Hy.get? c=none
inductive Mu where
 |list (ds:List D)|dict (es:List (Str×D))
inductive nY(g:eH)(h:Heap)(a:Addr)(ds:List D):Prop
 |mk (vs:List Value) (n:Nat) (e:h.get? a=some (aQ "list" vs n)) (rs:aX g ds vs):nY g h a ds
theorem nY.el{P:Prop}{g:eH}{h:Heap}{a:Addr}{ds:List D}(x:nY g h a ds)(k:∀vs n,h.get? a=some (aQ "list" vs n)->aX g ds vs->P):P:=by obtain⟨vs,n,e,rs⟩:=x;exact k vs n e rs
def iU(w:World)(g:eH)(h:Heap)(a:Addr):Mu->Prop
 |.list ds=>nY g h a ds
 |.dict es=>∃kvs,h.DictOf (PySem.strKind P0 w) a kvs/\(a==sysModules)=false/\kvs.map (·.1)=es.map (·.1)/\aX g (es.map (·.2)) (kvs.map (·.2))
theorem iU.keep{w:World}{g g':eH}{h h':Heap}{a:Addr}(k:am g g')(ka:∀o,h.get? a=some o->h'.get? a=some o){o:Mu}(x:iU w g h a o):iU w g' h' a o:=by
 cases o with
 |list ds=>refine nY.el x λvs n e r=>?_;exact⟨vs,n,ka _ e,r.mono k⟩
 |dict es=>obtain⟨kvs,⟨o,es,ep,ho,r⟩,sm,ek,rv⟩:=x;exact⟨kvs,⟨o,es,ep,ka _ ho,r⟩,sm,ek,rv.mono k⟩
theorem iU.there{w:World}{g:eH}{h:Heap}{a:Addr}{o:Mu}(x:iU w g h a o):∃ob,h.get? a=some ob/\((∃v n,ob.data=.seq v n)\/∃v n,ob.data=.dict v n):=by
 cases o with
 |list ds=>refine nY.el x λvs n e r=>?_;exact⟨_,e,.inl ⟨_,_,rfl⟩⟩
 |dict es=>obtain⟨kvs,⟨o,es,ep,ho,_,hd,_⟩,_⟩:=x;exact⟨_,ho,.inr ⟨_,_,hd⟩⟩
set_option genCtorIdx true in
inductive Slot where
 |no|val (d:D)|mu (a:Addr) (o:Mu)
noncomputable abbrev St:=List Slot
def ar(w:World)(h:Heap)(ms:List Addr)(m:Str->Option Value):List Str->St->List Addr->Prop
 |_,[],as=>as=[]
 |x::xs,.no::r,as=>ar w h ms m xs r as
 |x::xs,.val d::r,as=>(∃v,m x=some v/\RV (less h ms) d v)/\ar w h ms m xs r as
 |x::xs,.mu b o::r,a::as=>(a=b/\m x=some (.ref a))/\iU w (less h ms) h a o/\ar w h ms m xs r as
 |_,_::_,_=>False
structure ao(s s':Shared):Prop where
 keep:∀b o,s.heap.get? b=some o->s'.heap.get? b=some o
 gens:s'.gens=s.gens
 drawn:s'.drawn.other=s.drawn.other
 os:s'.os=s.os
theorem ao.refl(s:Shared):ao s s:=⟨λU U e=>e,rfl,rfl,rfl⟩
theorem ao.trans{s s' Ka:Shared}(x:ao s s')(y:ao s' Ka):ao s Ka:=⟨λb o e=>y.keep b o (x.keep b o e),y.gens.trans x.gens,y.drawn.trans x.drawn,y.os.trans x.os⟩
theorem oJ.grow{wr:List Str}{ZV:Env}{Hy h h':Heap}{m:Str->Option Value}(F:oJ wr ZV Hy h m)(k:∀b o,h.get? b=some o->h'.get? b=some o):oJ wr ZV Hy h' m:=by exact ay F.ns λml hn hl=>⟨⟨ml,hn.at' λo e=>k _ o e,hl⟩,λx c hk hc=>(F.cell x c hk hc).keeps k,F.has,F.apart,F.off,λb o e=>k b o (F.keep b o e),F.above,F.Z1⟩
theorem ai{h h':Heap}{ms:List Addr}(k:∀b o,h.get? b=some o->h'.get? b=some o):am (less h ms) (less h' ms):=by intro a o _ e;rw[ab]at e ⊢;exact⟨e.1,k _ _ e.2⟩
theorem ar.ind{w:World}{h:Heap}{ms:List Addr}{m:Str->Option Value}{P:List Str->St->List Addr->Prop}(nil:∀xs,P xs [] [])(no:∀x xs r as,P xs r as->ar w h ms m xs r as->P (x::xs) (.no::r) as)(val:∀x xs d v r as,m x=some v->RV (less h ms) d v->P xs r as->ar w h ms m xs r as->P (x::xs) (.val d::r) as)(mu:∀x xs b o r as,m x=some (.ref b)->iU w (less h ms) h b o->P xs r as->ar w h ms m xs r as->P (x::xs) (.mu b o::r) (b::as)){xs:List Str}{O:St}{as:List Addr}(H:ar w h ms m xs O as):P xs O as:=by
 induction O generalizing xs as with
 |nil=>
  have e:as=[]:=by cases xs<;>exact H
  subst e;exact nil xs
 |cons o r ih=>
  cases xs with
  |nil=>cases o<;>contradiction<;>exact H.elim
  |cons x xs=>
   cases o with
   |no=>exact no _ _ _ _ (ih H) H
   |val d=>obtain⟨⟨v,e,rv⟩,H⟩:=H;exact val _ _ _ _ _ _ e rv (ih H) H
   |mu b o=>
    cases as with
    |nil=>exact H.elim
    |cons a as=>obtain⟨⟨rfl,e⟩,mr,H⟩:=H;exact mu _ _ _ _ _ _ e mr (ih H) H
theorem ar.grow{w:World}{h h':Heap}{ms:List Addr}{m:Str->Option Value}(k:∀b o,h.get? b=some o->h'.get? b=some o){xs:List Str}{O:St}{as:List Addr}(H:ar w h ms m xs O as):ar w h' ms m xs O as:=by refine H.ind (P:=λxs O as=>ar w h' ms m xs O as) (λxs=>by cases xs<;>rfl) (λx xs r as H U=>H) (λx xs d v r as e rv H U=>⟨⟨v,e,rv.mono (ai k)⟩,H⟩) λx xs b o r as e mr H U=>⟨⟨rfl,e⟩,mr.keep (ai k) (k _),H⟩

structure a6 where
 Tp:World->Heap->Prop
 keeps:∀w h h',Tp w h->(∀b o,h.get? b=some o->h'.get? b=some o)->Tp w h'
 mg:World->Str->Option Value
 mb:World->Str->Option Value
 glob:∀w h,Tp w h->h.Ns mainGlobals (mg w)
 blt:∀w h,Tp w h->h.Ns builtinsNs (mb w)
 nolimit:∀w h,Tp w h->h.NoLimit
structure aZ(n:Nat)(A:Around):Prop where
 handled:A.handled=none
 depth:A.depth+n<recursionLimit
 units:A.units+10*n+10<cLine
theorem aZ.deeper{n:Nat}{A:Around}{ZV:Env}(R:aZ (n+1) A):aZ n (A.deeper ZV):=⟨R.handled,by have:=R.depth;show A.depth+1+n<_;exact z7 this,by have:=R.units;show A.units+3+_+_<_;lia⟩
theorem aZ.less{n m:Nat}{A:Around}(R:aZ n A)(h:m<=n):aZ m A:=⟨R.handled,by have:=R.depth;lia,by have:=R.units;lia⟩
structure Cx where
 n:Nat
 sc:Scope
 names:List Str
 wr:List Str
structure aD(c:Cx)(ZV:Env):Prop where
 scope:ZV.scope=c.sc
 globals:ZV.globals=mainGlobals
 builtins:ZV.builtins=builtinsNs
 kind:c.sc.kind=.function
 nodup:c.names.Nodup
 wrc:∀x∈c.wr,c.sc.names.lookup x=some .cell
theorem aD.kindOf{c:Cx}{ZV:Env}(ok:aD c ZV)(x:Str):ZV.kindOf x=c.sc.names.lookup x:=by unfold Env.kindOf;rw[ok.scope]
inductive b9(w:World)(wr:List Str)(ZV:Env)(names:List Str)(Hy:Heap)(ms:List Addr)(as:List Addr)(O:St)(h:Heap):Prop
 |mk (m:Str->Option Value) (F:oJ wr ZV Hy h m) (S:ar w h ms m names O as):b9 w wr ZV names Hy ms as O h
theorem b9.el{P:Prop}{w:World}{wr:List Str}{ZV:Env}{names:List Str}{Hy:Heap}{ms as:List Addr}{O:St}{h:Heap}(x:b9 w wr ZV names Hy ms as O h)(k:∀m,oJ wr ZV Hy h m->ar w h ms m names O as->P):P:=by obtain⟨m,F,S⟩:=x;exact k m F S
structure aC(w:World)(wr:List Str)(ZV:Env)(names:List Str)(Hy:Heap)(ms₀ as:List Addr)(O:St)(h:Heap):Prop where
 ex:b9 w wr ZV names Hy (ms₀++as) as O h
 nd:as.Nodup
 new:∀a∈as,Hy.get? a=none
 old:∀a∈ms₀,∃o,Hy.get? a=some o
 loc:∀a∈as,a≠ZV.locals/\∀x cl,ZV.kindOf x=some .cell->ZV.cells.lookup x=some cl->cl≠a
theorem aC.grow{w:World}{wr:List Str}{ZV:Env}{names:List Str}{Hy h h':Heap}{ms₀ as:List Addr}{O:St}(R:aC w wr ZV names Hy ms₀ as O h)(k:∀b o,h.get? b=some o->h'.get? b=some o):aC w wr ZV names Hy ms₀ as O h':=by exact b9.el R.ex λm F S=>⟨⟨m,F.grow k,S.grow k⟩,R.nd,R.new,R.old,R.loc⟩
section
variable(T:a6)(c:Cx)
structure Ev(O:St)(e:PySem.Expr)(d:D):Prop where
 run:∀{w:World}{A:Around}{ZV:Env}{Hy:Heap}{ms₀ as:List Addr}{s:Shared}{Q:Ω}{E:Ω},
  ∀(ok:aD c ZV)(tp:T.Tp w Hy)(R:aZ c.n A)(JE:aC w c.wr ZV c.names Hy ms₀ as O s.heap)(q:∀v s',ao s s'->RV (less s'.heap (ms₀++as)) d v->Q v s'),wpAny (model P0 w) A (eval e ZV) Q E s
structure rn(O:St)(es:List PySem.Expr)(ds:List D):Prop where
 run:∀{w:World}{A:Around}{ZV:Env}{Hy:Heap}{ms₀ as:List Addr}{s:Shared}{Q:List Value->Shared->Prop}{E:Ω},
  ∀(ok:aD c ZV)(tp:T.Tp w Hy)(R:aZ c.n A)(JE:aC w c.wr ZV c.names Hy ms₀ as O s.heap)(q:∀vs s',ao s s'->aX (less s'.heap (ms₀++as)) ds vs->Q vs s'),∀pos,wpAny (model P0 w) A (spliced (backTo pos (starEach es ZV))) Q E s
structure Tr(O:St)(e:PySem.Expr)(b:Bool):Prop where
 run:∀{w:World}{A:Around}{ZV:Env}{Hy:Heap}{ms₀ as:List Addr}{s:Shared}{Q:Bool->Shared->Prop}{E:Ω},
  ∀(ok:aD c ZV)(tp:T.Tp w Hy)(R:aZ c.n A)(JE:aC w c.wr ZV c.names Hy ms₀ as O s.heap)(q:∀s',ao s s'->Q b s'),wpAny (model P0 w) A (isTrue e ZV (eval e ZV)) Q E s
end
section
variable{T:a6}{c:Cx}{O:St}
theorem ax{s:Shared}{t:Nat}:ao s { s with toks:=t }:=⟨λU U e=>e,rfl,rfl,rfl⟩
theorem ag{i:Int}{k:Nat}{p:Pos}:Ev T c O (.Constant (.int i) k p) (.int i):=⟨λU U U U q=>wpAny_Constant_int (q _ _ ax (.int _ _))⟩
theorem aA{x:Str}{k:Nat}{p:Pos}:Ev T c O (.Constant (.str x) k p) (.str x):=⟨λU U U U q=>Constant_str (q _ _ ax (.str _ _))⟩
theorem fB{k:Nat}{p:Pos}:Ev T c O (.Constant .none k p) .none:=⟨λU U U U q=>QD (q _ _ (ao.refl _) .none)⟩
theorem cR{b:Bool}{k:Nat}{p:Pos}:Ev T c O (.Constant (.bool b) k p) (.bool b):=⟨λU U U U q=>QD (q _ _ (ao.refl _) (.bool b))⟩
theorem ar.val{w:World}{h:Heap}{ms:List Addr}{m:Str->Option Value}{xs:List Str}{O:St}{as:List Addr}{i:Nat}{x:Str}{d:D}(H:ar w h ms m xs O as)(e1:xs[i]? = some x)(e2:O[i]? = some (.val d)):∃v,m x=some v/\RV (less h ms) d v:=
 H.ind (P:=λxs O as=>∀i,xs[i]? = some x->O[i]? = some (.val d)->∃v,m x=some v/\RV (less h ms) d v) (λU U U e=>by contradiction)
  (λy xs r as ih U i e1 e2=>by cases i with|zero=>cases e2|succ i=>exact ih i e1 e2)
  (λy xs d' v r as e rv ih U i e1 e2=>by cases i with|zero=>(obtain rfl:=QG e1;cases e2;exact⟨v,e,rv⟩)|succ i=>exact ih i e1 e2)
  (λy xs b o r as e mr ih U i e1 e2=>by cases i with|zero=>cases e2|succ i=>exact ih i e1 e2) i e1 e2
noncomputable def mW:Option NameKind->Bool|some .local=>true|some .cell=>true|some .free=>true|_=>false
theorem kG(i:Nat){x:Str}{d:D}(hx:c.names[i]? = some x)(hd:O[i]? = some (.val d))(hk:mW (c.sc.names.lookup x)=true)(hc:(x==("__classdict__" : Str))=false){w:World}{A:Around}{ZV:Env}{Hy:Heap}{ms₀ as:List Addr}{s:Shared}{Q:Ω}{E:Ω}(ok:aD c ZV)(JE:aC w c.wr ZV c.names Hy ms₀ as O s.heap)(q:∀v,RV (less s.heap (ms₀++as)) d v->Q v s):wpAny (model P0 w) A (loadName ZV x) Q E s:=by
 refine b9.el JE.ex λm F S=>?_;refine ay (S.val hx hd) λv hv rv=>?_;have Ky:ZV.kindOf x=c.sc.names.lookup x:=ok.kindOf x;have kf:ZV.scope.kind=.function:=by rw[ok.scope];exact ok.kind
 rcases e:c.sc.names.lookup x with _|k
 ·rw[e]at hk;contradiction
 ·rw[e]at Ky
  cases k with
  |«local»=>exact eG F.ns λml ME hl U=>wpAny_loadName_local kf Ky ME ((hl x Ky).trans hv) (q _ rv)
  |cell=>exact xE (F.has x (.inl Ky)) λcl J8=>wpAny_loadName_cell kf Ky J8 (hv▸F.cell x cl (.inl Ky) J8) (q _ rv)
  |free=>exact xE (F.has x (.inr Ky)) λcl J8=>wpAny_loadName_free kf Ky J8 (hv▸F.cell x cl (.inr Ky) J8) (q _ rv) hc
  |_=>rw[e]at hk;contradiction
theorem vK(i:Nat){x:Str}{p:Pos}{d:D}(hx:c.names[i]? = some x)(hd:O[i]? = some (.val d))(hk:mW (c.sc.names.lookup x)=true)(hn:(x==("__debug__" : Str))=false)(hc:(x==("__classdict__" : Str))=false):Ev T c O (.Name x p) d:=by constructor;intros;exact wpAny_Name (kG i hx hd hk hc ok JE λv rv=>q _ _ (ao.refl s) rv) hn
def FP(c:Cx)(i:Nat)(x:Str):Bool:=decide (c.names[i]? = some x)&&(mW (c.sc.names.lookup x)&&(!(x==("__debug__" : Str))&&!(x==("__classdict__" : Str))))
theorem aa(i:Nat){x:Str}{p:Pos}{d:D}(hd:O[i]? = some (.val d):=by rfl)(hb:FP c i x=true:=by kernel_rfl):Ev T c O (.Name x p) d:=by refine xA (QI.mp hb) λh1 h2=>?_;refine xA (QI.mp h2) λh2 h3=>?_;exact xA (QI.mp h3) λh3 h4=>vK i (QS h1) hd h2 ((Si _).mp h3) ((Si _).mp h4)
theorem jn{op:Operator}{l r:PySem.Expr}{p:Pos}{a b d:D}(ha:Ev T c O l a)(hb:Ev T c O r b)(ho:∀(w:World)(A:Around)(g:eH)(x y:Value)(s:Shared)(Q:Ω)(E:Ω),aZ c.n A->RV g a x->RV g b y->(∀v tk,(∀g,RV g d v)->Q v { s with toks:=tk })->wpAny (model P0 w) A (binaryOp op x y) Q E s):Ev T c O (.BinOp l op r p) d:=by
 constructor;intros;refine wpAny_BinOp (ha.run ok tp R JE λx HX Uf rx=>?_);refine hb.run ok tp R (JE.grow Uf.keep) λy Ug Uh ry=>?_;refine ho w A _ x y Ug Q E R (rx.mono (ai Uh.keep)) ry λv tk rv=>q _ _ ((Uf.trans Uh).trans ax) (rv _)
theorem bH{l r:PySem.Expr}{p:Pos}{a b:Int}(ha:Ev T c O l (.int a))(hb:Ev T c O r (.int b)):Ev T c O (.BinOp l .Add r p) (.int (a+b)):=
 jn ha hb λw A g x y s Q E R rx ry q=>by refine xE rx.inv λU U=>?_;subst U;refine xE ry.inv λU U=>?_;subst U;exact wpAny_add_int (q _ _ λU=>.int _ _)
theorem bu{l r:PySem.Expr}{p:Pos}{a b:Int}(ha:Ev T c O l (.int a))(hb:Ev T c O r (.int b)):Ev T c O (.BinOp l .Sub r p) (.int (a-b)):=
 jn ha hb λw A g x y s Q E R rx ry q=>by refine xE rx.inv λU U=>?_;subst U;refine xE ry.inv λU U=>?_;subst U;exact sub_int (q _ _ λU=>.int _ _)
theorem eu{l r:PySem.Expr}{p:Pos}{a b:Int}(ha:Ev T c O l (.int a))(hb:Ev T c O r (.int b))(hm:IntMulOk a b):Ev T c O (.BinOp l .Mult r p) (.int (a*b)):=
 jn ha hb λw A g x y s Q E R rx ry q=>by refine xE rx.inv λU U=>?_;subst U;refine xE ry.inv λU U=>?_;subst U;exact mul_int (q _ _ λU=>.int _ _) hm
theorem eR{l r:PySem.Expr}{p:Pos}{a b:Str}(ha:Ev T c O l (.str a))(hb:Ev T c O r (.str b))(hz:a.length+b.length<=sizeLine):Ev T c O (.BinOp l .Add r p) (.str (a++b)):=
 jn ha hb λw A g x y s Q E R rx ry q=>by refine xE rx.inv λU U=>?_;subst U;refine xE ry.inv λU U=>?_;subst U;exact PyProof.Rows.add_str (λt tk=>q _ _ λU=>.str _ _) hz
theorem c7{l r:PySem.Expr}{p:Pos}{a b:Int}(ha:Ev T c O l (.int a))(hb:Ev T c O r (.int b))(h0:b≠0:=by decide):Ev T c O (.BinOp l .Mod r p) (.int (a.fmod b)):=
 jn ha hb λw A g x y s Q E R rx ry q=>by refine xE rx.inv λU U=>?_;subst U;refine xE ry.inv λU U=>?_;subst U;exact mod_int h0 (q _ _ λU=>.int _ _)
theorem hU{l r:PySem.Expr}{p:Pos}{a b:Int}(ha:Ev T c O l (.int a))(hb:Ev T c O r (.int b))(h0:b≠0)(hz:Builtin.divisionGoesByPylong a b=false):Ev T c O (.BinOp l .FloorDiv r p) (.int (a.fdiv b)):=
 jn ha hb λw A g x y s Q E R rx ry q=>by refine xE rx.inv λU U=>?_;subst U;refine xE ry.inv λU U=>?_;subst U;exact floordiv_int h0 (q _ _ λU=>.int _ _) (.inl hz)
theorem mJ{x:PySem.Expr}{p:Pos}{i:Int}{k:Nat}{p':Pos}(hx:x=.Constant (.int i) k p'):Ev T c O (.UnaryOp .USub x p) (.int (-i)):=by subst hx;constructor;intros;exact UnaryOp_ (wpAny_Constant_int (neg_int (q _ _ (ax.trans ax) (.int _ _))))
structure bj(n:Nat)(op:CmpOp)(a b:D)(r:Bool):Prop where
 run:∀(w:World)(A:Around)(h:Heap)(ms:List Addr)(x y:Value)(s:Shared)(Q:Ω)(E:Ω),s.heap=h->aZ n A->RV (less h ms) a x->RV (less h ms) b y->(∀tk,Q (.bool r) { s with toks:=tk })->wpAny (model P0 w) A (compareOp op x y) Q E s
theorem dM{op:CmpOp}{l r:PySem.Expr}{p:Pos}{a b:D}{v:Bool}(ha:Ev T c O l a)(hb:Ev T c O r b)(ho:bj c.n op a b v)(hm:behindInMarks op r=false):Ev T c O (.Compare l [op] [r] p) (.bool v):=by constructor;intros;refine wpAny_Compare1 (ha.run ok tp R JE λx HX Uf rx=>?_) hm;exact hb.run ok tp R (JE.grow Uf.keep) λy Ug Uh ry=>ho.run w A _ _ x y Ug Q E rfl R (rx.mono (ai Uh.keep)) ry λtk=>q _ _ ((Uf.trans Uh).trans ax) (.bool _)
theorem aE{op:CmpOp}{l r:PySem.Expr}{p:Pos}{a b:D}{v:Bool}(ha:Ev T c O l a)(hb:Ev T c O r b)(ho:bj c.n op a b v)(hm:behindInMarks op r=false:=by rfl):Tr T c O (.Compare l [op] [r] p) v:=by constructor;intros;refine T0 (ha.run ok tp R JE λx HX Uf rx=>?_) hm;exact hb.run ok tp R (JE.grow Uf.keep) λy Ug Uh ry=>ho.run w A _ _ x y Ug _ E rfl R (rx.mono (ai Uh.keep)) ry λtk=>SH (q _ ((Uf.trans Uh).trans ax))
theorem kq{n:Nat}{a b:Int}:bj n .Lt (.int a) (.int b) (decide (a<b)):=⟨λw A h ms x y s Q E U R rx ry q=>by refine xE rx.inv λU U=>?_;subst U;refine xE ry.inv λU U=>?_;subst U;exact lt_int (q _)⟩
theorem jk{n:Nat}{a b:Int}:bj n .Gt (.int a) (.int b) (decide (b<a)):=⟨λw A h ms x y s Q E U R rx ry q=>by refine xE rx.inv λU U=>?_;subst U;refine xE ry.inv λU U=>?_;subst U;exact gt_int (q _)⟩
theorem DT{n:Nat}{a b:Int}:bj n .GtE (.int a) (.int b) (decide (b<=a)):=⟨λw A h ms x y s Q E U R rx ry q=>by refine xE rx.inv λU U=>?_;subst U;refine xE ry.inv λU U=>?_;subst U;exact ge_int (q _)⟩
theorem gC{n:Nat}{a b:Int}:bj n .Eq (.int a) (.int b) (a==b):=⟨λw A h ms x y s Q E U R rx ry q=>by refine xE rx.inv λU U=>?_;subst U;refine xE ry.inv λU U=>?_;subst U;exact eq_int (q _)⟩
theorem yE{n:Nat}{a b:Int}:bj n .NotEq (.int a) (.int b) (a != b):=⟨λw A h ms x y s Q E U R rx ry q=>by refine xE rx.inv λU U=>?_;subst U;refine xE ry.inv λU U=>?_;subst U;exact ne_int (q _)⟩
theorem fu{n:Nat}{a b:Str}:bj n .Eq (.str a) (.str b) (a==b):=⟨λw A h ms x y s Q E U R rx ry q=>by refine xE rx.inv λU U=>?_;subst U;refine xE ry.inv λU U=>?_;subst U;exact eq_str (q _)⟩
theorem lL{n:Nat}{a b:Str}:bj n .NotEq (.str a) (.str b) (a != b):=⟨λw A h ms x y s Q E U R rx ry q=>by refine xE rx.inv λU U=>?_;subst U;refine xE ry.inv λU U=>?_;subst U;exact ne_str (q _)⟩
theorem vj{x:PySem.Expr}{p:Pos}{b:Bool}(h:Tr T c O x b):Tr T c O (.UnaryOp .Not x p) (!b):=
 ⟨@λw A ZV Hy ms₀ as s Q E ok tp R JE q=>isTrue_not (h.run ok tp R JE λs' a=>q _ a)⟩
structure DN(T:a6)(c:Cx)(op:BoolOp)(O:St)(es:List PySem.Expr)(b:Bool):Prop where
 run:∀{w:World}{A:Around}{ZV:Env}{Hy:Heap}{ms₀ as:List Addr}{s:Shared}{Q:Bool->Shared->Prop}{E:Ω}(p:Pos)(Kb:Sem Value),
  ∀(ok:aD c ZV)(tp:T.Tp w Hy)(R:aZ c.n A)(JE:aC w c.wr ZV c.names Hy ms₀ as O s.heap)(q:∀s',ao s s'->Q b s'),wpAny (model P0 w) A (isTrue (.BoolOp op es p) ZV Kb) Q E s
theorem eM:DN T c .And O [] true:=⟨λU U U U U U q=>isTrue_and_nil (q _ (ao.refl _))⟩
theorem j4:DN T c .Or O [] false:=⟨λU U U U U U q=>isTrue_or_nil (q _ (ao.refl _))⟩
theorem bc{x:PySem.Expr}{xs:List PySem.Expr}{a b:Bool}(h:Tr T c O x a)(h':a=true->DN T c .And O xs b):DN T c .And O (x::xs) (a&&b):=by
 constructor;intro w A ZV Hy ms₀ as s Q E p Kb ok tp R JE q;refine isTrue_and (h.run ok tp R JE λs' a'=>?_);cases a with
 |true=>exact(h' rfl).run p Kb ok tp R (JE.grow a'.keep) λKa Pq=>q _ (a'.trans Pq)
 |false=>exact q _ a'
theorem cn{x:PySem.Expr}{xs:List PySem.Expr}{a b:Bool}(h:Tr T c O x a)(h':a=false->DN T c .Or O xs b):DN T c .Or O (x::xs) (a||b):=by
 constructor;intro w A ZV Hy ms₀ as s Q E p Kb ok tp R JE q;refine isTrue_or (h.run ok tp R JE λs' a'=>?_);rcases a with _|_
 ·exact(h' rfl).run p Kb ok tp R (JE.grow a'.keep) λKa Pq=>q _ (a'.trans Pq)
 ·exact q _ a'
theorem dZ{op:BoolOp}{es:List PySem.Expr}{p:Pos}{b:Bool}(h:DN T c op O es b):Tr T c O (.BoolOp op es p) b:=
 ⟨@λw A ZV Hy ms₀ as s Q E ok tp R JE q=>h.run p _ ok tp R JE q⟩
theorem fx{t x y:PySem.Expr}{p:Pos}{b:Bool}{d d':D}(ht:Tr T c O t b)(hx:b=true->Ev T c O x d)(hy:b=false->Ev T c O y d'):Ev T c O (.IfExp t x y p) (if b then d else d'):=by
 constructor;intros;refine IfExp_ (ht.run ok tp R JE λs' a'=>?_);cases b with
 |true=>exact(hx rfl).run ok tp R (JE.grow a'.keep) λv Ka Pq rv=>q _ _ (a'.trans Pq) rv
 |false=>exact(hy rfl).run ok tp R (JE.grow a'.keep) λv Ka Pq rv=>q _ _ (a'.trans Pq) rv
theorem bX{x:Str}{p:Pos}{d:D}(hd:∀w h,T.Tp w h->∃v,T.mg w x=some v/\∀g,RV g d v)(hk:c.sc.names.lookup x=some .globalImplicit:=by kernel_rfl)(hn:(x==("__debug__" : Str))=false:=by rfl):Ev T c O (.Name x p) d:=by constructor;intros;refine b9.el JE.ex λm F U=>?_;refine ay (hd w Hy tp) λv hv rv=>?_;refine Name_function_global (by rw[ok.scope];exact ok.kind) (by rw[ok.kindOf];exact hk) ?_ hn;exact TG (env:=ZV) (by rw[ok.globals];exact(T.glob w Hy tp).keeps F.keep) hv (q _ _ (ao.refl s) (rv _))
end
inductive Fl where
 |next|brk|cont|ret (d:D)
def FC(g:eH):Fl->Flow->Prop
 |.next,.next=>True
 |.brk,.brk=>True
 |.cont,.cont=>True
 |.ret d,.ret v=>RV g d v
 |_,_=>False
theorem iB{g:eH}{f:Flow}(h:FC g .next f):f=.next:=by cases f<;>first|rfl|exact h.elim
theorem uB{g:eH}{f:Flow}(h:FC g .brk f):f=.brk:=by cases f<;>first|rfl|exact h.elim
theorem qx{g:eH}{f:Flow}(h:FC g .cont f):f=.cont:=by cases f<;>first|rfl|exact h.elim
theorem uC{g:eH}{f:Flow}{d:D}(h:FC g (.ret d) f):∃v,f=.ret v/\RV g d v:=by cases f<;>first|exact⟨_,rfl,h⟩|exact h.elim
structure bP(s s':Shared):Prop where
 gens:s'.gens=s.gens
 drawn:s'.drawn.other=s.drawn.other
 os:s'.os=s.os
theorem ao.same{s s':Shared}(a:ao s s'):bP s s':=⟨a.gens,a.drawn,a.os⟩
theorem bP.refl(s:Shared):bP s s:=⟨rfl,rfl,rfl⟩
theorem bP.trans{s s' Ka:Shared}(x:bP s s')(y:bP s' Ka):bP s Ka:=⟨y.gens.trans x.gens,y.drawn.trans x.drawn,y.os.trans x.os⟩
section
variable(T:a6)(c:Cx)
abbrev dL:=Fl->St->Prop
structure WT(O:St)(t:Env->Sem Flow)(P:dL):Prop where
 run:∀{w:World}{A:Around}{ZV:Env}{Hy:Heap}{ms₀ as:List Addr}{s:Shared}{Q:Flow->Shared->Prop}{E:Ω},
  ∀(ok:aD c ZV)(tp:T.Tp w Hy)(R:aZ c.n A)(JE:aC w c.wr ZV c.names Hy ms₀ as O s.heap)(q:∀fl f Wj as' s',P fl Wj->aC w c.wr ZV c.names Hy ms₀ as' Wj s'.heap->bP s s'->FC (less s'.heap (ms₀++as')) fl f->Q f s'),wpAny (model P0 w) A (t ZV) Q E s
abbrev W(O:St)(b:List Stmt)(P:dL):Prop:=WT T c O (λZV=>execs b ZV) P
abbrev W1(O:St)(st:Stmt)(P:dL):Prop:=WT T c O (λZV=>exec st ZV) P
noncomputable def Kn(rest:List Stmt)(P:dL):dL:=λfl Wj=>match fl with
 |.next=>W T c Wj rest P
 |fl=>P fl Wj
end
section
variable{T:a6}{c:Cx}{O:St}{P:dL}
theorem aL(h:P .next O):W T c O [] P:=⟨@λw A ZV Hy ms₀ as s Q E ok tp R JE q=>Ud (q .next .next O as s h JE (bP.refl s) trivial)⟩
theorem ac{st:Stmt}{rest:List Stmt}(h:W1 T c O st (Kn T c rest P)):W T c O (st::rest) P:=by
 constructor;intros;refine Tm (h.run ok tp R JE λfl f Wj as' s' p JY sm fr=>?_);cases fl with
 |next=>obtain rfl:=iB fr;exact p.run ok tp R JY λfl f σ'' Yb Ka p' Mf Mn Pr=>q fl f σ'' Yb Ka p' Mf (sm.trans Mn) Pr
 |brk=>obtain rfl:=uB fr;exact q .brk .brk Wj as' s' p JY sm trivial
 |cont=>obtain rfl:=qx fr;exact q .cont .cont Wj as' s' p JY sm trivial
 |ret d=>refine ay (uC fr) λv U rv=>?_;subst U;exact q (.ret d) _ Wj as' s' p JY sm rv
theorem bf{e:PySem.Expr}{p:Pos}{d:D}(h:Ev T c O e d)(hp:P (.ret d) O):W1 T c O (.Return (some e) p) P:=
 ⟨@λw A ZV Hy ms₀ as s Q E ok tp R JE q=>wpAny_Return_some (h.run ok tp R JE λv s' a rv=>q (.ret d) _ O as s' hp (JE.grow a.keep) a.same rv)⟩
theorem C6{p:Pos}(hp:P .cont O):W1 T c O (.Continue p) P:=⟨@λw A ZV Hy ms₀ as s Q E ok tp R JE q=>wpAny_Continue (q .cont _ O as s hp JE (bP.refl s) trivial)⟩
theorem bM{t:PySem.Expr}{x y:List Stmt}{p:Pos}{b:Bool}(ht:Tr T c O t b)(hx:b=true->W T c O x P)(hy:b=false->W T c O y P):W1 T c O (.If t x y p) P:=by
 constructor;intros;refine wpAny_If (ht.run ok tp R JE λs' a=>?_);cases b with
 |true=>exact(hx rfl).run ok tp R (JE.grow a.keep) λfl f Wj as' Ka p' r' sm fr=>q fl f Wj as' Ka p' r' (a.same.trans sm) fr
 |false=>exact(hy rfl).run ok tp R (JE.grow a.keep) λfl f Wj as' Ka p' r' sm fr=>q fl f Wj as' Ka p' r' (a.same.trans sm) fr
theorem ar.off{w:World}{h h':Heap}{ms ms':List Addr}{m m':Str->Option Value}(k:am (less h ms) (less h' ms')){xs:List Str}{O:St}{as:List Addr}(ka:∀a∈as,∀o,h.get? a=some o->h'.get? a=some o)(e:∀y∈xs,m' y=m y)(H:ar w h ms m xs O as):ar w h' ms' m' xs O as:=
 H.ind (P:=λxs O as=>(∀a∈as,∀o,h.get? a=some o->h'.get? a=some o)->(∀y∈xs,m' y=m y)->ar w h' ms' m' xs O as) (λxs U U=>by cases xs<;>rfl)
  (λy xs r as ih U ka e=>ih ka λy hy=>e y (.tail _ hy)) (λy xs d v r as ev rv ih U ka e=>⟨⟨v,(e y (.head _)).trans ev,rv.mono k⟩,ih ka λy hy=>e y (.tail _ hy)⟩)
  (λy xs b o r as ev mr ih U ka e=>⟨⟨rfl,(e y (.head _)).trans ev⟩,mr.keep k (ka b (.head _)),ih (λa' h'=>ka a' (.tail _ h')) λy hy=>e y (.tail _ hy)⟩) ka e
noncomputable def Slot.ZW:Slot->Bool|.mu _ _=>true|_=>false
theorem ar.put{w:World}{h h':Heap}{ms:List Addr}{m:Str->Option Value}{x:Str}{v:Value}{d:D}(k:am (less h ms) (less h' ms))(rv:RV (less h' ms) d v){xs:List Str}{O:St}{as:List Addr}{i:Nat}{o:Slot}(ka:∀a∈as,∀o,h.get? a=some o->h'.get? a=some o)(nd:xs.Nodup)(e1:xs[i]? = some x)(e2:O[i]? = some o)(hm:o.ZW=false)(H:ar w h ms m xs O as):ar w h' ms (λy=>if y=x then some v else m y) xs (O.set i (.val d)) as:=by
 have ne:∀{y:Str}{xs:List Str}{i:Nat},(y::xs).Nodup->xs[i]? = some x->y≠x:=λnd e q=>(QY.mp nd).1 (q▸Rj e);have off:∀{y:Str}{xs:List Str}{r:St}{as:List Addr},(∀a∈as,∀o,h.get? a=some o->h'.get? a=some o)->(y::xs).Nodup->some y=some x->ar w h ms m xs r as->ar w h' ms (λz=>if z=x then some v else m z) xs r as:=λka nd e H=>by obtain rfl:=QG e;exact ar.off k ka (λz hz=>Q5 (by rintro rfl;exact(QY.mp nd).1 hz)) H
 exact H.ind (P:=λxs O as=>∀i,(∀a∈as,∀o,h.get? a=some o->h'.get? a=some o)->xs.Nodup->xs[i]? = some x->O[i]? = some o->ar w h' ms (λy=>if y=x then some v else m y) xs (O.set i (.val d)) as) (λU U U U U e=>by contradiction)
  (λy xs r as ih H i ka nd e1 e2=>by
   rcases i with _|i
   ·exact⟨⟨v,Rb (QG e1),rv⟩,off ka nd e1 H⟩
   ·exact ih i ka (QY.mp nd).2 e1 e2)
  (λy xs d' u r as hu ru ih H i ka nd e1 e2=>by
   rcases i with _|i
   ·exact⟨⟨v,Rb (QG e1),rv⟩,off ka nd e1 H⟩
   ·exact⟨⟨u,(Q5 (ne nd e1)).trans hu,ru.mono k⟩,ih i ka (QY.mp nd).2 e1 e2⟩)
  (λy xs b o' r as hu mr ih H i ka nd e1 e2=>by
   rcases i with _|i
   ·obtain rfl:=QG e2;contradiction
   ·exact⟨⟨rfl,(Q5 (ne nd e1)).trans hu⟩,mr.keep k (ka b (.head _)),ih i (λa ha=>ka a (.tail _ ha)) (QY.mp nd).2 e1 e2⟩) i ka nd e1 e2
def bI(o:Obj):Bool:=match o.data with|.seq ..=>true|.fields ..=>true|.plain=>true|.dict ..=>GF o|_=>false
theorem dS{o:Obj}(q:fZ o=true):bI o=true:=by obtain⟨_,_,d,_⟩:=o;cases d<;>first|rfl|exact q|exact fF q
theorem eL{h:Heap}{L:Addr}{ml:Str->Option Value}{o:Obj}(hn:h.Ns L ml)(h0:ml "_headers" = none)(e:h.get? L=some o):bI o=false:=by
 refine lX hn λo' es ep ho hd U hf=>?_;rw[e]at ho;obtain rfl:=QG ho;have h1:=(hf "_headers").trans h0;unfold nsFind findBy at h1;rw[<-Array.find?_toList]at h1;have k:lookIn "_headers" o=none\/lookIn "_headers" o=some none:=by unfold lookIn;rw[hd];dsimp only;rw[show es.toList.find? (·.key.isStr "_headers")=none from Option.map_eq_none_iff.mp h1];exact(Decidable.em _).imp (λh=>Rb h) λh=>Q5 h
 unfold bI;rw[hd];unfold GF;rcases k with k|k<;>rw[k]
def aN(h h':Heap):Prop:=∀a o,bI o=true->h.get? a=some o->h'.get? a=some o
theorem aN.refl(h:Heap):aN h h:=λU U U e=>e
theorem aN.trans{h h' PS:Heap}(x:aN h h')(y:aN h' PS):aN h PS:=λa o q e=>y a o q (x a o q e)
theorem aN.of{h h':Heap}(k:∀b o,h.get? b=some o->h'.get? b=some o):aN h h':=λa o U e=>k a o e
theorem qS{h h':Heap}{L:Addr}{ml:Str->Option Value}(hn:h.Ns L ml)(h0:ml "_headers" = none)(hs:Heap.SameBut L h h'):aN h h':=by intro a o' q e;refine(hs.2 a λz=>?_).trans e;subst z;rw[eL hn h0 e]at q;exact fF q
theorem aN.less{h h':Heap}{ms:List Addr}(k:aN h h'):am (less h ms) (less h' ms):=λa o q e=>by rw[ab]at e ⊢;exact⟨e.1,k _ _ (dS q) e.2⟩
theorem aN.list{h h':Heap}(k:aN h h'){a:Addr}{vs:List Value}{n:Nat}(e:h.get? a=some (aQ "list" vs n)):h'.get? a=some (aQ "list" vs n):=k _ _ (by rfl) e
noncomputable def b8(c:Cx)(x:Str):Bool:=!(x==("_headers" : Str))&&(match c.sc.names.lookup x with|some .local=>true|some .cell=>decide (x∈c.wr)|_=>false)
theorem gT{c:Cx}{x:Str}(h:b8 c x=true):x≠"_headers"/\(match c.sc.names.lookup x with|some .local=>true|some .cell=>decide (x∈c.wr)|_=>false)=true:=by refine xA (QI.mp h) λh1 h2=>?_;refine⟨λe=>?_,h2⟩;subst e;exact absurd h1 dk
theorem jC{h h':Heap}{L:Addr}{v:Option Value}(hn:h.IsCell L v)(hs:Heap.SameBut L h h'):aN h h':=by intro a o' q e;refine(hs.2 a λq=>?_).trans e;subst q;refine ay hn λo ho hd=>?_;rw[e]at ho;obtain rfl:=QG ho;unfold bI at q;rw[hd]at q;contradiction
theorem bU{w:World}{A:Around}{ZV:Env}{Hy:Heap}{ms₀ as:List Addr}{s:Shared}{Q:Unit->Shared->Prop}{E:Ω}{i:Nat}{x:Str}{o:Slot}{v:Value}{d:D}(ok:aD c ZV)(JE:aC w c.wr ZV c.names Hy ms₀ as O s.heap)(hx:c.names[i]? = some x)(ho:O[i]? = some o)(hm:o.ZW=false)(hk:b8 c x=true)(rv:RV (less s.heap (ms₀++as)) d v)(q:∀s',aC w c.wr ZV c.names Hy ms₀ as (O.set i (.val d)) s'.heap->bP s s'->aN s.heap s'.heap->Q () s'):wpAny (model P0 w) A (storeName ZV x v) Q E s:=by
 refine b9.el JE.ex λm F S=>?_;refine eG F.ns λml ME hl h0=>?_;have kx:=ok.kindOf x;have kf:ZV.scope.kind=.function:=by rw[ok.scope];exact ok.kind
 refine xA (gT hk) λXr hk=>?_;rcases e:c.sc.names.lookup x with _|k
 ·rw[e]at hk;contradiction
 ·rw[e]at hk kx
  cases k with
  |«local»=>
   refine wpAny_storeName_local kx ME (λh' L7 hs=>?_) (by rw[kf];rfl);have k:=qS ME h0 hs;refine q _ ⟨⟨λy=>if y=x then some v else m y,?_,?_⟩,JE.nd,JE.new,JE.old,JE.loc⟩ ⟨rfl,rfl,rfl⟩ k
   ·refine⟨⟨_,L7,λy hy=>?_,(Q5 (Ne.symm Xr)).trans h0⟩,λy cl hy hc=>?_,F.has,F.apart,F.off,λb o' e=>(hs.2 b λq=>?_).trans (F.keep b o' e),F.above,F.Z1⟩
    ·by_cases q:y=x
     ·simp[q]
     ·simp only[q,TV];exact hl y hy
    ·have PB:y≠x:=by rintro rfl;rw[kx]at hy;rcases hy with hy|hy<;>contradiction
     simp only[PB,TV];exact(F.cell y cl hy hc).sameBut hs (F.off _ (mem_of_lookup hc))
    ·subst q;rw[F.above]at e;exact nS e
   ·have k':=k.less (ms:=ms₀++as)
    exact S.put k' (rv.mono k') (λa ha o e=>(hs.2 a (JE.loc a ha).1).trans e) ok.nodup hx ho hm
  |cell=>
   refine xE (F.has x (.inl kx)) λcl J8=>?_;have WN:=F.cell x cl (.inl kx) J8;refine wpAny_storeName_cell kf kx J8 WN (λh' O5 hs=>?_);have k:=jC WN hs;refine q _ ⟨⟨λy=>if y=x then some v else m y,?_,?_⟩,JE.nd,JE.new,JE.old,JE.loc⟩ ⟨rfl,rfl,rfl⟩ k
   ·refine⟨⟨ml,ME.at' λo e=>(hs.2 _ λq=>F.off _ (mem_of_lookup J8) q.symm).trans e,λy hy=>?_,h0⟩,λy c' hy hc=>?_,F.has,F.apart,F.off,λb o' e=>(hs.2 b λq=>?_).trans (F.keep b o' e),F.above,F.Z1⟩
    ·have PB:y≠x:=by rintro rfl;rw[kx]at hy;contradiction
     simp only[PB,TV];exact hl y hy
    ·by_cases q:y=x
     ·subst q;rw[J8]at hc;obtain rfl:=QG hc;simpa using O5
     ·simp only[q,TV]
      exact(F.cell y c' hy hc).sameBut hs λe=>q (name_of_addr F.apart (mem_of_lookup hc) (e▸mem_of_lookup J8))
    ·subst q;rw[F.Z1 x (QS hk) _ J8]at e;exact nS e
   ·have k':=k.less (ms:=ms₀++as)
    exact S.put k' (rv.mono k') (λa ha o e=>(hs.2 a ((JE.loc a ha).2 _ _ kx J8).symm).trans e) ok.nodup hx ho hm
  |_=>contradiction
theorem ak(i:Nat){x:Str}{o:Slot}{e:PySem.Expr}{p p':Pos}{d:D}(h:Ev T c O e d)(ho:O[i]? = some o)(hm:o.ZW=false)(hp:P .next (O.set i (.val d)))(hx:c.names[i]? = some x:=by rfl)(hk:b8 c x=true:=by kernel_rfl)(hs:∀ZV,swapsWith e (some (.Name x p')) p.line ZV=pure false:=by intros;rfl):W1 T c O (.Assign [.Name x p'] e p) P:=by constructor;intros;exact wpAny_Assign_Name (h.run ok tp R JE λv s' a rv=>(bU ok (JE.grow a.keep) hx ho hm hk rv λKa M0 sm U=>q .next .next _ as Ka hp M0 (a.same.trans sm) trivial)) (hs ZV)
theorem vp(i:Nat){x:Str}{e:PySem.Expr}{p p':Pos}{a b:Int}(h:Ev T c O e (.int b))(hx:c.names[i]? = some x)(ho:O[i]? = some (.val (.int a)))(hk:b8 c x=true)(hc:(x==("__classdict__" : Str))=false)(hp:P .next (O.set i (.val (.int (a+b))))):W1 T c O (.AugAssign (.Name x p') .Add e p) P:=by
 constructor;intros;have hv:mW (c.sc.names.lookup x)=true:=by
  refine xA (gT hk) λXr hk=>?_;rcases e:c.sc.names.lookup x with _|k
  ·rw[e]at hk;contradiction
  ·rw[e]at hk;cases k<;>first|rfl|contradiction
 refine wpAny_AugAssign_Name (kG i hx ho hv hc ok JE λv rv=>?_);refine h.run ok tp R JE λy HX Uf ry=>?_;refine xE rv.inv λU U=>?_;subst U;refine xE ry.inv λU U=>?_;subst U;exact wpAny_iadd_int (bU ok (JE.grow (Uf.trans ax).keep) hx ho rfl hk (.int _ _) λKa M0 sm U=>q .next .next _ as Ka hp M0 ((Uf.trans ax).same.trans sm) trivial)
end
variable{T:a6}{c:Cx}{O Wj:St}{P:dL}{name nm x:Str}{w:World}{h h' Hy Ul:Heap}{MS OL fp ms ms' ms₀ new old pv:List Addr}{m:Str->Option Value}{as' bs ddv ds ds1 ds2 fs items kds pile:List D}{dv vs ws:List Value}{C F I S a f fa ft it:Addr}{J K N ch ep i j k k' k2 m1 m2 many n n' np JJ u y z:Nat}{R fr kn ks ns own ps rest ss wr wr' xs ys:List Str}{sc scope:Scope}{body:List Stmt}{d d' d1 KB r sf:D}{e e1 ea eb J4 i1 i2 iter l o slice JU:PySem.Expr}{JZ elts es KD J5 J3 ts values:List PySem.Expr}{J7 p p' p1 p2 p3 p4 pos pp pz0 tp Kv tp2:Pos}{s s' HX Ug Ui:Shared}{A:Around}{g g':eH}{E Q Y:Ω}{fv v:Value}{B cl fi l' ls q t:List Nat}{JH:Env}{ob Mg:Mu}{ex exact led:Bool}{ε:Int}{oa:Slot}{σ0:St}
section
variable(T:a6)
def Fn(n:Nat)(x:Str)(ds:List D)(r:D):Prop:=
 ∀(w:World)(Hy:Heap),T.Tp w Hy->∃f o fd,T.mg w x=some (.ref f)/\Hy.get? f=some o/\o.data=.func fd/\
  ∀(A:Around)(s:Shared)(ms:List Addr)(vals:List Value)(Q:Ω)(E:Ω),
   (∀b o,Hy.get? b=some o->s.heap.get? b=some o)->aZ n A->(∀a∈ms,∃o,s.heap.get? a=some o)->aX (less s.heap ms) ds vals->
   (∀v s',ao s s'->RV (less s'.heap ms) r v->Q v s')->wpAny (model P0 w) A (call (.ref f) vals) Q E s
noncomputable def cf(x:Str)(ps:List Str)(sc:Scope)(body:List Stmt):Prop:=
 ∀(w:World)(h:Heap),T.Tp w h->∃f o fd,T.mg w x=some (.ref f)/\h.get? f=some o/\o.data=.func fd/\h.CodeRec fd.code fd.qualname/\fd.body=.stmts body/\fd.scope=sc/\fd.closure=[]/\
  fd.globals=mainGlobals/\fd.builtins=builtinsNs/\∀vals:List Value,vals.length=ps.length->bindArgs fd ⟨vals,[]⟩=pure (ps.zip vals)
end
noncomputable def i6:List (Str×Value)->(Str->Option Value)->Str->Option Value
 |[],m=>m
 |(n,v)::r,m=>i6 r (λy=>if y=n then some v else m y)
theorem rK{k:Str->Option NameKind}(hx:k x=some .local):∀(bs:List (Str×Value))(m m':Str->Option Value),m x=m' x->bindL k bs m x=i6 bs m' x:=by
 intro X_;induction X_ with
 |nil=>intro _ _ e;exact e
 |cons q_ r IH=>
  intro m m' e;obtain⟨n,v⟩:=q_;refine IH _ _ ?_;by_cases q:x=n
  ·subst q;simp[hx]
  ·by_cases q':k n=some .local<;>simp[q',q,e]
theorem rJ{k:Str->Option NameKind}(hx:k x≠some .local):∀(bs:List (Str×Value))(m m':Str->Option Value),m x=m' x->bindC k bs m x=i6 bs m' x:=by
 intro X_;induction X_ with
 |nil=>intro _ _ e;exact e
 |cons q_ r IH=>
  intro m m' e;obtain⟨n,v⟩:=q_;refine IH _ _ ?_;by_cases q:x=n
  ·subst q;simp[hx]
  ·by_cases q':k n=some .local<;>simp[q',q,e]
theorem oL{k:Str->Option NameKind}:∀(bs:List (Str×Value))(m:Str->Option Value)(x:Str),(∀p∈bs,p.1≠x)->m x=none->bindL k bs m x=none:=by
 intro X_;induction X_ with
 |nil=>intro _ _ _ e;exact e
 |cons q_ r IH=>intro m x h e;obtain⟨n,v⟩:=q_;refine IH _ x (λp hp=>h p (.tail _ hp)) ?_;have hn:x≠n:=λq=>h (n,v) (.head _) q.symm;by_cases q':k n=some .local<;>simp[q',hn,e]
theorem wQ:∀(bs:List (Str×Value))(m:Str->Option Value)(x:Str),(∀p∈bs,p.1≠x)->i6 bs m x=m x:=by
 intro X_;induction X_ with
 |nil=>intro _ _ _;exact rfl
 |cons q_ r IH=>intro m x h;obtain⟨n,v⟩:=q_;show i6 r _ x=_;rw[IH _ x λp hp=>h p (.tail _ hp)];exact Q5 λq=>h (n,v) (.head _) q.symm
theorem rL:∀(xs:List Str)(vs:List Value)(m:Str->Option Value),xs.Nodup->∀p∈xs.zip vs,i6 (xs.zip vs) m p.1=some p.2:=by
 intro xs;induction xs with
 |nil=>intro _ _ _ _ hp;contradiction
 |cons x xs ih=>
  intro vs m nd p hp;rcases vs with _|⟨v,vs⟩
  ·contradiction
  have Ke:=QY.mp nd;show i6 (xs.zip vs) _ p.1=_;rw[TT]at hp;cases hp with
  |head=>
   rw[wQ]
   ·exact Rb rfl
   ·intro p hp e
    exact Ke.1 (by have q:=(Ta hp).1;rw[e]at q;exact q)
  |tail _ hp=>exact ih vs _ Ke.2 p hp
theorem tG:∀(ys:List Str),ar w h ms m ys (List.replicate ys.length .no) []:=by
 intro X_;induction X_ with
 |nil=>exact rfl
 |cons _ ys IH=>exact IH
theorem vc(xs ys:List Str)(r:aX (less h ms) ds vs)(hl:xs.length=vs.length)(hm:∀p∈xs.zip vs,m p.1=some p.2):ar w h ms m (xs++ys) (ds.map .val++List.replicate ys.length .no) []:=by
 induction xs generalizing ds vs with
 |nil=>
  cases r with
  |nil=>exact tG ys
  |cons=>contradiction
 |cons x xs ih=>
  cases r with
  |nil=>contradiction
  |cons a r=>exact⟨⟨_,hm (x,_) (.head _),a⟩,ih r (Nat.succ.inj hl) λp hp=>hm p (.tail _ hp)⟩
theorem aK(q:h.objs.size<=a):h.get? a=none:=by
 rcases e:h.get? a with _|o
 ·rfl
 ·exact absurd (Rx e) (Sg.mpr q)
theorem om:∀(names:List (Str×NameKind))(N:Nat)(acc:List (Str×Addr))(y:Str),(acc.lookup y).isSome=true->((cellsFrom N names acc).lookup y).isSome=true:=by
 intro X_;induction X_ with
 |nil=>intro _ _ _ h;exact h
 |cons q_ r IH=>
  intro N acc y h;obtain⟨n,k⟩:=q_;unfold cellsFrom;split
  ·refine IH _ _ y ?_
   rw[Sx];split<;>first|rfl|exact h
  ·exact IH _ _ y h
theorem cK:∀(names:List (Str×NameKind))(N:Nat)(acc:List (Str×Addr))(y:Str),names.lookup y=some .cell->((cellsFrom N names acc).lookup y).isSome=true:=by
 intro X_;induction X_ with
 |nil=>intro _ _ _ h;contradiction
 |cons q_ r IH=>
  intro N acc y h;obtain⟨n,k⟩:=q_;unfold cellsFrom;rw[Sx]at h;split at h
  ·obtain rfl:=QG h
   rename_i e;rw[Rb (by rfl)];refine om r _ _ y ?_;rw[Sx,e];rfl
  ·split
   ·exact IH _ _ y h
   ·exact IH _ _ y h
noncomputable def Ji(sc:Scope)(ps rest wr:List Str):Bool:=decide (((ps++rest).Nodup)/\(sc.kind=.function)/\(sc.isCoroutine=false)/\(sc.isGenerator=false)/\(∀y∈ps,sc.names.lookup y=some .local\/sc.names.lookup y=some .cell)/\(∀p∈sc.names,p.2≠.free)/\(∀y∈wr,sc.names.lookup y=some .cell)/\(∀y∈ps,y≠("_headers" : Str)))
theorem eU(hf:cf T x ps sc body)(JF:ds.length=ps.length)(hW:W T ⟨n,sc,ps++rest,wr⟩ (ds.map .val++List.replicate rest.length .no) body (λfl U=>fl=.ret r\/(fl=.next/\r=.none)))(ok:Ji sc ps rest wr=true:=by kernel_rfl):Fn T (n+1) x ds r:=by
 have H:=QS ok;have nd:=H.1;have hk:=H.2.1;have Wp:=H.2.2.1;have MC:=H.2.2.2.1;have hp:=H.2.2.2.2.1;have Wq:=H.2.2.2.2.2.1;have KE:=H.2.2.2.2.2.2.1;have hh:=H.2.2.2.2.2.2.2;intro w Hy tp;obtain⟨f,o,fd,e1,e2,e3,e4,e5,e6,e7,e8,e9,e10⟩:=hf w Hy tp;refine⟨f,o,fd,e1,e2,e3,λA s ms vals Q E keep R old JL q=>?_⟩;have hl:vals.length=ps.length:=JL.length.trans JF;have Yv:ps.Nodup:=(TC.mp nd).1;refine wpAny_call ?_;refine codeAny_call_cells (o:=o) (fd:=fd) (body:=body) (binds:=ps.zip vals) (by have:=R.depth;exact Td this) (keep _ _ e2) e3 ((T.nolimit w Hy tp).keeps keep) (e4.keeps keep) e5 (e10 _ hl) e7 ?_ (λHX I=>?_) (by rw[e6];exact Wp) (by rw[e6];exact MC) (by rw[e6];exact hk)
 ·intro p PT
  rw[e6];rcases hp p.1 (Ta PT).1 with q|q
  ·exact .inl q
  ·exact .inr ⟨q,cK _ _ _ _ q⟩
 ·have WO:aD ⟨n,sc,ps++rest,wr⟩ (callEnvC fd s.heap.objs.size f):=⟨e6,e8,e9,hk,nd,KE⟩
  have kd:∀y,(callEnvC fd s.heap.objs.size f).kindOf y=sc.names.lookup y:=WO.kindOf;have F:oJ wr (callEnvC fd s.heap.objs.size f) s.heap HX.heap (i6 (ps.zip vals) λU=>none):=by
   refine⟨⟨_,I.toInCall.ns,λy hy=>rK hy _ _ _ rfl,oL _ _ _ (λp hp=>hh _ (Ta hp).1) rfl⟩,λy cl hy hc=>?_,λy hy=>?_,I.apart,λp hp=>TJ (I.above p.1 p.2 hp),I.toInCall.keep,aK (QO _),λy U cl hc=>aK (RE (I.above y cl (mem_of_lookup hc)))⟩
   ·have:=I.cell y cl hc
    rw[rJ (m':=λU=>none) _ _ _ rfl]at this
    ·exact this
    ·rcases hy with hy|hy<;>rw[hy]<;>decide
   ·rw[kd]at hy
    rcases hy with hy|hy
    ·refine RU.mp ?_
     show((cellsFrom _ fd.scope.names []).lookup y).isSome=true;rw[e6];exact cK _ _ _ _ hy
    ·exact absurd rfl (Wq _ (mem_of_lookup hy))
  have JE:aC w wr (callEnvC fd s.heap.objs.size f) (ps++rest) s.heap ms [] (ds.map .val++List.replicate rest.length .no) HX.heap:=by refine⟨⟨_,F,?_⟩,Rs,nofun,old,nofun⟩;rw[QN];exact vc ps rest (JL.mono (ai I.toInCall.keep)) hl.symm (rL ps vals _ Yv)
  refine dE I.done λh' tk hs O6=>?_;refine hW.run (Hy:=s.heap) (ms₀:=ms) (as:=[]) WO (T.keeps _ _ _ tp keep) R.deeper JE λfl fv Wj as' s' p JY sm fr=>?_;refine b9.el JY.ex λm' F' S'=>?_;have Yw:bP s HX:=by rw[hs];exact⟨rfl,rfl,rfl⟩
  have af:ao s s':=⟨F'.keep,sm.gens.trans Yw.gens,sm.drawn.trans Yw.drawn,sm.os.trans Yw.os⟩;have sk:am (less s'.heap (ms++as')) (less s'.heap ms):=λa o U e=>by rw[ab]at e ⊢;exact⟨λq=>e.1 (QM _ q),e.2⟩
  rcases p with p|⟨p,pn⟩
  ·subst p
   cases fv<;>first|exact fr.elim|exact q _ _ af (RV.mono sk fr)
  ·subst p;subst pn
   cases fv<;>first|exact fr.elim|exact q _ _ af .none
theorem ad:rn T c O [] []:=⟨@λw A ZV Hy ms₀ as s Q E ok tp R JE q pos=>args_nil (q _ _ (ao.refl s) .nil)⟩
theorem bC(h:Ev T c O e d)(h':rn T c O es ds)(he:Ω2 e es):rn T c O (e::es) (d::ds):=by constructor;intros;exact args_cons (h.run ok tp R JE λv HX Uf rv=>(h'.run ok tp R (JE.grow Uf.keep) (λvs Ug Uh JL=>q _ _ (Uf.trans Uh) (.cons (rv.mono (ai Uh.keep)) JL)) pos)) (he ZV)
theorem ar.there{as:List Addr}(H:ar w h ms m xs O as):∀a∈as,∃ob,h.get? a=some ob/\((∃v n,ob.data=.seq v n)\/∃v n,ob.data=.dict v n):=
 H.ind (P:=λU U as=>∀a∈as,∃ob,h.get? a=some ob/\((∃v n,ob.data=.seq v n)\/∃v n,ob.data=.dict v n)) (λU U ha=>absurd ha Q3) (λU U U U ih U=>ih) (λU U U U U U U U ih U=>ih)
  λU U U U U U U mr ih U a ha=>by
   rcases Qw.mp ha with rfl|ha
   ·exact mr.there
   ·exact ih a ha
theorem aC.have{ZV:Env}{names:List Str}{ms₀ as:List Addr}(JE:aC w wr ZV names Hy ms₀ as O h):∀a∈ms₀++as,∃o,h.get? a=some o:=by
 refine b9.el JE.ex λm F S=>?_;intro a ha;rcases Qz.mp ha with ha|ha
 ·exact xE (JE.old a ha) λo e=>⟨o,F.keep _ _ e⟩
 ·refine ay (S.there a ha) λo e U=>?_;exact⟨o,e⟩
theorem bk{f:Str}(hf:Fn T n f ds r)(RB:rn T c O (e::es) ds)(hn:n<=c.n:=by decide)(hk:c.sc.names.lookup f=some .globalImplicit:=by kernel_rfl)(hd:(f==("__debug__" : Str))=false:=by rfl)(he:∀ZV,eval (.Call (.Name f p') (e::es) [] p) ZV=(do callWith p (<-eval (.Name f p') ZV) [] (backTo p (starEach (e::es) ZV)) (backToKw p (keywordEach [] ZV))):=by intros;rfl)(JW:∀ZV,starEach (e::es) ZV=(false,eval e ZV)::starEach es ZV:=by intros;rfl):Ev T c O (.Call (.Name f p') (e::es) [] p) r:=by
 constructor;intros;refine lX (hf w Hy tp) λfa o fd e1 e2 e3 Ld=>?_;refine b9.el JE.ex λm F S=>?_;refine Call_ (Name_function_global (by rw[ok.scope];exact ok.kind) (by rw[ok.kindOf];exact hk) ?_ hd) (he ZV);refine TG (env:=ZV) (by rw[ok.globals];exact(T.glob w Hy tp).keeps F.keep) e1 ?_;refine callWith_def (o:=o) (fd:=fd) e3 ?_ (JW ZV);refine RB.run ok tp R JE (λvs HX Uf JL=>?_) p;have Uk:=JE.grow Uf.keep;refine⟨Uf.keep _ _ (F.keep _ _ e2),Ld A HX (ms₀++as) vs Q E (λb o e=>Uf.keep _ _ (F.keep _ _ e)) (R.less hn) Uk.have JL λv s' a' rv=>q _ _ (Uf.trans a') rv⟩
def lQ(o:Obj):Bool:=match o.data with|.fields _=>!BO o|_=>false
structure Bk(wr:List Addr)(s s':Shared):Prop where
 keep:∀b o,b∉wr->s.heap.get? b=some o->s'.heap.get? b=some o
 same:bP s s'
theorem mR{o:Obj}(q:fZ o=true):lQ o=false:=by obtain⟨_,_,d,_⟩:=o;cases d<;>first|rfl|exact fF q|exact QV not q
theorem xl{o:Obj}(q:lQ o=true):bI o=true:=by obtain⟨_,_,d,_⟩:=o;cases d<;>first|rfl|exact fF q
def jA(h h':Heap):Prop:=∀b o,lQ o=false->h.get? b=some o->h'.get? b=some o
theorem Bk.recOnly{wr:List Addr}(m:Bk wr s s')(q:∀b∈wr,∀o,s.heap.get? b=some o->lQ o=true):jA s.heap s'.heap:=λb o f e=>
 m.keep b o (λhb=>by rw[q b hb o e]at f;exact fT f) e
theorem jA.less(k:jA h h'):am (less h ms) (less h' ms):=λa o q e=>by rw[ab]at e ⊢;exact⟨e.1,k _ _ (mR q) e.2⟩
theorem El{o:Obj}(h:(∃v n,o.data=.seq v n)\/∃v n,o.data=.dict v n):lQ o=false:=by unfold lQ;rcases h with⟨v,n,h⟩|⟨v,n,h⟩<;>rw[h]
theorem aC.moved{ZV:Env}{names:List Str}{ms₀ as:List Addr}(R:aC w wr ZV names Hy ms₀ as O h)(k:jA h h')(U9:∀b o,Hy.get? b=some o->h'.get? b=some o):aC w wr ZV names Hy ms₀ as O h':=by
 refine b9.el R.ex λm F S=>?_;refine ay F.ns λml hn hl=>?_;refine⟨⟨m,⟨⟨ml,?_,hl⟩,λx c hk hc=>?_,F.has,F.apart,F.off,U9,F.above,F.Z1⟩,ar.off k.less (λa ha o e=>?_) (Z 5) S⟩,R.nd,R.new,R.old,R.loc⟩
 ·refine jy hn λo es ep ho hd r=>?_
  exact⟨o,es,ep,k _ _ (by unfold lQ;rw[hd]) ho,hd,r⟩
 ·refine ay (F.cell x c hk hc) λo ho hd=>?_
  exact⟨o,k _ _ (by unfold lQ;rw[hd]) ho,hd⟩
 ·refine ay (S.there a ha) λo' e' hd=>?_
  rw[e]at e';obtain rfl:=QG e';exact k _ _ (El hd) e
structure Wk(w:World)(A:Around)(JU:PySem.Expr)(I:Addr)(fp wr:List Addr)(g:eH)(ds:List D)(St:Nat->Heap->Prop):Prop where
 sub:∀b∈wr,b∈fp
 frame:∀i h h',St i h->(∀b∈fp,∀o,h.get? b=some o->h'.get? b=some o)->St i h'
 Z2:∀i h,St i h->∀b∈wr,∀o,h.get? b=some o->lQ o=true
 plain:∀i h,St i h->∀b∈fp,∃o,h.get? b=some o/\bI o=true
 item:∀i d(s:Shared)(Q:Ω)(E:Ω),ds[i]? = some d->St i s.heap->
  (∀v s',(∀ms,am g (less s'.heap ms)->(∀a∈ms,∃o,s.heap.get? a=some o)->RV (less s'.heap ms) d v)->St (i+1) s'.heap->Bk wr s s'->Q v s')->
  wpAny (model P0 w) A (pyNext (.ref I)) (λr HX=>match r with|none=>False|some v=>wpAny (model P0 w) A (letOwnedTupleGo JU (.ref I) v) (λU Ug=>Q v Ug) E HX) E s
 done:∀(s:Shared)(Q:Option Value->Shared->Prop)(E:Ω),St ds.length s.heap->(∀s',Bk wr s s'->Q none s')->wpAny (model P0 w) A (pyNext (.ref I)) Q E s
 self:∀i(s:Shared)(Q:Ω)(E:Ω),St i s.heap->Q (.ref I) s->wpAny (model P0 w) A (pyIter (.ref I)) Q E s
theorem Wk.turn{fp wr:List Addr}{St:Nat->Heap->Prop}(wk:Wk w A JU I fp wr g ds St){X:Shared->Prop}(hd:ds[i]? = some d)(st:St i s.heap)(h:∀v s',(∀ms,am g (less s'.heap ms)->(∀a∈ms,∃o,s.heap.get? a=some o)->RV (less s'.heap ms) d v)->St (i+1) s'.heap->Bk wr s s'->Y v s'):
  wpAny (model P0 w) A (pyNext (.ref I)) (λr HX=>match r with|none=>X HX|some v=>wpAny (model P0 w) A (letOwnedTupleGo JU (.ref I) v) (λU Ug=>Y v Ug) E HX) E s:=by
 refine Rt (wk.item i d s Y E hd st h) (λo Ug h=>?_) (λU U x=>x);rcases o with _|v
 ·exact h.elim
 ·exact h
section
variable(T:a6)(c:Cx)
structure It(O:St)(JU e:PySem.Expr)(ds:List D):Prop where
 run:∀{w:World}{A:Around}{ZV:Env}{Hy:Heap}{ms₀ as:List Addr}{s:Shared}{Q:Ω}{E:Ω},
  ∀(ok:aD c ZV)(tp:T.Tp w Hy)(R:aZ c.n A)(JE:aC w c.wr ZV c.names Hy ms₀ as O s.heap)(q:∀I fp wr St s',ao s s'->(∀b∈wr,s.heap.get? b=none)->(∀b∈fp,b∉ms₀++as)->(∀A',aZ 0 A'->Wk w A' JU I fp wr (less s'.heap (ms₀++as)) ds St)->St 0 s'.heap->Q (.ref I) s'),wpAny (model P0 w) A (eval e ZV) (λx HX=>wpAny (model P0 w) A (pyIter x) Q E HX) E s
structure Tg(O:St)(JU:PySem.Expr)(d:D)(Wj:St):Prop where
 run:∀{w:World}{A:Around}{ZV:Env}{Hy:Heap}{ms₀ as:List Addr}{s:Shared}{v:Value}{Q:Unit->Shared->Prop}{E:Ω},
  aD c ZV->aZ c.n A->aC w c.wr ZV c.names Hy ms₀ as O s.heap->RV (less s.heap (ms₀++as)) d v->
  (∀s',aC w c.wr ZV c.names Hy ms₀ as Wj s'.heap->bP s s'->aN s.heap s'.heap->Q () s')->wpAny (model P0 w) A (assign JU ZV v) Q E s
def jf(JU:PySem.Expr)(body:List Stmt)(P:dL):List D->St->Prop
 |[],O=>P .next O
 |d::ds,O=>∃UB,Tg c O JU d UB/\W T c UB body (λfl Wj=>match fl with
  |.next=>jf JU body P ds Wj
  |.cont=>jf JU body P ds Wj
  |.brk=>P .next Wj
  |.ret r=>P (.ret r) Wj)
end
theorem ae(i:Nat){o:Slot}(hx:c.names[i]? = some x)(ho:O[i]? = some o)(hm:o.ZW=false)(hk:b8 c x=true:=by kernel_rfl):Tg c O (.Name x p) d (O.set i (.val d)):=
 ⟨@λw A ZV Hy ms₀ as s v Q E ok R JE rv q=>T6 (bU ok JE hx ho hm hk rv λs' r' sm k=>q s' r' sm k)⟩
noncomputable def under(wr:List Str)(ZV:Env)(as:List Addr)(h:Heap):Heap:=hideAll h (ZV.locals::((wr.filterMap λx=>ZV.cells.lookup x)++as))
theorem aC.under{ZV:Env}{names:List Str}{ms₀ as:List Addr}(R:aC w wr ZV names Hy ms₀ as O h):aC w wr ZV names (under wr ZV as h) ms₀ as O h/\(∀b o,Hy.get? b=some o->(Lake.W.under wr ZV as h).get? b=some o):=by
 refine b9.el R.ex λm F S=>?_;have hid:∀b o,Hy.get? b=some o->b∉ZV.locals::((wr.filterMap λx=>ZV.cells.lookup x)++as):=by
  intro b o e q;rcases Qw.mp q with q|q
  ·subst q;rw[F.above]at e;exact nS e
  ·rcases Qz.mp q with q|q
   ·refine ay (Rn.mp q) λx hx hc=>?_
    rw[F.Z1 x hx _ hc]at e;exact nS e
   ·rw[R.new b q]at e;exact nS e
 have up:∀b o,Hy.get? b=some o->(Lake.W.under wr ZV as h).get? b=some o:=λb o e=>RJ _ (F.keep b o e) (hid b o e);refine⟨⟨⟨m,⟨F.ns,F.cell,F.has,F.apart,F.off,λb o e=>TH _ e,Sm _ (QH),λx hx cl hc=>Sm _ (QA _ (QM _ (Rn.mpr ⟨x,hx,hc⟩)))⟩,S⟩,R.nd,λa ha=>Sm _ (QA _ (Qy _ ha)),λa ha=>?_,R.loc⟩,up⟩;exact xE (R.old a ha) λo e=>⟨o,up _ _ e⟩
theorem pX{ZV:Env}{names:List Str}{ms₀ as:List Addr}(R:aC w wr ZV names Hy ms₀ as O h){b:Addr}{o:Obj}(q:bI o=true)(n:b∉as)(e:h.get? b=some o)(hw:∀x∈wr,ZV.kindOf x=some .cell):(under wr ZV as h).get? b=some o:=by
 refine b9.el R.ex λm F S=>?_;refine RJ _ e λz=>?_;rcases Qw.mp z with z|z
 ·subst z
  refine eG F.ns λml hn U KH=>?_;rw[eL hn KH e]at q;exact fF q
 ·rcases Qz.mp z with z|z
  ·refine ay (Rn.mp z) λx hx hc=>?_
   refine ay (F.cell x b (.inl (hw x hx)) hc) λo' ho hd=>?_;rw[e]at ho;obtain rfl:=QG ho;unfold bI at q;rw[hd]at q;contradiction
  ·exact n z
theorem aC.back{ZV:Env}{names:List Str}{ms₀ as as':List Addr}(R:aC w wr ZV names Hy ms₀ as O h)(R':aC w wr ZV names (Lake.W.under wr ZV as h) ms₀ as' Wj h'):aC w wr ZV names Hy ms₀ as' Wj h':=by
 refine b9.el R.ex λm F S=>?_;refine b9.el R'.ex λm' F' S'=>?_;have up:=R.under.2;have dn:∀a,(Lake.W.under wr ZV as h).get? a=none->Hy.get? a=none:=λa e=>by
  rcases q:Hy.get? a with _|o
  ·rfl
  ·rw[up a o q]at e;exact sN e
 exact⟨⟨m',⟨F'.ns,F'.cell,F'.has,F'.apart,F'.off,λb o e=>F'.keep b o (up b o e),F.above,F.Z1⟩,S'⟩,R'.nd,λa ha=>dn a (R'.new a ha),R.old,R'.loc⟩
structure IM(T:a6)(c:Cx)(ZV:Env)(JU:PySem.Expr)(body:List Stmt)(P:dL)(w:World)(Hy:Heap)(ms₀ as fp:List Addr)(ds:List D)(Sp:Nat->Heap->Prop)(s HX:Shared)(My:List D)(Wj:St)(as':List Addr)(i:Nat)(s':Shared):Prop where
 hd:ds.drop i=My
 hi:i+My.length=ds.length
 hl:jf T c JU body P My Wj
 JE:aC w c.wr ZV c.names Hy ms₀ as' Wj s'.heap
 st:Sp i s'.heap
 sm:bP s s'
 sk:am (less HX.heap (ms₀++as)) (less s'.heap (ms₀++as'))
 off:∀b∈fp,b∉as'
inductive DL(T:a6)(c:Cx)(ZV:Env)(JU:PySem.Expr)(body:List Stmt)(P:dL)(w:World)(Hy:Heap)(ms₀ as fp:List Addr)(ds:List D)(Sp:Nat->Heap->Prop)(s HX:Shared)(n:Nat)(s':Shared):Prop
 |mk (My:List D) (Wj:St) (as':List Addr) (i:Nat) (hn:n=My.length) (V:IM T c ZV JU body P w Hy ms₀ as fp ds Sp s HX My Wj as' i s'):DL T c ZV JU body P w Hy ms₀ as fp ds Sp s HX n s'
theorem eA(JS:It T c O JU e ds)(hl:jf T c JU body P ds O)(hs:∀ZV x,foldedSetIterable e ZV x=pure x):W1 T c O (.For JU e body [] p) P:=by
 constructor;intros;refine wpAny_For (JS.run ok tp R JE λI fp wr St HX Uf new off wk st=>?_) (hs ZV);have wk:=wk A (R.less (Rh _));have Zk:∀x∈c.wr,ZV.kindOf x=some .cell:=λx hx=>(ok.kindOf x).trans (ok.wrc x hx);have VR:∀b∈wr,Hy.get? b=none:=λb hb=>by
  rcases e:Hy.get? b with _|o
  ·rfl
  ·refine b9.el JE.ex λm F S=>?_
   have:=F.keep b o e
   rw[new b hb]at this;exact nS this
 refine codeAny_forLoop_any (I:=DL T c ZV JU body P w Hy ms₀ as fp ds St s HX) ?_ ds.length ⟨ds,O,as,0,rfl,rfl,RP _,hl,JE.grow Uf.keep,st,Uf.same,.refl _,λb hb z=>off b hb (Qy _ z)⟩;rintro n s' ⟨My,Wj,as',i,rfl,V⟩;obtain⟨hd,hi,Lc,JY,Ko,sm,sk,off'⟩:=V;have Z2:∀Ka,Bk wr s' Ka->aC w c.wr ZV c.names Hy ms₀ as' Wj Ka.heap/\jA s'.heap Ka.heap:=λKa mv=>by
  have ro:=mv.recOnly (wk.Z2 i _ Ko);refine⟨JY.moved ro λb o e=>mv.keep b o (λhb=>?_) ?_,ro⟩
  ·rw[VR b hb]at e;exact nS e
  ·refine b9.el JY.ex λm F S=>?_;exact F.keep b o e
 rcases My with _|⟨d,r⟩
 ·have hi:i=ds.length:=by simpa using hi
  subst hi;exact wk.done s' _ _ Ko λKa mv=>Ud (q .next .next Wj as' Ka Lc (Z2 Ka mv).1 (sm.trans mv.same) trivial)
 ·have KZ:ds[i]? = some d:=by
   have:=QV (·[0]?) hd
   simpa using this
  refine wk.turn KZ Ko λv Ug hv Va mv=>?_
  ·refine xA (Z2 Ug mv) λUm ro=>?_
   refine ay Lc λUB tg hW=>?_;have VH:am (less HX.heap (ms₀++as)) (less Ug.heap (ms₀++as')):=sk.trans ro.less;refine tg.run ok R Um (hv _ VH JY.have) λUi Uo Ut pk=>?_;refine xA Uo.under λKd up=>?_;have Vt:St (i+1) Ui.heap:=wk.frame _ _ _ Va λb hb o e=>by refine ay (wk.plain _ _ Va b hb) λo' e' k=>?_;rw[e]at e';obtain rfl:=QG e';exact pk b o k e
   have Zl:∀b∈fp,∀o,Ui.heap.get? b=some o->(under c.wr ZV as' Ui.heap).get? b=some o:=λb hb o e=>by refine ay (wk.plain _ _ Vt b hb) λo' e' k=>?_;rw[e]at e';obtain rfl:=QG e';exact pX Uo k (off' b hb) e Zk
   refine hW.run ok (T.keeps _ _ _ tp up) R Kd λfl f Vm Vu Un hp UH U0 fr=>?_;have back:=Uo.back UH;have O9:bP s Un:=((sm.trans mv.same).trans Ut).trans U0;have L0:∀b o,(under c.wr ZV as' Ui.heap).get? b=some o->Un.heap.get? b=some o:=by exact b9.el UH.ex λm F S=>F.keep
   have WP:jf T c JU body P r Vm->∃m,m<(d::r).length/\DL T c ZV JU body P w Hy ms₀ as fp ds St s HX m Un:=λhL=>by
    refine⟨r.length,by simp,r,Vm,Vu,i+1,rfl,?_,by simp at hi;exact IY hi,hL,back,?_,O9,?_,?_⟩
    ·rw[<-List.drop_drop,hd];rfl
    ·exact wk.frame _ _ _ Vt λb hb o e=>L0 _ _ (Zl b hb o e)
    ·refine(VH.trans pk.less).trans λa o k e=>?_
     rw[ab]at e ⊢;have hn:a∉as':=λz=>e.1 (Qy _ z);have hu:=pX Uo (dS k) hn e.2 Zk;refine⟨λz=>?_,L0 _ _ hu⟩;rcases Qz.mp z with z|z
     ·exact e.1 (QM _ z)
     ·rw[UH.new a z]at hu;exact nS hu
    ·intro b hb z
     refine ay (wk.plain _ _ Vt b hb) λo e k=>?_
     have:=Zl b hb o e
     rw[UH.new b z]at this;exact nS this
   cases fl with
   |next=>obtain rfl:=iB fr;exact WP hp
   |cont=>obtain rfl:=qx fr;exact WP hp
   |brk=>obtain rfl:=uB fr;exact q .next .next Vm Vu Un hp back O9 trivial
   |ret d=>refine ay (uC fr) λv U rv=>?_;subst U;exact q (.ret d) _ Vm Vu Un hp back O9 rv
section
variable(T:a6)
def Bl(x:Str)(v:Value):Prop:=∀(w:World)(h:Heap),T.Tp w h->T.mg w x=none/\T.mb w x=some v
structure Bi(n:Nat)(v:Value)(ds:List D)(r:D):Prop where
 run:∀(w:World)(A:Around)(s:Shared)(ms:List Addr)(vals:List Value)(Q:Ω)(E:Ω),
  aZ n A->(∀a∈ms,∃o,s.heap.get? a=some o)->aX (less s.heap ms) ds vals->(∀v' s',ao s s'->RV (less s'.heap ms) r v'->Q v' s')->wpAny (model P0 w) A (call v vals) Q E s
end
theorem kD{o:Obj}{vs:Array Value}{t:String}(hd:o.data=.fields vs)(hc:o.cls=.type t)(ht:(t == "ValueError" || t == "range")=false):lQ o=true:=by unfold lQ BO;rw[hd,hc];show(!(t == "ValueError" || t == "range"))=true;rw[ht];rfl
noncomputable def mq:Value->Bool|.type _=>true|.builtin _=>true|_=>false
theorem dN{f:Str}(hb:Bl T f fv)(hv:mq fv=true)(RB:rn T c O (e::es) ds)(hk:c.sc.names.lookup f=some .globalImplicit)(hd:(f==("__debug__" : Str))=false)(he:∀ZV,eval (.Call (.Name f p') (e::es) [] p) ZV=(do callWith p (<-eval (.Name f p') ZV) [] (backTo p (starEach (e::es) ZV)) (backToKw p (keywordEach [] ZV))))(JW:Ω2 e es)(J0:∀ZV,(backTo p (starEach (e::es) ZV)).any (·.1)=false){ZV:Env}{ms₀ as:List Addr}(ok:aD c ZV)(tp:T.Tp w Hy)(R:aZ c.n A)(JE:aC w c.wr ZV c.names Hy ms₀ as O s.heap)(q:∀vs s',ao s s'->aX (less s'.heap (ms₀++as)) ds vs->wpAny (model P0 w) A (call fv vs) Q E s'):wpAny (model P0 w) A (eval (.Call (.Name f p') (e::es) [] p) ZV) Q E s:=by
 refine xA (hb w Hy tp) λe1 e2=>?_;refine b9.el JE.ex λm F S=>?_;refine Call_ (Name_function_global (by rw[ok.scope];exact ok.kind) (by rw[ok.kindOf];exact hk) ?_ hd) (he ZV);refine loadGlobal_builtin (by rw[ok.globals];exact(T.glob w Hy tp).keeps F.keep) e1 (by rw[ok.builtins];exact(T.blt w Hy tp).keeps F.keep) e2 ?_;have ev:wpAny (model P0 w) A (evalArgs fv true (backTo p (starEach (e::es) ZV)) []) (λa HX=>wpAny (model P0 w) A (call fv ([]++a.pos) a.kw) Q E HX) E s:=by
  rw[JW ZV];refine evalArgs_plain ?_
  have:=RB.run (E:=E) (Q:=(λvs HX=>wpAny (model P0 w) A (call fv vs) Q E HX)) ok tp R JE (λvs HX a rv=>q vs HX a rv) p
  rw[JW ZV]at this;exact this
 cases fv with
 |type t=>exact PySem.callWith_type (J0 ZV) ev
 |builtin t=>exact Rm (J0 ZV) ev
 |_=>contradiction
theorem bh{f:Str}(hb:Bl T f fv)(hv:mq fv=true)(hB:Bi c.n fv ds r)(RB:rn T c O (e::es) ds)(hk:c.sc.names.lookup f=some .globalImplicit:=by kernel_rfl)(hd:(f==("__debug__" : Str))=false:=by rfl)(he:∀ZV,eval (.Call (.Name f p') (e::es) [] p) ZV=(do callWith p (<-eval (.Name f p') ZV) [] (backTo p (starEach (e::es) ZV)) (backToKw p (keywordEach [] ZV))):=by intros;rfl)(JW:∀ZV,starEach (e::es) ZV=(false,eval e ZV)::starEach es ZV:=by intros;rfl)(J0:∀ZV,(backTo p (starEach (e::es) ZV)).any (·.1)=false:=by intros;rfl):Ev T c O (.Call (.Name f p') (e::es) [] p) r:=by
 constructor;intros;exact dN hb hv RB hk hd he JW J0 ok tp R JE λvs HX a rv=>hB.run w A HX (ms₀++as) vs Q E R (JE.grow a.keep).have rv λv' s' a' K5=>q _ _ (a.trans a') K5
noncomputable def jN:PySem.Expr->Bool|.Name ..=>true|.Tuple ..=>true|_=>false
set_option tactic.hygienic true in
theorem sV{M:Model}{o:Obj}{n:String}{Q:Unit->Shared->Prop}(ht:jN JU=true)(ho:s.heap.get? I=some o)(hc:o.cls=.type n)(hn:["enumerate","zip","dict_itemiterator","dict_reverseitemiterator","odict_iterator","itertools.zip_longest","itertools.pairwise"].contains n=false)(h:Q () s):wpAny M A (letOwnedTupleGo JU (.ref I) v) Q E s:=by
 cases JU<;>first|cases ht|skip
 ·exact QD h
 ·cases v<;>first|exact QD h|skip
  rename_i a;refine GA (wpAny_load ho ?_);rw[hc];cases hd:o.data<;>first|exact QD h|skip
  simp only[hn,Bool.false_and,TU,TV];exact QD h
theorem Wk.of{fp wr:List Addr}{P:Nat->Value->Prop}{St:Nat->Heap->Prop}(W:Walks P0 w A I fp wr n P St)(hn:n=ds.length)(ht:jN JU=true)(Z2:∀i h,St i h->∀b∈wr,∀o,h.get? b=some o->lQ o=true)(plain:∀i h,St i h->∀b∈fp,∃o,h.get? b=some o/\bI o=true)(cls:∀i h,St i h->∃o t,h.get? I=some o/\o.cls=.type t/\["enumerate","zip","dict_itemiterator","dict_reverseitemiterator","odict_iterator","itertools.zip_longest","itertools.pairwise"].contains t=false)(hP:∀i d v,ds[i]? = some d->P i v->RV g d v):Wk w A JU I fp wr g ds St where
 sub:=W.sub
 frame:=W.frame
 Z2:=Z2
 plain:=plain
 item:=λi d s Q E hd st h=>by
  have hi:i<n:=by rw[hn];exact(Q0.mp hd).1
  refine W.item i s _ E hi st λv h' tk hp Ko k=>?_;refine kg (cls _ _ Ko) λo t ho hc hn=>?_;exact sV ht ho hc hn (h v _ (λms sk U=>(hP i d v hd hp).mono sk) Ko ⟨λb o hb e=>k b o hb e,⟨rfl,rfl,rfl⟩⟩)
 done:=λs Q E st h=>W.done s Q E (hn▸st) λh' tk k=>h _ ⟨k,⟨rfl,rfl,rfl⟩⟩
 self:=W.self
theorem az{o:Obj}{t:Nat}:ao s { s with heap:=s.heap.push o,toks:=t }:=⟨λU U e=>QF _ e,rfl,rfl,rfl⟩
theorem dQ{a b:Addr}{o:Obj}(e:h.get? a=some o)(q:h.get? b=none):a≠b:=λz=>by subst z;rw[e]at q;exact sN q
theorem ni{o:Obj}(e:h.get? a=some o):a≠h.objs.size:=RW (Rx e)
theorem bb(h:Ev T c O e (.list ds))(ht:jN JU=true):It T c O JU e ds:=by
 constructor;intros;refine h.run ok tp R JE λv HX Uf rv=>?_;refine dK.el rv.inv λa vs n U hg JL=>?_;subst U;have Kc:=ab.mp hg;have JO:=ni Kc.2;have hl:HX.heap.IsList a vs.toArray:=⟨_,Kc.2,rfl,n,rfl⟩;refine wpAny_pyIter_list hl ?_;refine q HX.heap.objs.size [HX.heap.objs.size,a] [HX.heap.objs.size] (λi h=>h.IsListIter HX.heap.objs.size a i/\h.IsList a vs.toArray) _ (Uf.trans az) ?_ ?_ (λA' R'=>Wk.of (Walks.list R'.handled _ a JO vs.toArray) (by rw[QJ];exact JL.length) ht ?_ ?_ ?_ ?_)
  ⟨⟨_,Q2 _ rfl,rfl,rfl⟩,⟨_,QF _ Kc.2,rfl,n,rfl⟩⟩
 ·intro b hb
  rw[QB.mp hb];rcases e:s.heap.get? HX.heap.objs.size with _|o
  ·rfl
  ·exact absurd (Uf.keep _ _ e) (by rw[aK (QO _)];nofun)
 ·intro b hb z
  rcases Qw.mp hb with e|hb
  ·subst e
   refine xE ((JE.grow Uf.keep).have _ z) λo e=>?_;rw[aK (QO _)]at e;exact nS e
  ·rw[QB.mp hb]at z
   exact Kc.1 z
 ·rintro i h ⟨⟨o,ho,hc,hd⟩,_⟩ b hb o' e
  rw[QB.mp hb,ho]at e;obtain rfl:=QG e;exact kD hd hc dk
 ·rintro i h ⟨⟨o,ho,hc,hd⟩,⟨o',KS,O5,n',JX⟩⟩ b hb
  rcases Qw.mp hb with e|hb
  ·subst e;exact⟨o,ho,by unfold bI;rw[hd]⟩
  ·rw[QB.mp hb];exact⟨o',KS,by unfold bI;rw[JX]⟩
 ·rintro i h ⟨⟨o,ho,hc,hd⟩,_⟩
  exact⟨o,_,ho,hc,by decide⟩
 ·intro i d v hd hv
  refine ay (JL.get hd) λv' e rv=>?_;have hv:vs.toArray[i]? = some v:=hv;rw[Q6,e]at hv;obtain rfl:=QG hv;exact rv.mono (ai λU U e=>QF _ e)
theorem mY(h:Ev T c O e (.tup ds))(ht:jN JU=true):It T c O JU e ds:=by
 constructor;intros;refine h.run ok tp R JE λv HX Uf rv=>?_;obtain⟨a,VS,vs,n,rfl,hg,J8,JM,JL⟩:=rv.inv;have Kc:=ab.mp hg;have JO:=ni Kc.2;have hl:HX.heap.IsTuple a vs.toArray:=⟨_,Kc.2,J8,n,JM⟩;refine wpAny_pyIter_tuple hl ?_;refine q HX.heap.objs.size [HX.heap.objs.size,a] [HX.heap.objs.size] (λi h=>h.IsTupleIter HX.heap.objs.size a i/\h.IsTuple a vs.toArray) _ (Uf.trans az) ?_ ?_ (λA' R'=>Wk.of (Walks.tuple R'.handled _ a JO vs.toArray) (by rw[QJ];exact JL.length) ht ?_ ?_ ?_ ?_)
  ⟨⟨_,Q2 _ rfl,rfl,rfl⟩,⟨_,QF _ Kc.2,J8,n,JM⟩⟩
 ·intro b hb
  rw[QB.mp hb];rcases e:s.heap.get? HX.heap.objs.size with _|o
  ·rfl
  ·exact absurd (Uf.keep _ _ e) (by rw[aK (QO _)];nofun)
 ·intro b hb z
  rcases Qw.mp hb with e|hb
  ·subst e
   refine xE ((JE.grow Uf.keep).have _ z) λo e=>?_;rw[aK (QO _)]at e;exact nS e
  ·rw[QB.mp hb]at z
   exact Kc.1 z
 ·rintro i h ⟨⟨o,ho,hc,hd⟩,_⟩ b hb o' e
  rw[QB.mp hb,ho]at e;obtain rfl:=QG e;exact kD hd hc dk
 ·rintro i h ⟨⟨o,ho,hc,hd⟩,⟨o',KS,O5,n',JX⟩⟩ b hb
  rcases Qw.mp hb with e|hb
  ·subst e;exact⟨o,ho,by unfold bI;rw[hd]⟩
  ·rw[QB.mp hb];exact⟨o',KS,by unfold bI;rw[JX]⟩
 ·rintro i h ⟨⟨o,ho,hc,hd⟩,_⟩
  exact⟨o,_,ho,hc,by decide⟩
 ·intro i d v hd hv
  refine ay (JL.get hd) λv' e rv=>?_;have hv:vs.toArray[i]? = some v:=hv;rw[Q6,e]at hv;obtain rfl:=QG hv;exact rv.mono (ai λU U e=>QF _ e)
noncomputable def jD(x:Str):List D:=x.cps.toList.map λc=>.str ⟨#[c]⟩
noncomputable def rng(a b:Int):List D:=(List.range (b-a).toNat).map λ(i:Nat)=>.int (a+i)
noncomputable def k8(ds:List D):List D:=ds.zipIdx.map λp=>.tup [.int p.2,p.1]
theorem iE{ZV:Env}{names:List Str}{ms₀ as:List Addr}(JE:aC w wr ZV names Hy ms₀ as O h)(q:h.objs.size<=a):a∉ms₀++as:=λz=>by refine xE (JE.have _ z) λo e=>?_;rw[aK q]at e;exact nS e
theorem c9(Uf:ao s HX)(q:HX.heap.objs.size<=a):s.heap.get? a=none:=by
 rcases e:s.heap.get? a with _|o
 ·rfl
 ·exact absurd (Uf.keep _ _ e) (by rw[aK q];nofun)
theorem qJ{ZV:Env}{ms₀ as:List Addr}{P:Nat->Value->Prop}{St:Nat->Heap->Prop}{o:Obj}{t:String}(JE:aC w c.wr ZV c.names Hy ms₀ as O HX.heap)(Uf:ao s HX)(W:∀A',A'.handled=none->Walks P0 w A' HX.heap.objs.size [HX.heap.objs.size] [HX.heap.objs.size] n P St)(hn:n=ds.length)(ht:jN JU=true)(JW:∀i h,St i h->∃o,h.get? HX.heap.objs.size=some o/\o.cls=.type t/\lQ o=true)(hc:["enumerate","zip","dict_itemiterator","dict_reverseitemiterator","odict_iterator","itertools.zip_longest","itertools.pairwise"].contains t=false)(hP:∀g i d v,ds[i]? = some d->P i v->RV g d v)(st:St 0 (HX.heap.push o))(q:∀I fp wr St s',ao s s'->(∀b∈wr,s.heap.get? b=none)->(∀b∈fp,b∉ms₀++as)->(∀A',aZ 0 A'->Wk w A' JU I fp wr (less s'.heap (ms₀++as)) ds St)->St 0 s'.heap->Q (.ref I) s'):
  Q (.ref HX.heap.objs.size) { HX with heap:=HX.heap.push o }:=by
 refine q _ _ _ _ { HX with heap:=HX.heap.push o } (Uf.trans az) (λb hb=>?_) (λb hb=>?_) (λA' R'=>Wk.of (W A' R'.handled) hn ht (λi h z b hb o' e=>?_) (λi h z b hb=>?_) (λi h z=>?_) (λi d v=>hP _ i d v)) st
 ·rw[QB.mp hb];exact c9 Uf (QO _)
 ·rw[QB.mp hb];exact iE JE (QO _)
 ·refine eG (JW i h z) λo ho U hf=>?_
  rw[QB.mp hb,ho]at e;obtain rfl:=QG e;exact hf
 ·refine eG (JW i h z) λo ho U hf=>?_
  rw[QB.mp hb];exact⟨o,ho,xl hf⟩
 ·exact eG (JW i h z) λo ho J8 hf=>⟨o,t,ho,J8,hc⟩
theorem En(h:Ev T c O e (.str x))(ht:jN JU=true):It T c O JU e (jD x):=by
 constructor;intros;refine h.run ok tp R JE λv HX Uf rv=>?_;refine RV.strK rv λt U=>?_;subst U;have hP:∀g i d v,(jD x)[i]? = some d->SignAt x i v->RV g d v:=λg i d v hd hv=>by refine dE hv λch u hc U=>?_;subst U;unfold jD at hd;rw[QX,Array.getElem?_toList,hc]at hd;obtain rfl:=QG hd;exact .str _ _
 have hn:x.cps.size=(jD x).length:=by unfold jD;simp
 have JW:∀(ty:String)(_:(ty == "ValueError" || ty == "range")=false)i(h:Heap),h.IsStrIter HX.heap.objs.size ty x t i->∃o,h.get? HX.heap.objs.size=some o/\o.cls=.type ty/\lQ o=true:=λty PK i h ⟨o,ho,hc,hd⟩=>⟨o,ho,hc,kD hd hc PK⟩;refine wpAny_pyIter_strU ?_;cases ha:x.cps.all (·<128)
 ·refine qJ (JE.grow Uf.keep) Uf (λA' hh=>Walks.strWide hh _ x t) hn ht (JW _ dk) dk hP ?_ q
  exact⟨_,Q2 _ rfl,by simp[strIterType,ha],rfl⟩
 ·refine qJ (JE.grow Uf.keep) Uf (λA' hh=>Walks.strAscii hh _ x t) hn ht (JW _ dk) dk hP ?_ q
  exact⟨_,Q2 _ rfl,by simp[strIterType,ha],rfl⟩
theorem nG{ZV:Env}{ms₀ as:List Addr}{r:Addr}{a b:Int}{t u v:Tok}(JE:aC w c.wr ZV c.names Hy ms₀ as O HX.heap)(Uf:ao s HX)(hr:IsRange HX.heap r a b 1 t u v)(ha:-(2^62)<=a)(ha':a<2^62)(hb:-(2^62)<=b)(hb':b<2^62)(ht:jN JU=true)(q:∀I fp wr St s',ao s s'->(∀b∈wr,s.heap.get? b=none)->(∀b∈fp,b∉ms₀++as)->(∀A',aZ 0 A'->Wk w A' JU I fp wr (less s'.heap (ms₀++as)) (rng a b) St)->St 0 s'.heap->Q (.ref I) s'):
  wpAny (model P0 w) A (pyIter (.ref r)) Q E HX:=by
 refine wpAny_pyIter_range hr (small_one ha ha' hb hb') ?_;refine qJ (n:=(b-a).toNat) JE Uf (λA' hh=>Walks.range hh _ a 1 _) (by unfold rng;simp) ht (λi h st=>⟨_,st,rfl,rfl⟩) dk (λg i d v hd hv=>?_) ?_ q
 ·refine xE hv λtk U=>?_;subst U
  unfold rng at hd;rw[QX]at hd;rcases hi:(List.range (b-a).toNat)[i]? with _|j
  ·rw[hi]at hd;contradiction
  ·rw[hi]at hd
   have:j=i:=by
    have:=Q0.mp hi
    refine xE this λJ6 e=>?_;rw[SN]at e;exact e.symm
   subst this;obtain rfl:=QG hd;rw[Int.mul_one];exact .int _ _
 ·rw[rangeSize_nat]
  have:=Q2 HX.heap (o:={ cls:=.type "range_iterator",data:=.fields #[rawInt a,rawInt ((b-a).toNat:Int),rawInt 1] }) rfl
  simpa[IsRangeIter]using this
abbrev Ω8(T:a6):Prop:=Bl T "range" (.type "range")
theorem dO{b:Int}(hb:Ω8 T)(h:Ev T c O e (.int b))(ht:jN JU=true)(h1:-(2^62)<=b)(h2:b<2^62)(hk:c.sc.names.lookup ("range" : Str)=some .globalImplicit:=by kernel_rfl)(he:∀ZV,eval (.Call (.Name "range" p') [e] [] p) ZV=(do callWith p (<-eval (.Name "range" p') ZV) [] (backTo p (starEach [e] ZV)) (backToKw p (keywordEach [] ZV))):=by intros;rfl)(JW:∀ZV,starEach [e] ZV=(false,eval e ZV)::starEach [] ZV:=by intros;rfl)(J0:∀ZV,(backTo p (starEach [e] ZV)).any (·.1)=false:=by intros;rfl):It T c O JU (.Call (.Name "range" p') [e] [] p) (rng 0 b):=by
 constructor;intros;refine dN hb rfl (bC h ad JW) hk dk he JW J0 ok tp R JE λvs HX Uf JL=>?_;refine cq.el JL.Z0 λU U U=>?_;subst U;intro rv JL;obtain rfl:=JL.Z3;refine xE rv.inv λU U=>?_;subst U;exact call_range_1 (nG (JE.grow (Uf.trans az).keep) (Uf.trans az) (IsRange.new ..) dk dk h1 h2 ht q)
theorem kE{JU e e':PySem.Expr}{a b:Int}(hb:Ω8 T)(h:Ev T c O e (.int a))(h':Ev T c O e' (.int b))(ht:jN JU=true)(h1:-(2^62)<=a)(h2:a<2^62)(h3:-(2^62)<=b)(h4:b<2^62)(hk:c.sc.names.lookup ("range" : Str)=some .globalImplicit:=by kernel_rfl)(he:∀ZV,eval (.Call (.Name "range" p') [e,e'] [] p) ZV=(do callWith p (<-eval (.Name "range" p') ZV) [] (backTo p (starEach [e,e'] ZV)) (backToKw p (keywordEach [] ZV))):=by intros;rfl)(JW:∀ZV,starEach [e,e'] ZV=(false,eval e ZV)::starEach [e'] ZV:=by intros;rfl)(K1:∀ZV,starEach [e'] ZV=(false,eval e' ZV)::starEach [] ZV:=by intros;rfl)(J0:∀ZV,(backTo p (starEach [e,e'] ZV)).any (·.1)=false:=by intros;rfl):It T c O JU (.Call (.Name "range" p') [e,e'] [] p) (rng a b):=by
 constructor;intros;refine dN hb rfl (bC h (bC h' ad K1) JW) hk dk he JW J0 ok tp R JE λvs HX Uf JL=>?_;refine cq.el JL.Z0 λU U U=>?_;subst U;intro rv JL;refine cq.el JL.Z0 λU U U=>?_;subst U;intro K5 JL;obtain rfl:=JL.Z3;refine xE rv.inv λU U=>?_;subst U;refine xE K5.inv λU U=>?_;subst U;exact call_range_2 (nG (JE.grow (Uf.trans az).keep) (Uf.trans az) (IsRange.new ..) h1 h2 h3 h4 ht q)
theorem cD(x:Heap.ExtBut s.heap.objs.size s.heap h'):ao s { s with heap:=h' }:=⟨λb o e=>x b o (ni e) e,rfl,rfl,rfl⟩
section
variable(c:Cx)
structure F5(O:St)(ts:List PySem.Expr)(ds:List D)(Wj:St):Prop where
 run:∀{w:World}{A:Around}{ZV:Env}{Hy:Heap}{ms₀ as:List Addr}{s:Shared}{vs:List Value}{Q:Unit->Shared->Prop}{E:Ω},
  aD c ZV->aZ c.n A->aC w c.wr ZV c.names Hy ms₀ as O s.heap->aX (less s.heap (ms₀++as)) ds vs->
  (∀s',aC w c.wr ZV c.names Hy ms₀ as Wj s'.heap->bP s s'->aN s.heap s'.heap->Q () s')->wpAny (model P0 w) A (assignInOrder ((assignEach ts ZV).map (·.2)) vs) Q E s
end
section
variable{T:a6}{c:Cx}{O UB Wj:St}{P:dL}
theorem bg:F5 c O [] [] O:=⟨@λw A ZV Hy ms₀ as s vs Q E ok R JE JL q=>assignInOrder_nil (q s JE (bP.refl s) (.refl _))⟩
theorem an{t:PySem.Expr}(h:Tg c O t d UB)(h':F5 c UB ts ds Wj)(he:∀ZV,assignEach (t::ts) ZV=(false,assign t ZV)::assignEach ts ZV:=by intros;rfl):F5 c O (t::ts) (d::ds) Wj:=by constructor;intro w A ZV Hy ms₀ as s vs Q E ok R JE JL q;refine aX.Z9 JL λU U U rv JL=>?_;subst U;clear JL;rw[he ZV];exact assignInOrder_cons (h.run ok R JE rv λHX Uk sm k=>(h'.run ok R Uk (JL.mono k.less) λUg Um UP k₂=>q Ug Um (sm.trans UP) (k.trans k₂)))
theorem cz{k:_}(h:F5 c O elts ds Wj)(hl:∀ZV,(assignEach elts ZV).length=ds.length:=by intros;rfl)(hs:∀ZV,(assignEach elts ZV).findIdx? (·.1)=none:=by intros;rfl):Tg c O (.Tuple elts k p) (.tup ds) Wj:=by constructor;intro w A ZV Hy ms₀ as s v Q E ok R JE rv q;obtain⟨a,VS,vs,n,rfl,hg,J8,JM,JL⟩:=rv.inv;have Kc:=ab.mp hg;refine wpAny_assign_Tuple R.handled (items:=vs.toArray) ⟨_,Kc.2,J8,n,JM⟩ (by rw[hl ZV,QJ];exact JL.length.symm) (hs ZV) λh' hx=>?_;have Uf:=cD hx;exact h.run ok R (JE.grow Uf.keep) (JL.mono (ai Uf.keep)) λUg Um UP k₂=>q Ug Um (Uf.same.trans UP) ((aN.of Uf.keep).trans k₂)
theorem Wk.ofT{k:_}{fp wr:List Addr}{Pt:Nat->Array Value->Prop}{St:Nat->Heap->Prop}{Mid:Nat->Addr->Heap->Prop}(W:WalksT P0 w A I fp wr n Pt St Mid)(hn:n=ds.length)(Z2:∀i h,St i h->∀b∈wr,∀o,h.get? b=some o->lQ o=true)(plain:∀i h,St i h->∀b∈fp,∃o,h.get? b=some o/\bI o=true)(hP:∀i d vals,ds[i]? = some d->Pt i vals->∃dl,d=.tup dl/\aX g dl vals.toList):Wk w A (.Tuple elts k p) I fp wr g ds St where
 sub:=W.sub
 frame:=W.frame
 Z2:=Z2
 plain:=plain
 item:=λi d s Q E hd st h=>by
  have hi:i<n:=by rw[hn];exact(Q0.mp hd).1
  refine W.item i s _ E hi st λX vals h' tk hp hX Ps MF k'=>?_;refine W.go elts k p i X _ _ E MF λPS Pu WC=>?_;refine ay (hP i d vals hd hp) λdl U JL=>?_;subst U;refine Bh Ps λo ho hc m JM=>?_;refine h _ _ (λms sk ex=>?_) Pu ⟨λb o hb e=>WC b o hb (k' b o hb e),⟨rfl,rfl,rfl⟩⟩;refine .tup (o:=o) (vs:=vals.toList) (n:=m) ?_ hc (by rw[JM]) (JL.mono sk);rw[ab];refine⟨λz=>?_,WC _ _ (W.apart _ _ _ MF) ho⟩;exact xE (ex _ z) λo' e=>absurd (Rx e) (Sg.mpr hX)
 done:=λs Q E st h=>W.done s Q E (hn▸st) λh' tk k=>h _ ⟨k,⟨rfl,rfl,rfl⟩⟩
 self:=W.self
theorem gc(h:(k8 ds)[i]? = some d):∃x,ds[i]? = some x/\d=.tup [.int i,x]:=by
 unfold k8 at h;rw[QX,List.getElem?_zipIdx]at h;rcases e:ds[i]? with _|x
 ·rw[e]at h;contradiction
 ·rw[e]at h;obtain rfl:=QG h;exact⟨x,rfl,by simp⟩
theorem dz(ds:List D):(k8 ds).length=ds.length:=by unfold k8;simp
theorem eC{k:_}(hb:Bl T "enumerate" (.type "enumerate"))(h:Ev T c O e (.list ds))(hk:c.sc.names.lookup ("enumerate" : Str)=some .globalImplicit:=by kernel_rfl)(he:∀ZV,eval (.Call (.Name "enumerate" p') [e] [] p) ZV=(do callWith p (<-eval (.Name "enumerate" p') ZV) [] (backTo p (starEach [e] ZV)) (backToKw p (keywordEach [] ZV))):=by intros;rfl)(JW:∀ZV,starEach [e] ZV=(false,eval e ZV)::starEach [] ZV:=by intros;rfl)(J0:∀ZV,(backTo p (starEach [e] ZV)).any (·.1)=false:=by intros;rfl):It T c O (.Tuple elts k Kv) (.Call (.Name "enumerate" p') [e] [] p) (k8 ds):=by
 constructor;intros;refine dN hb rfl (bC h ad JW) hk dk he JW J0 ok tp R JE λvs HX Uf JL=>?_;refine cq.el JL.Z0 λU U U=>?_;subst U;intro rv JL;obtain rfl:=JL.Z3;refine dK.el rv.inv λl vs n U=>?_;subst U;intro hg JL;have Kc:=ab.mp hg;have hl:HX.heap.IsList l vs.toArray:=⟨_,Kc.2,rfl,n,rfl⟩;have J6:l<HX.heap.objs.size:=Rx Kc.2;refine call_enumerate_list hl λh' Mb JS hsz Ki=>wpAny_pyIter_enum Mb ?_;have Uh:ao HX { HX with heap:=h' }:=⟨Ki,rfl,rfl,rfl⟩;refine q (HX.heap.objs.size+1) _ _ _ _ (Uf.trans Uh) ?_ ?_ (λA' R'=>Wk.ofT (WalksT.enumerateD (Draws.list (A:=A'.in1) R'.handled HX.heap.objs.size l (RW J6) vs.toArray) (HX.heap.objs.size+1) (Nat.succ_ne_self _) ?_ (by simp)) (by rw[dz,QJ];exact JL.length) ?_ ?_ ?_)
  ⟨⟨_,Mb⟩,JS,hl.at λo e=>Ki l o e⟩
 ·intro b hb
  rcases Qw.mp hb with e|hb
  ·subst e;exact c9 Uf (SF _)
  ·rw[QB.mp hb];exact c9 Uf (QO _)
 ·intro b hb
  rcases Qw.mp hb with e|hb
  ·subst e;exact iE (JE.grow Uf.keep) (SF _)
  ·rcases Qw.mp hb with e|hb
   ·subst e;exact iE (JE.grow Uf.keep) (QO _)
   ·rw[QB.mp hb];exact λz=>Kc.1 z
 ·intro z
  rcases Qw.mp z with e|z
  ·exact Nat.succ_ne_self _ e
  ·exact TJ (RN J6) (QB.mp z)
 ·rintro i h ⟨⟨old,hE⟩,⟨⟨o,ho,hc,hd⟩,_⟩⟩ b hb o' e
  rcases Qw.mp hb with z|hb
  ·subst z;rw[hE]at e;obtain rfl:=QG e;rfl
  ·rw[QB.mp hb,ho]at e;obtain rfl:=QG e;exact kD hd hc dk
 ·rintro i h ⟨⟨old,hE⟩,⟨⟨o,ho,hc,hd⟩,⟨o',KS,O5,n',JX⟩⟩⟩ b hb
  rcases Qw.mp hb with z|hb
  ·subst z;exact⟨_,hE,rfl⟩
  ·rcases Qw.mp hb with z|hb
   ·subst z;exact⟨o,ho,by unfold bI;rw[hd]⟩
   ·rw[QB.mp hb];exact⟨o',KS,by unfold bI;rw[JX]⟩
 ·rintro i d vals hd ⟨t,x,hx,rfl⟩
  obtain⟨d',JX,rfl⟩:=gc hd;refine ay (JL.get JX) λv' e rv=>?_;have hx:vs.toArray[i]? = some x:=hx;rw[Q6,e]at hx;obtain rfl:=QG hx;exact⟨_,rfl,.cons (.int _ _) (.cons (rv.mono (ai Uh.keep)) .nil)⟩
end
noncomputable abbrev iQ(KD:List PySem.Expr)(ZV:Env):Sem Bool:=forIn KD true λc r=>if r=true then do let ok <-isTrue c ZV (eval c ZV);pure (ForInStep.yield ok)else pure (ForInStep.yield r)
theorem qd{R:Result->Shared->Prop}{J4 target iter:PySem.Expr}{it acc:Value}{ZV:Env}(I:Nat->Shared->Prop)(turn:∀n s,I n s->∀E:Value->Shared->Prop,wpAny (model P0 w) A (pyNext it) (λr HX=>match r with
   |none=>R (.ok .next) HX
   |some v=>wpAny (model P0 w) A (letOwnedTupleGo target it v) (λU UX=>wpAny (model P0 w) A (assign target ZV v) (λU Ug=>
     wpAny (model P0 w) A (iQ KD ZV) (λok Ui=>
      if ok=true then wpAny (model P0 w) A (eval J4 ZV) (λx Un=>
       wpAny (model P0 w) A (call (.builtin "list.append") [acc,x]) (λU UE=>∃m,m<n/\I m UE) E Un) E Ui
      else ∃m,m<n/\I m Ui) E Ug) E UX) E HX) E s)(n:Nat)(h:I n s):
  codeAny (model P0 w) A (.compLoop (.ListComp J4 [⟨target,iter,KD,0⟩] scope pos) 0 it acc ZV) R s:=by
 refine codeAny_loop rfl I (λn s hI=>?_) n h;show wpAny _ A ((compTurn (.ListComp J4 [⟨target,iter,KD,0⟩] scope pos) 0 it acc ZV).onRaise (λx=>do noteFrame x ZV;theTreesLotGoes x)) _ _ s;refine wpAny_noted ?_;rw[compTurn_list];refine GA (Tv (GA (Rt (turn n s hI _) (λr HX UY=>?_) λU U h'=>h')));rcases r with _|v
 ·exact QD UY
 ·refine GA (Rt UY (λU UX Vb=>?_) λU U h'=>h')
  refine GA (Rt Vb (λU Ug Up=>GA (Rt Up (λok Ui UI=>?_) λU U h'=>h')) λU U h'=>h');rcases ok with _|_
  ·exact QD ⟨rfl,UI⟩
  ·exact GA (GA (Rt UI (λx Un Ul=>GA (Rt Ul (λU UE UF=>QD (QD ⟨rfl,UF⟩)) λU U h'=>h')) λU U h'=>h'))
noncomputable def dG(ZV:Env):List (Str×NameKind)->List (Str×Addr)->List (Str×Addr)
 |[],acc=>acc
 |(n,k)::r,acc=>if k==.free then dG ZV r ((n,(ZV.cells.lookup n).getD 0)::acc)else dG ZV r acc
theorem lK{ZV:Env}{n:Str}{k:NameKind}{r:List (Str×NameKind)}{acc:List (Str×Addr)}:dG ZV ((n,k)::r) acc=if k==.free then dG ZV r ((n,(ZV.cells.lookup n).getD 0)::acc)else dG ZV r acc:=rfl
theorem um{ZV:Env}(f:Str×NameKind->List (Str×Addr)->Sem (ForInStep (List (Str×Addr))))(hf:∀name kind cells,f (name,kind) cells=if kind==.free then(do let a <-cellOf ZV name;pure (.yield ((name,a)::cells)))else pure (.yield cells)):
  ∀(names:List (Str×NameKind))(acc:List (Str×Addr)),(∀p∈names,p.2=.free->∃c,ZV.cells.lookup p.1=some c)->forIn names acc f=pure (dG ZV names acc):=by
 intro X_;induction X_ with
 |nil=>intro acc _;rw[List.forIn_nil];rfl
 |cons q_ r IH=>
  intro acc h;obtain⟨n,k⟩:=q_;rw[SJ,hf,lK];have ih:=λacc=>IH acc λp hp=>h p (.tail _ hp);rcases e:k==.free with _|_
  ·rw[Q5 Rc,Q5 Rc];exact ih acc
  ·refine xE (h (n,k) (.head _) (eq_of_beq e)) λc hc=>?_
   have hc:ZV.cells.lookup n=some c:=hc;unfold cellOf;rw[Rb rfl,Rb rfl,hc];exact ih _
theorem oo{ZV:Env}(h:∀p∈scope.names,p.2=.free->∃c,ZV.cells.lookup p.1=some c):closureFor scope ZV=pure (dG ZV scope.names []):=by unfold closureFor;show forIn scope.names [] _ >>= _=_;rw[um (ZV:=ZV) _ (λname kind cells=>rfl) _ _ h];rfl
theorem wW{ZV:Env}:∀(names:List (Str×NameKind))(acc:List (Str×Addr))(p:Str×Addr),(∀p∈names,p.2=.free->∃c,ZV.cells.lookup p.1=some c)->p∈dG ZV names acc->p∈acc\/((p.1,NameKind.free)∈names/\ZV.cells.lookup p.1=some p.2):=by
 intro X_;induction X_ with
 |nil=>intro acc p _ hp;exact .inl hp
 |cons q_ r IH=>
  intro acc p h hp;obtain⟨n,k⟩:=q_;rw[lK]at hp;split at hp
  ·rename_i e
   refine xE (h (n,k) (.head _) (eq_of_beq e)) λc hc=>?_;have hc:ZV.cells.lookup n=some c:=hc;rcases IH _ p (λp hp=>h p (.tail _ hp)) hp with q|q
   ·rcases Qw.mp q with q|q
    ·subst q
     refine .inr ⟨by rw[<-eq_of_beq e];exact .head _,?_⟩;simp[hc]
    ·exact .inl q
   ·exact .inr ⟨.tail _ q.1,q.2⟩
  ·rcases IH _ p (λp hp=>h p (.tail _ hp)) hp with q|q
   ·exact .inl q
   ·exact .inr ⟨.tail _ q.1,q.2⟩
theorem wU{ZV:Env}:∀(names:List (Str×NameKind))(acc:List (Str×Addr))(y:Str),(acc.lookup y).isSome=true->((dG ZV names acc).lookup y).isSome=true:=by
 intro X_;induction X_ with
 |nil=>intro _ _ h;exact h
 |cons q_ r IH=>
  intro acc y h;obtain⟨n,k⟩:=q_;rw[lK];split
  ·refine IH _ y ?_
   rw[Sx];split<;>first|rfl|exact h
  ·exact IH _ y h
theorem wV{ZV:Env}:∀(names:List (Str×NameKind))(acc:List (Str×Addr))(y:Str),(y,NameKind.free)∈names->((dG ZV names acc).lookup y).isSome=true:=by
 intro X_;induction X_ with
 |nil=>intro v0_ v1_ v2_;contradiction
 |cons q_ r IH=>
  intro acc y h;obtain⟨n,k⟩:=q_;rw[lK];rcases Qw.mp h with e|h
  ·cases e
   rw[Rb (by rfl)];refine wU r _ _ ?_;rw[Sx];simp
  ·split
   ·exact IH _ y h
   ·exact IH _ y h
theorem gV:∀(names:List (Str×NameKind))(N:Nat)(acc:List (Str×Addr)),cellsFrom N names acc=cellsFrom N names []++acc:=by
 intro X_;induction X_ with
 |nil=>intro _ _;exact rfl
 |cons q_ r IH=>
  intro N acc;obtain⟨n,k⟩:=q_;unfold cellsFrom;split
  ·rw[IH (N+1) ((n,N)::acc),IH (N+1) [(n,N)]]
   simp
  ·exact IH N acc
theorem on:∀(names:List (Str×NameKind))(N:Nat)(p:Str×Addr),p∈cellsFrom N names []->(p.1,NameKind.cell)∈names:=by
 intro X_;induction X_ with
 |nil=>intro v0_ v1_ v2_;contradiction
 |cons q_ r IH=>
  intro N p h;obtain⟨n,k⟩:=q_;unfold cellsFrom at h;split at h
  ·rename_i e
   rw[gV]at h;rcases Qz.mp h with h|h
   ·exact .tail _ (IH _ p h)
   ·rw[QB.mp h,<-eq_of_beq e];exact .head _
  ·exact .tail _ (IH _ p h)
section
variable{M:Model}{A:Around}{E:Ω}{s:Shared}
theorem s4{globals:Addr}{cl:List (Str×Addr)}{qual:Str}{ZV:Env}{Q:Env->Shared->Prop}(hQ:∀h',(∀b o,s.heap.get? b=some o->h'.get? b=some o)->h'.Ns s.heap.objs.size (λU=>none)->CellsOk h' (s.heap.objs.size+1) (cellsFrom (s.heap.objs.size+1) scope.names [])->
   Q { scope,locals:=s.heap.objs.size,globals,cells:=cellsFrom (s.heap.objs.size+1) scope.names []++cl,qual,func:=none,code:=ZV.code,frame:=ZV.frame,builtins:=ZV.builtins } { s with heap:=h' }):
  wpAny M A (newFunctionEnv scope globals cl [] qual none .none (some ZV)) Q E s:=by
 simp only[newFunctionEnv,Option.isSome_some,if_true];refine GA (wpAny_alloc ?_);refine GA (wpAny_layCells _ (λname kind cells=>by cases hkc:kind==NameKind.cell<;>simp[hkc]) _ _ _ _ ?_);have ok:=cellsFrom_ok scope.names (s.heap.push { cls:=.type "dict",data:=.dict #[] }) (s.heap.objs.size+1) [] ⟨λU U hm=>(nomatch hm),List.Pairwise.nil⟩ (by rw[Rq];exact QO _);rw[Rq]at ok;rw[show({ s with heap:=s.heap.push { cls:=.type "dict",data:=.dict #[] } }:Shared).heap.objs.size=s.heap.objs.size+1 from Rq ..];rw[List.forIn_nil];refine GA (QD (QD ?_));rw[gV];exact hQ _ (λb o e=>pushCells_keeps _ _ b o (QF _ e)) ((Heap.Ns.new s.heap (.type "dict")).keeps (pushCells_keeps _ _)) ok
end
structure jh(w:World)(wr:List Str)(ZV:Env)(names:List Str)(ms:List Addr)(O:St)(h:Heap):Prop where
 ex:∃m,(∃ml,h.Ns ZV.locals ml/\(∀x,ZV.kindOf x=some .local->ml x=m x)/\ml "_headers" = none)/\(∀x c,(ZV.kindOf x=some .cell\/ZV.kindOf x=some .free)->ZV.cells.lookup x=some c->h.IsCell c (m x))/\ar w h ms m names O []
 has:∀x,(ZV.kindOf x=some .cell\/ZV.kindOf x=some .free)->∃c,ZV.cells.lookup x=some c
 apart:ZV.cells.Pairwise λx y=>x.2≠y.2
 off:∀p∈ZV.cells,p.2≠ZV.locals
 old:∀a∈ms,(∃o,h.get? a=some o)/\a≠ZV.locals/\∀x∈wr,ZV.cells.lookup x≠some a
theorem jh.rel{ZV:Env}{names:List Str}(R:jh w wr ZV names ms O h):aC w wr ZV names (under wr ZV [] h) ms [] O h:=by
 refine eG R.ex λm hn hc S=>?_;refine⟨⟨m,⟨hn,hc,R.has,R.apart,R.off,λb o e=>TH _ e,Sm _ (QH),λx hx cl hc=>Sm _ (QA _ (QM _ (Rn.mpr ⟨x,hx,hc⟩)))⟩,by rw[QN];exact S⟩,Rs,nofun,λa ha=>?_,nofun⟩;obtain⟨⟨o,e⟩,h1,h2⟩:=R.old a ha;refine⟨o,RJ _ e λz=>?_⟩;rcases Qw.mp z with z|z
 ·exact h1 z
 ·rcases Qz.mp z with z|z
  ·exact ay (Rn.mp z) λx hx hc=>h2 x hx hc
  ·contradiction
theorem aC.core{ZV:Env}{names:List Str}{H h:Heap}(R:aC w wr ZV names H ms [] O h):jh w wr ZV names ms O h:=by
 refine b9.el R.ex λm F S=>?_;rw[QN]at S;refine⟨⟨m,F.ns,F.cell,S⟩,F.has,F.apart,F.off,λa ha=>?_⟩;refine xE (R.old a ha) λo e=>?_;refine⟨⟨o,F.keep _ _ e⟩,λz=>?_,λx hx z=>?_⟩
 ·subst z;rw[F.above]at e;exact nS e
 ·rw[F.Z1 x hx a z]at e;exact nS e
noncomputable def iN(o:Obj):Bool:=match o.data with|.seq ..=>true|_=>false
theorem jh.stepL{ZV:Env}{names:List Str}{Xs:List Addr}(R:jh w wr ZV names ms O h)(hX:∀X∈Xs,X∈ms)(k:∀b o,lQ o=false->b∉Xs->h.get? b=some o->h'.get? b=some o)(keep:∀a∈ms,∃o,h'.get? a=some o)(Xi:∀X∈Xs,∃o,h.get? X=some o/\iN o=true):jh w wr ZV names ms O h':=by
 obtain⟨m,⟨ml,hn,hl⟩,hc,S⟩:=R.ex;have sk:am (less h ms) (less h' ms):=λa o q e=>by rw[ab]at e ⊢;exact⟨e.1,k _ _ (mR q) (λz=>e.1 (hX _ z)) e.2⟩
 refine⟨⟨m,⟨ml,?_,hl⟩,λx c hk J8=>?_,?_⟩,R.has,R.apart,R.off,λa ha=>⟨keep a ha,(R.old a ha).2⟩⟩
 ·refine jy hn λo es ep ho hd r=>?_
  refine⟨o,es,ep,k _ _ (by unfold lQ;rw[hd]) (λz=>?_) ho,hd,r⟩;refine ay (Xi _ z) λoX eX qX=>?_;rw[eX]at ho;obtain rfl:=QG ho;unfold iN at qX;rw[hd]at qX;contradiction
 ·refine ay (hc x c hk J8) λo ho hd=>?_
  refine⟨o,k _ _ (by unfold lQ;rw[hd]) (λz=>?_) ho,hd⟩;refine ay (Xi _ z) λoX eX qX=>?_;rw[eX]at ho;obtain rfl:=QG ho;unfold iN at qX;rw[hd]at qX;contradiction
 ·exact ar.off sk nofun (Z 5) S
theorem jh.step{ZV:Env}{names:List Str}{X:Addr}(R:jh w wr ZV names ms O h)(hX:X∈ms)(k:∀b o,lQ o=false->b≠X->h.get? b=some o->h'.get? b=some o)(keep:∀a∈ms,∃o,h'.get? a=some o)(Xi:∃o,h.get? X=some o/\iN o=true):jh w wr ZV names ms O h':=
 R.stepL (Xs:=[X]) (λY hY=>QB.mp hY▸hX) (λb o hf hb=>k b o hf λz=>hb (QB.mpr z)) keep λY hY=>QB.mp hY▸Xi
noncomputable def aP(scope sc:Scope):Scope:=
 { scope with names:=scope.names.map λ(n,k)=>if(k==.free&&sc.kind==.function&&sc.names.lookup n==some .cell)then(n,.cell)else(n,k) }
section
variable(T:a6)(c:Cx)
structure dc(O:St)(KD:List PySem.Expr)(b:Bool):Prop where
 run:∀{w:World}{A:Around}{ZV:Env}{Hy:Heap}{ms₀ as:List Addr}{s:Shared}{Q:Bool->Shared->Prop}{E:Ω},
  ∀(ok:aD c ZV)(tp:T.Tp w Hy)(R:aZ c.n A)(JE:aC w c.wr ZV c.names Hy ms₀ as O s.heap)(q:∀s',ao s s'->Q b s'),wpAny (model P0 w) A (iQ KD ZV) Q E s
end
section
variable{T:a6}{c c':Cx}{O:St}{P:dL}
theorem aw:dc T c O [] true:=⟨@λw A ZV Hy ms₀ as s Q E ok tp R JE q=>QD (q s (ao.refl s))⟩
theorem tL{ZV:Env}:∀(KD:List PySem.Expr),(forIn KD false λc r=>if r=true then do let ok <-isTrue c ZV (eval c ZV);pure (ForInStep.yield ok)else pure (ForInStep.yield r):Sem Bool)=pure false:=by
 intro X_;induction X_ with
 |nil=>exact rfl
 |cons x xs IH=>rw[SJ];simp only[TU,TV];exact IH
theorem ci{x:PySem.Expr}{xs:List PySem.Expr}{a b:Bool}(h:Tr T c O x a)(h':a=true->dc T c O xs b):dc T c O (x::xs) (a&&b):=by
 constructor;intros;show wpAny _ A (forIn (x::xs) true _) Q E s;rw[SJ];simp only[if_true];refine GA (GA (h.run ok tp R JE λHX Uf=>QD ?_));cases a with
 |true=>exact(h' rfl).run ok tp R (JE.grow Uf.keep) λUg Uh=>q Ug (Uf.trans Uh)
 |false=>show wpAny _ A (forIn xs false _) Q E HX;rw[tL xs];exact QD (q HX Uf)
noncomputable def lu:Option NameKind->Bool|some .cell=>true|some .free=>true|_=>false
theorem lP{k:Option NameKind}(h:lu k=true):k=some .cell\/k=some .free:=by
 rcases k with _|k
 ·contradiction
 ·cases k<;>first|exact .inl rfl|exact .inr rfl|contradiction
theorem x3:∀{fr:List Str}{fs:List D},fr.length=fs.length->(∀q∈fr.zip fs,∃v,m q.1=some v/\RV (less h ms) q.2 v)->ar w h ms m fr (fs.map .val) []:=by
 intro fr;induction fr with
 |nil=>intro fs hl _;obtain rfl:=Ri.mp hl.symm;exact rfl
 |cons x fr ih=>
  intro fs hl hm;rcases fs with _|⟨d,fs⟩
  ·contradiction
  ·exact⟨hm (x,d) (.head _),ih (Nat.succ.inj hl) λq hq=>hm q (.tail _ hq)⟩
theorem x0(S:ar w h ms m fr Wj []):∀(own:List Str),ar w h ms m (own++fr) (own.map (λU=>Slot.no)++Wj) []:=by
 intro X_;induction X_ with
 |nil=>exact S
 |cons x own IH=>exact IH
end
theorem cm{α:Type}:∀{l:List (Str×α)}{x:Str}{k:α},(l.map (·.1)).Nodup->(x,k)∈l->l.lookup x=some k:=by
 intro X_;induction X_ with
 |nil=>intro v0_ v1_ v2_ v3_;contradiction
 |cons q_ r IH=>
  intro x k nd h;obtain⟨y,k'⟩:=q_;have Ke:=QY.mp nd;rw[Sx];rcases Qw.mp h with e|h
  ·cases e;simp
  ·have:(x==y)=false:=by
    rcases e:x==y with _|_
    ·rfl
    ·rw[eq_of_beq e]at h
     exact absurd (QR.mpr ⟨_,h,rfl⟩) Ke.1
   rw[this];exact IH Ke.2 h
theorem qF{α:Type}{l:List (Str×α)}{k k':α}(nd:(l.map (·.1)).Nodup)(h:(x,k)∈l)(h':(x,k')∈l):k=k':=by
 have:=(cm nd h).symm.trans (cm nd h')
 obtain rfl:=QG this;rfl
theorem gP{k':NameKind}(h:(aP scope sc).names.lookup x=some k'):∃k,(x,k)∈scope.names/\(k'=k\/(k=.free/\k'=.cell)):=by
 have h:=mem_of_lookup h;obtain⟨⟨n,k⟩,hm,he⟩:=QR.mp h;dsimp only at he;split at he
 ·rename_i q
  cases he
  refine⟨_,hm,.inr ⟨?_,rfl⟩⟩;simp only[R9,beq_iff_eq]at q;exact q.1.1
 ·cases he
  exact⟨_,hm,.inl rfl⟩
theorem uW(scope sc:Scope):(aP scope sc).names.map (·.1)=scope.names.map (·.1):=by unfold aP;rw[QZ];refine Ra λp U=>?_;obtain⟨n,k⟩:=p;dsimp only[Function.comp];split<;>rfl
theorem uV(nd:(scope.names.map (·.1)).Nodup)(h:(x,NameKind.cell)∈scope.names):(aP scope sc).names.lookup x=some .cell:=by refine cm (by rw[uW];exact nd) ?_;exact QR.mpr ⟨(x,.cell),h,by simp⟩
theorem uo{ZV:Env}(ap:ZV.cells.Pairwise λx y=>x.2≠y.2):∀(names:List (Str×NameKind))(acc:List (Str×Addr)),(∀p∈names,p.2=.free->∃c,ZV.cells.lookup p.1=some c)->(names.map (·.1)).Nodup->
  (∀p∈acc,p.1∉names.map (·.1)/\ZV.cells.lookup p.1=some p.2)->acc.Pairwise (λx y=>x.2≠y.2)->(dG ZV names acc).Pairwise λx y=>x.2≠y.2:=by
 intro X_;induction X_ with
 |nil=>intro _ _ _ _ h;exact h
 |cons q_ r IH=>
  intro acc hx nd ha hp;obtain⟨n,k⟩:=q_;have Ke:=QY.mp nd;have ha':∀p∈acc,p.1∉r.map (·.1)/\ZV.cells.lookup p.1=some p.2:=λp hp=>⟨λz=>(ha p hp).1 (.tail _ z),(ha p hp).2⟩;unfold dG;split
  ·rename_i e
   refine xE (hx (n,k) (.head _) (eq_of_beq e)) λc hc=>?_;have hc:ZV.cells.lookup n=some c:=hc;refine IH _ (λp hp=>hx p (.tail _ hp)) Ke.2 (λp hp=>?_) (SO.mpr ⟨λy hy z=>?_,hp⟩)
   ·rcases Qw.mp hp with e|hp
    ·subst e;exact⟨Ke.1,by simp[hc]⟩
    ·exact ha' p hp
   ·have z:c=y.2:=by simpa[hc]using z
    have:=name_of_addr ap (mem_of_lookup hc) (z▸mem_of_lookup (ha y hy).2)
    exact(ha y hy).1 (this▸.head _)
  ·exact IH acc (λp hp=>hx p (.tail _ hp)) Ke.2 ha' hp
theorem nh{α:Type}:∀(l l':List (Str×α)),(l++l').lookup x=(l.lookup x).or (l'.lookup x):=by
 intro X_;induction X_ with
 |nil=>intro _;simp
 |cons q_ r IH=>intro l';obtain⟨n,k⟩:=q_;rw[RY,Sx,Sx,IH l'];split<;>simp
theorem zc{names:List Str}:∀{fi:List Nat}{fr:List Str}{fs:List D},fr.length=fs.length->fi.map (λi=>(names[i]?,O[i]?))=(fr.zip fs).map (λq=>(some q.1,some (Slot.val q.2)))->∀q∈fr.zip fs,∃i:Nat,names[i]? = some q.1/\O[i]? = some (Slot.val q.2)
 |_,[],_,_,_,q,hq=>by simp at hq
 |_,_::_,[],hl,_,q,hq=>by simp at hl
 |[],_::_,_::_,_,he,_,_=>by simp at he
 |i::fi,x::fr,d::fs,hl,he,q,hq=>by
  simp only[QW,TT,TY,T3]at he;rw[TT]at hq;rcases Qw.mp hq with e|hq
  ·subst e;exact⟨i,he.1.1,he.1.2⟩
  ·exact zc (by simpa using hl) he.2 q hq
abbrev Ω6(c:Cx)(O:St)(fi:List Nat)(fr:List Str)(fs:List D):Prop:=fi.map (λi=>(c.names[i]?,O[i]?))=(fr.zip fs).map λq=>(some q.1,some (Slot.val q.2))
abbrev Ω7(scope:Scope)(c:Cx):Prop:=∀q∈scope.names,q.2=.free->lu (c.sc.names.lookup q.1)=true
theorem uu{ZV:Env}{Hy Up Ul:Heap}{ms₀ as:List Addr}{oD:Obj}(ok:aD c ZV)(JE:aC w c.wr ZV c.names Hy ms₀ as O Up)(KR:Ω7 scope c)(JV:(scope.names.map (·.1)).Nodup)(J9:fr.length=fs.length)(JR:Ω6 c O fi fr fs)(K3:Ω5 .free fr scope)(KE:Ω5 .cell wr' scope)(U1:∀b o,(Up.push oD).get? b=some o->Ul.get? b=some o)(hfz:oD.isFreed=false)(hC:Ul.Ns (Up.push oD).objs.size (λU=>none))(ck:CellsOk Ul ((Up.push oD).objs.size+1) (cellsFrom ((Up.push oD).objs.size+1) scope.names []))(JH:Env)(e1:JH.scope=aP scope c.sc)(e2:JH.locals=(Up.push oD).objs.size)(e3:JH.cells=cellsFrom ((Up.push oD).objs.size+1) scope.names []++dG ZV scope.names []):
  jh w wr' JH (own++fr) (Up.objs.size::(ms₀++as)) (own.map (λU=>Slot.no)++fs.map .val) Ul/\(∀b o,Up.get? b=some o->b≠JH.locals/\∀x∈wr',JH.cells.lookup x≠some b)/\(Up.objs.size≠JH.locals/\∀x∈wr',JH.cells.lookup x≠some Up.objs.size):=by
 have hz:(Up.push oD).objs.size=Up.objs.size+1:=Rq ..;refine b9.el JE.ex λm F S=>?_;have Kz:∀p∈scope.names,p.2=.free->∃c,ZV.cells.lookup p.1=some c:=λp hp hk=>F.has p.1 (by rw[ok.kindOf];exact lP (KR p hp hk));have kd:∀x,JH.kindOf x=(aP scope c.sc).names.lookup x:=λx=>by unfold Env.kindOf;rw[e1]
 have k₂:∀b o,Up.get? b=some o->Ul.get? b=some o:=λb o e=>U1 b o (QF _ e);have ML:∀p∈dG ZV scope.names [],(p.1,NameKind.free)∈scope.names/\ZV.cells.lookup p.1=some p.2:=λp hp=>by
  rcases wW _ _ p Kz hp with q|q
  ·contradiction
  ·exact q
 have Pa:∀p∈dG ZV scope.names [],p.2<Up.objs.size:=λp hp=>by refine xA (ML p hp) λh1 h2=>?_;exact(F.cell p.1 p.2 (by rw[ok.kindOf];exact lP (KR _ h1 rfl)) h2).lt
 have lk:∀x c',JH.cells.lookup x=some c'->((x,NameKind.cell)∈scope.names/\Ul.IsCell c' none/\(Up.push oD).objs.size+1<=c')\/((x,NameKind.free)∈scope.names/\ZV.cells.lookup x=some c'):=λx c' h=>by
  rw[e3,nh]at h;cases q:(cellsFrom ((Up.push oD).objs.size+1) scope.names []).lookup x with
  |some V9=>
   rw[q]at h;obtain rfl:=QG h
   have:=mem_of_lookup q
   exact .inl ⟨on _ _ _ this,ck.empty _ _ this⟩
  |none=>rw[q]at h;exact .inr (ML _ (mem_of_lookup h))
 have Yx:∀x∈wr',∀b,JH.cells.lookup x=some b->(Up.push oD).objs.size+1<=b:=λx hx b h=>by
  rcases lk x b h with q|q
  ·exact q.2.2
  ·have:=qF JV q.1 (KE x hx)
   contradiction
 have K9:∀b,b<(Up.push oD).objs.size->b≠JH.locals/\∀x∈wr',JH.cells.lookup x≠some b:=λb hb=>by
  refine⟨by rw[e2];exact RW hb,λx hx h=>?_⟩
  have:=Yx x hx b h
  lia
 refine⟨⟨?_,?_,?_,?_,?_⟩,λb o e=>K9 b (by rw[hz];exact RN (Rx e)),K9 _ (by rw[hz];exact Rf _)⟩
 ·open Classical in
  refine⟨λx=>if(x,NameKind.free)∈scope.names then m x else none,⟨λU=>none,by rw[e2];exact hC,λx hx=>?_,rfl⟩,λx c' hk O5=>?_,?_⟩
  ·rw[kd]at hx
   refine ay (gP hx) λk hm hq=>?_;rcases hq with rfl|⟨_,q⟩
   ·exact(Q5 λz=>by have:=qF JV hm z;contradiction).symm
   ·contradiction
  ·rcases lk x c' O5 with q|q
   ·show Ul.IsCell c' (if(x,NameKind.free)∈scope.names then m x else none)
    rw[Q5 λz=>by have:=qF JV q.1 z;contradiction];exact q.2.1
   ·show Ul.IsCell c' (if(x,NameKind.free)∈scope.names then m x else none)
    rw[Rb q.1];exact(F.cell x c' (by rw[ok.kindOf];exact lP (KR _ q.1 rfl)) q.2).keeps k₂
  ·refine x0 (x3 J9 λq hq=>?_) own
   refine ay (zc J9 JR q hq) λi h1 h2=>?_;refine ay (S.val h1 h2) λv hv rv=>?_;refine⟨v,?_,rv.mono λa o s e=>?_⟩
   ·exact(Rb (K3 _ (Ta hq).1)).trans hv
   ·rw[ab]at e ⊢
    refine⟨λz=>?_,k₂ _ _ e.2⟩;rcases Qw.mp z with z|z
    ·exact ni e.2 z
    ·exact e.1 z
 ·intro x hx
  rw[kd]at hx;refine RU.mp ?_;rw[e3,nh]
  have:∃k,(x,k)∈scope.names/\(k=.cell\/k=.free):=by
   rcases hx with hx|hx
   ·refine ay (gP hx) λk hm hq=>?_
    rcases hq with rfl|⟨q,_⟩
    ·exact⟨_,hm,.inl rfl⟩
    ·exact⟨_,hm,.inr q⟩
   ·refine ay (gP hx) λk hm hq=>?_
    rcases hq with rfl|⟨_,q⟩
    ·exact⟨_,hm,.inr rfl⟩
    ·contradiction
  obtain⟨k,hm,rfl|rfl⟩:=this
  ·have:=cK scope.names ((Up.push oD).objs.size+1) [] x (cm JV hm)
   rcases e:(cellsFrom ((Up.push oD).objs.size+1) scope.names []).lookup x with _|_
   ·rw[e]at this;contradiction
   ·rfl
  ·have:=wV (ZV:=ZV) scope.names [] x hm
   rcases e:(cellsFrom ((Up.push oD).objs.size+1) scope.names []).lookup x with _|_
   ·simpa using this
   ·rfl
 ·rw[e3]
  refine List.pairwise_append.mpr ⟨ck.apart,uo F.apart _ _ Kz JV nofun .nil,λa ha b hb z=>?_⟩;have h1:=(ck.empty a.1 a.2 ha).2;have h2:=Pa b hb;rw[z]at h1;have h3:Up.objs.size<=(Up.push oD).objs.size+1:=by rw[hz];exact QC (SF _) (SF _)
  exact Ts _ (RS h2 (QC h3 h1))
 ·intro p hp
  rw[e3]at hp;rw[e2];rcases Qz.mp hp with hp|hp
  ·have h:=(ck.empty p.1 p.2 hp).2
   exact λz=>Ts _ (RS (Rf _) (z▸h))
  ·have h:=Pa p hp
   refine RW (TK h ?_);rw[hz];exact Rf _
 ·intro a ha
  rcases Qw.mp ha with e|ha
  ·subst e
   exact⟨⟨oD,U1 _ _ (Q2 _ hfz)⟩,K9 _ (by rw[hz];exact Rf _)⟩
  ·refine xE (JE.have a ha) λo e=>?_
   exact⟨⟨o,k₂ _ _ e⟩,K9 _ (by rw[hz];exact RN (Rx e))⟩
theorem uX{ZV:Env}(ok:aD c ZV)(scope:Scope):relabel scope ZV=aP scope c.sc:=by unfold relabel aP Env.kindOf;rw[ok.scope]
theorem fS{p:D->Bool}{f:D->D}(h:ds[i]? = some d):((ds.take (i+1)).filter p).map f=((ds.take i).filter p).map f++(if p d then[f d]else[]):=by rw[Sj,h,SP,QU];cases hp:p d<;>simp[hp]
theorem aC.offC{ZV:Env}{names:List Str}{ms₀ as:List Addr}{ml:Str->Option Value}(R:aC w wr ZV names Hy ms₀ as O h)(hs:Heap.SameBut C h h')(hn:h.Ns C ml)(hh:ml "_headers" = none)(Wl:C∉as)(hl:C≠ZV.locals)(h0:Hy.get? C=none):aC w wr ZV names Hy ms₀ as O h':=by refine b9.el R.ex λm F S=>?_;refine ay F.ns λZa L7 Lc=>?_;have pk:=qS hn hh hs;refine⟨⟨m,⟨⟨Za,L7.at' λo e=>(hs.2 _ hl.symm).trans e,Lc⟩,λx c hk hc=>?_,F.has,F.apart,F.off,λb o e=>(hs.2 b (dQ e h0)).trans (F.keep b o e),F.above,F.Z1⟩,S.off pk.less (λa ha o e=>(hs.2 a λz=>Wl (z▸ha)).trans e) λU U=>rfl⟩,R.nd,R.new,R.old,R.loc⟩;refine ay (F.cell x c hk hc) λo ho hd=>?_;refine⟨o,(hs.2 c λz=>?_).trans ho,hd⟩;subst z;refine jy hn λo' es ep KS JX U=>?_;rw[ho]at KS;obtain rfl:=QG KS;rw[hd]at JX;contradiction
theorem aX.back(h:aX g ds vs)(e:vs[i]? = some v):∃d,ds[i]? = some d/\RV g d v:=by have hl:=(Q0.mp e).1;obtain⟨u,hu,rv⟩:=h.get (i:=i) (QE (h.length▸hl));rw[e]at hu;obtain rfl:=QG hu;exact⟨_,QE (h.length▸hl),rv⟩
structure IF(b:Bool)(T:a6)(c:Cx)(O:St)(e:PySem.Expr)(d:D):Prop where
 run:∀{w:World}{A:Around}{ZV:Env}{Hy:Heap}{ms₀ as:List Addr}{s:Shared}{Q:Ω}{E:Ω},
  ∀(ok:aD c ZV)(tp:T.Tp w Hy)(R:aZ c.n A)(JE:aC w c.wr ZV c.names Hy ms₀ as O s.heap)(q:∀v s',ao s s'->RV (less s'.heap (ms₀++as)) d v->(b=true->∃a,v=.ref a/\s.heap.get? a=none)->Q v s'),wpAny (model P0 w) A (eval e ZV) Q E s
structure Bm(w:World)(A:Around)(JU:PySem.Expr)(I:Addr)(fp wr pv:List Addr)(g:eH)(ds:List D)(St:Nat->Heap->Prop):Prop where
 sub:∀b∈wr,b∈fp
 psub:∀b∈pv,b∈wr
 frame:∀i h h',St i h->(∀b∈fp,∀o,h.get? b=some o->h'.get? b=some o)->St i h'
 Z2:∀i h,St i h->∀b∈wr,b∉pv->∀o,h.get? b=some o->lQ o=true
 priv:∀i h,St i h->∀b∈pv,∃o,h.get? b=some o/\iN o=true
 plain:∀i h,St i h->∀b∈fp,∃o,h.get? b=some o/\bI o=true
 item:∀i d(s:Shared)(Q:Ω)(E:Ω),ds[i]? = some d->St i s.heap->
  (∀v s',(∀ms,am g (less s'.heap ms)->(∀a∈ms,∃o,s.heap.get? a=some o)->RV (less s'.heap ms) d v)->St (i+1) s'.heap->Bk wr s s'->Q v s')->
  wpAny (model P0 w) A (pyNext (.ref I)) (λr HX=>match r with|none=>False|some v=>wpAny (model P0 w) A (letOwnedTupleGo JU (.ref I) v) (λU Ug=>Q v Ug) E HX) E s
 done:∀(s:Shared)(Q:Option Value->Shared->Prop)(E:Ω),St ds.length s.heap->(∀s',Bk wr s s'->Q none s')->wpAny (model P0 w) A (pyNext (.ref I)) Q E s
 self:∀i(s:Shared)(Q:Ω)(E:Ω),St i s.heap->Q (.ref I) s->wpAny (model P0 w) A (pyIter (.ref I)) Q E s
theorem Wk.toP{fp wr:List Addr}{St:Nat->Heap->Prop}(wk:Wk w A JU I fp wr g ds St):Bm w A JU I fp wr [] g ds St:=
 ⟨wk.sub,λU hb=>absurd hb Q3,wk.frame,λi h st b hb U=>wk.Z2 i h st b hb,λU U U U hb=>absurd hb Q3,wk.plain,wk.item,wk.done,wk.self⟩
theorem Bm.turn{fp wr pv:List Addr}{St:Nat->Heap->Prop}(wk:Bm w A JU I fp wr pv g ds St){X:Shared->Prop}(hd:ds[i]? = some d)(st:St i s.heap)(h:∀v s',(∀ms,am g (less s'.heap ms)->(∀a∈ms,∃o,s.heap.get? a=some o)->RV (less s'.heap ms) d v)->St (i+1) s'.heap->Bk wr s s'->Y v s'):
  wpAny (model P0 w) A (pyNext (.ref I)) (λr HX=>match r with|none=>X HX|some v=>wpAny (model P0 w) A (letOwnedTupleGo JU (.ref I) v) (λU Ug=>Y v Ug) E HX) E s:=by
 refine Rt (wk.item i d s Y E hd st h) (λo Ug h=>?_) (λU U x=>x);rcases o with _|v
 ·exact h.elim
 ·exact h
structure FF(T:a6)(c:Cx)(O:St)(JU e:PySem.Expr)(ds:List D):Prop where
 run:∀{w:World}{A:Around}{ZV:Env}{Hy:Heap}{ms₀ as:List Addr}{s:Shared}{Q:Ω}{E:Ω},
  ∀(ok:aD c ZV)(tp:T.Tp w Hy)(R:aZ c.n A)(JE:aC w c.wr ZV c.names Hy ms₀ as O s.heap)(q:∀I fp wr pv St s',ao s s'->(∀b∈wr,s.heap.get? b=none)->(∀b∈fp,b∉ms₀++as)->(∀A',aZ 0 A'->Bm w A' JU I fp wr pv (less s'.heap (pv++ms₀++as)) ds St)->St 0 s'.heap->Q (.ref I) s'),wpAny (model P0 w) A (eval e ZV) (λx HX=>wpAny (model P0 w) A (pyIter x) Q E HX) E s
theorem It.toP(h:It T c O JU e ds):FF T c O JU e ds:=
 ⟨@λw A ZV Hy ms₀ as s Q E ok tp R JE q=>h.run ok tp R JE λI fp wr St s' a new off wk st=>q I fp wr [] St s' a new off (λA' R'=>(wk A' R').toP) st⟩
theorem aC.hideP{ZV:Env}{ms₀ as pv:List Addr}(ok:aD c ZV)(JE:aC w c.wr ZV c.names Hy ms₀ as O s.heap)(Uf:ao s HX)(hn:∀a∈pv,s.heap.get? a=none)(ha:∀a∈pv,∃o,HX.heap.get? a=some o):
  aC w c.wr ZV c.names (Lake.W.under c.wr ZV as HX.heap) (pv++ms₀) as O HX.heap:=by
 refine xA ((JE.grow Uf.keep).under) λKd up=>?_;refine b9.el JE.ex λUQ UA UG=>?_;have F:=UA.grow Uf.keep;refine⟨⟨UQ,⟨F.ns,F.cell,F.has,F.apart,F.off,λb o e=>TH _ e,Sm _ (QH),λx hx cl hc=>Sm _ (QA _ (QM _ (Rn.mpr ⟨x,hx,hc⟩)))⟩,?_⟩,Kd.nd,Kd.new,λb hb'=>?_,JE.loc⟩
 ·refine ar.off (λa o U e=>?_) (λb U o e=>Uf.keep _ _ e) (Z 5) UG
  rw[ab]at e ⊢;refine⟨λz=>?_,Uf.keep _ _ e.2⟩;rw[QQ]at z;rcases Qz.mp z with z|z
  ·rw[hn a z]at e;cases e.2
  ·exact e.1 z
 ·rcases Qz.mp hb' with e|hb'
  ·refine xE (ha b e) λo e'=>?_
   refine⟨o,RJ _ e' λz=>?_⟩;have hx:=hn b e;rcases Qw.mp z with z|z
   ·obtain⟨ml,⟨o',es,ep,ho,_⟩,_⟩:=UA.ns
    rw[z,ho]at hx;exact sN hx
   ·rcases Qz.mp z with z|z
    ·refine ay (Rn.mp z) λx hxw hc=>?_
     refine ay (UA.cell x _ (.inl ((ok.kindOf x).trans (ok.wrc x hxw))) hc) λo' ho U=>?_;rw[ho]at hx;exact sN hx
    ·refine xE (JE.have _ (Qy _ z)) λo' ho=>?_
     rw[ho]at hx;exact sN hx
  ·exact Kd.old b hb'
theorem jL(a:ao s Ug){b:Addr}(e:Ug.heap.get? b=none):s.heap.get? b=none:=by
 rcases q:s.heap.get? b with _|o
 ·rfl
 ·rw[a.keep _ _ q]at e;exact sN e
def rp(wr:List Addr)(h h':Heap):Prop:=∀b o,b∉wr->h.get? b=some o->h'.get? b=some o
structure ce(T:a6)(w:World)(s Ug:Shared)(old wr pv OL MS:List Addr)(cc:Cx)(JH:Env)(D:Addr)(Ul:Heap)(σ0:St):Prop where
 okC:aD cc JH
 after:ao s Ug
 fresh:∀b∈wr,s.heap.get? b=none
 dNew:Ug.heap.get? D=none
 lNew:Ug.heap.get? JH.locals=none
 loc:D≠JH.locals
 und:∀(h:Heap)b o,(Ug.heap.get? b).isSome=true\/b=D->h.get? b=some o->(under cc.wr JH [] h).get? b=some o
 tpU:∀h:Heap,rp wr Ug.heap h->T.Tp w (under cc.wr JH [] h)
 oldIn:∀a∈old,a∈OL
 pvIn:∀a∈pv,a∈OL
 olIn:∀a∈OL,a∈MS
 dIn:D∈MS
 msOf:∀a∈MS,a=D\/a∈pv\/(∃o,s.heap.get? a=some o)
 msOL:∀a∈MS,a=D\/a∈OL
 rc:jh w cc.wr JH cc.names MS σ0 Ul
 k₂:∀b o,Ug.heap.get? b=some o->Ul.get? b=some o
 hD:Ul.get? D=some (aQ "list" [] 0)
section
variable{T:a6}{w:World}{s Ug:Shared}{old wr pv OL MS:List Addr}{cc:Cx}{JH:Env}{D:Addr}{Ul:Heap}{σ0:St}
theorem ce.wrNot(en:ce T w s Ug old wr pv OL MS cc JH D Ul σ0){b:Addr}{o:Obj}(e:s.heap.get? b=some o):b∉wr:=λhb=>by rw[en.fresh b hb]at e;exact nS e
theorem ce.keep(en:ce T w s Ug old wr pv OL MS cc JH D Ul σ0)(k:rp wr Ug.heap h){b:Addr}{o:Obj}(e:s.heap.get? b=some o):h.get? b=some o:=k b o (en.wrNot e) (en.after.keep _ _ e)
theorem ce.Z7(en:ce T w s Ug old wr pv OL MS cc JH D Ul σ0)(k:rp wr Ug.heap h)(hD:∃o,h.get? D=some o)(hpv:∀a∈pv,∃o,h.get? a=some o):∀a∈MS,∃o,h.get? a=some o:=λa ha=>by
 rcases en.msOf a ha with e|e|⟨o,e⟩
 ·exact e▸hD
 ·exact hpv a e
 ·exact⟨o,en.keep k e⟩
theorem vS{o:Obj}(qs:fZ o=true)(h:lQ o=true):False:=by rw[mR qs]at h;exact fF h
theorem ce.gKeep(en:ce T w s Ug old wr pv OL MS cc JH D Ul σ0)(Z2:∀b∈wr,b∉pv->∀o,Ug.heap.get? b=some o->lQ o=true)(k:rp wr Ug.heap h):am (less Ug.heap OL) (less h MS):=λa o qs e=>by
 rw[ab]at e ⊢;refine⟨λz=>?_,k a o (λhb=>vS qs (Z2 a hb (λz=>e.1 (en.pvIn a z)) o e.2)) e.2⟩;rcases en.msOL a z with z|z
 ·rw[z,en.dNew]at e;cases e.2
 ·exact e.1 z
theorem ce.mvSeq(en:ce T w s Ug old wr pv OL MS cc JH D Ul σ0){u u':Shared}(Z2:∀b∈wr,b∉pv->∀o,u.heap.get? b=some o->lQ o=true)(mv:Bk wr u u'):am (less u.heap MS) (less u'.heap MS):=λa o qs e=>by rw[ab]at e ⊢;exact⟨e.1,mv.keep a o (λhb=>vS qs (Z2 a hb (λz=>e.1 (en.olIn a (en.pvIn a z))) o e.2)) e.2⟩
structure wM(w:World)(wr MS:List Addr)(cc:Cx)(JH:Env)(D:Addr)(Ug:Shared)(Wj:St)(vs:List Value)(n:Nat)(ds:List Lake.W.D)(s':Shared):Prop where
 rc:jh w cc.wr JH cc.names MS Wj s'.heap
 hD:s'.heap.get? D=some (aQ "list" vs n)
 Z4:aX (less s'.heap MS) ds vs
 kp:rp wr Ug.heap s'.heap
 sm:bP Ug s'
end
theorem mD{gs:List Comprehension}(JS:FF T c O JU iter items)(hn:n'<=c.n)(KR:Ω7 scope c)(JV:(scope.names.map (·.1)).Nodup)(J9:fr.length=fs.length)(JR:Ω6 c O fi fr fs)(K3:Ω5 .free fr scope)(KE:Ω5 .cell wr' scope)(nd:(own++fr).Nodup)(J1:scope.kind=.function)(hs:Ω4 iter){ZV:Env}{ms₀ as:List Addr}{use:Option (Value->Sem Unit)}(ok:aD c ZV)(tp:T.Tp w Hy)(R:aZ c.n A)(JE:aC w c.wr ZV c.names Hy ms₀ as O s.heap)(body:∀I fp wr pv OL MS St Ug D Ul JH,ce T w s Ug (ms₀++as) wr pv OL MS ⟨n',aP scope c.sc,own++fr,wr'⟩ JH D Ul (own.map (λU=>Slot.no)++fs.map .val)->
   (∀a∈MS,a=D\/a∈pv\/a∈ms₀++as)->
   Bm w A JU I fp wr pv (less Ug.heap OL) items St->St 0 Ug.heap->∀Ui:Shared,Ui.heap=Ul->bP Ug Ui->
   codeAny (model P0 w) A (.compLoop (.ListComp J4 (⟨JU,iter,KD,0⟩::gs) scope pos) 0 (.ref I) (.ref D) JH) (compPost (model P0 w) A E use Q (.ref D) JH.locals) Ui):
  wpAny (model P0 w) A (comprehension (.ListComp J4 (⟨JU,iter,KD,0⟩::gs) scope pos) scope ZV pz0 (newList []) false (eval iter ZV) use) Q E s:=by
 have Kz:∀p∈scope.names,p.2=.free->∃c,ZV.cells.lookup p.1=some c:=by refine b9.el JE.ex λm F S=>?_;exact λp hp hk=>F.has p.1 (by rw[ok.kindOf];exact lP (KR p hp hk))
 refine wpAny_comprehension_free (use:=use) (cl:=dG ZV scope.names []) rfl (hs ZV) (oo Kz) J1 (λx hx hl=>hl▸cm JV hx) (JS.run ok tp R JE λI fp wr pv St Ug Uh new off wk st=>?_);refine RK (s4 λUl U1 hC ck=>?_);have wk:=wk A (R.less (Rh _));have pvx:∀b∈pv,∃o,Ug.heap.get? b=some o:=λb hb=>by refine ay (wk.priv 0 _ st b hb) λo e U=>?_;exact⟨o,e⟩
 have Um:=JE.hideP ok Uh (λb hb=>new b (wk.psub b hb)) pvx;generalize hoD:({ cls:=.type "list",dict:=none,data:=.seq ([]:List Value).toArray }:Obj)=oD at U1 hC ck ⊢;have PC:oD=aQ "list" [] 0:=hoD.symm;rw[uX ok];have hz:(Ug.heap.push oD).objs.size=Ug.heap.objs.size+1:=Rq ..;generalize hcenv:({ scope:=aP scope c.sc,locals:=(Ug.heap.push oD).objs.size,globals:=ZV.globals,cells:=cellsFrom ((Ug.heap.push oD).objs.size+1) scope.names []++dG ZV scope.names [],qual:=ZV.qual,func:=none,code:=ZV.code,frame:=ZV.frame,builtins:=ZV.builtins }:Env)=JH;have c1:JH.scope=aP scope c.sc:=by rw[<-hcenv]
 have c2:JH.locals=(Ug.heap.push oD).objs.size:=by rw[<-hcenv]
 have c3:JH.cells=cellsFrom ((Ug.heap.push oD).objs.size+1) scope.names []++dG ZV scope.names []:=by rw[<-hcenv]
 have c4:JH.globals=ZV.globals:=by rw[<-hcenv]
 have c5:JH.builtins=ZV.builtins:=by rw[<-hcenv]
 rw[<-c2];refine jd (uu (own:=own) (wr':=wr') ok Um KR JV J9 JR K3 KE U1 (by rw[PC];rfl) hC ck JH c1 c2 c3) λRC Yc WD=>?_;have und:∀(h:Heap)b o,(Ug.heap.get? b).isSome=true\/b=Ug.heap.objs.size->h.get? b=some o->(under wr' JH [] h).get? b=some o:=λh b o hb e=>by
  have hb:b≠JH.locals/\∀x∈wr',JH.cells.lookup x≠some b:=by
   rcases hb with hb|hb
   ·exact xE (RU.mp hb) λo' e'=>Yc b o' e'
   ·subst hb;exact WD
  refine RJ _ e λz=>?_;rcases Qw.mp z with z|z
  ·exact hb.1 z
  ·rcases Qz.mp z with z|z
   ·exact ay (Rn.mp z) λx hx hc=>hb.2 x hx hc
   ·contradiction
 have lNew:Ug.heap.get? JH.locals=none:=by rw[c2];exact aK (by rw[hz];exact SF _)
 have tpU:∀h:Heap,rp wr Ug.heap h->T.Tp w (under wr' JH [] h):=λh k=>T.keeps _ _ _ tp λb o e=>by refine b9.el JE.ex λm F S=>?_;have Vv:=F.keep b o e;have h1:=Uh.keep _ _ Vv;exact und h b o (.inl (by rw[h1];rfl)) (k b o (λhb=>by rw[new b hb]at Vv;exact nS Vv) h1)
 have msOf:∀a∈Ug.heap.objs.size::(pv++ms₀++as),a=Ug.heap.objs.size\/a∈pv\/(∃o,s.heap.get? a=some o):=λa ha=>by
  rcases Qw.mp ha with e|ha
  ·exact .inl e
  ·rw[QQ]at ha
   exact .inr ((Qz.mp ha).imp id λha=>JE.have a ha)
 have en:ce T w s Ug (ms₀++as) wr pv (pv++ms₀++as) (Ug.heap.objs.size::(pv++ms₀++as)) ⟨n',aP scope c.sc,own++fr,wr'⟩ JH Ug.heap.objs.size Ul (own.map (λU=>Slot.no)++fs.map .val):=
  ⟨⟨c1,c4.trans ok.globals,c5.trans ok.builtins,J1,nd,λx hx=>uV JV (KE x hx)⟩,Uh,new,aK (QO _),lNew,WD.1,und,tpU,λa ha=>by rw[QQ];exact Qy _ ha,λa ha=>QM _ (QM _ ha),λa ha=>QA _ ha,QH,msOf,λa ha=>Qw.mp ha,RC,λb o e=>U1 b o (QF _ e),by rw[U1 _ _ (Q2 _ (by rw[PC];rfl)),PC]⟩
 have WQ:=body I fp wr pv _ _ St Ug _ Ul JH en (λa ha=>by
  rcases Qw.mp ha with e|ha
  ·exact .inl e
  ·rw[QQ]at ha
   exact .inr (Qz.mp ha)) wk st
 exact codeAny_compStart_list (WQ _ rfl ⟨rfl,rfl,rfl⟩) (wk.self 0 _ _ _ (wk.frame _ _ _ st λb U o e=>en.k₂ b o e) (WQ _ rfl ⟨rfl,rfl,rfl⟩))
inductive NU(b:Bool)(items:List Lake.W.D)(p:Lake.W.D->Bool)(f:Lake.W.D->Lake.W.D)(g:Lake.W.D->Lake.W.St)(w:World)(s Ug:Shared)(wr MS:List Addr)(St:Nat->Heap->Prop)(cc:Cx)(JH:Env)(D:Addr)(σ0:Lake.W.St)(k:Nat)(s':Shared):Prop
 |mk (i:Nat) (Wj:Lake.W.St) (vs:List Value) (n:Nat) (hk:k=items.length-i) (hi:i<=items.length) (hσ:Wj=σ0\/∃d'∈items,Wj=g d') (V:wM w wr MS cc JH D Ug Wj vs n (((items.take i).filter p).map f) s') (st:St i s'.heap) (nw:b=true->vs.Nodup/\∀v∈vs,∃a,v=.ref a/\s.heap.get? a=none):NU b items p f g w s Ug wr MS St cc JH D σ0 k s'
theorem ut{b:Bool}{p:D->Bool}{f:D->D}{g:D->St}{old fp wr pv OL MS:List Addr}{St:Nat->Heap->Prop}{cc:Cx}{I D:Addr}{σ0:Lake.W.St}{X:Result->Shared->Prop}(en:ce T w s Ug old wr pv OL MS cc JH D Ul σ0)(wk:Bm w A JU I fp wr pv (less Ug.heap OL) items St)(st:St 0 Ug.heap)(R:aZ cc.n A)(hsz:items.length<=sizeLine)(hT:∀d∈items,∀Wj,Wj=σ0\/(∃d'∈items,Wj=g d')->Tg cc Wj JU d (g d))(hb:∀d∈items,dc T cc (g d) KD (p d))(he:∀d∈items,p d=true->IF b T cc (g d) J4 (f d))(K4:b=true->∀d∈items,∃ds,f d=.list ds)(Ks:∀s' ml vs n,rp wr Ug.heap s'.heap->bP Ug s'->s'.heap.get? D=some (aQ "list" vs n)->aX (less s'.heap MS) ((items.filter p).map f) vs->s'.heap.Ns JH.locals ml->ml "_headers" = none->(b=true->vs.Nodup/\∀v∈vs,∃a,v=.ref a/\s.heap.get? a=none)->X (.ok .next) s')(U2:Ui.heap=Ul)(Ut:bP Ug Ui):
  codeAny (model P0 w) A (.compLoop (.ListComp J4 [⟨JU,iter,KD,0⟩] scope pos) 0 (.ref I) (.ref D) JH) X Ui:=by
 subst U2;refine qd (I:=NU b items p f g w s Ug wr MS St cc JH D σ0) ?_ (items.length-0)
  ⟨0,_,[],0,rfl,Rh _,.inl rfl,⟨en.rc,en.hD,.nil,λb o U e=>en.k₂ b o e,Ut⟩,wk.frame _ _ _ st λb U o e=>en.k₂ b o e,λU=>⟨.nil,λU h=>absurd h Q3⟩⟩
 rintro k s' ⟨i,Wj,vs,n,rfl,hi,hσ,V,Ko,nw⟩ E';have WR:D∉fp:=λhb=>by refine ay (wk.plain 0 _ st _ hb) λo' e' U=>?_;rw[en.dNew]at e';exact nS e'
 have MM:D∉wr:=λhb=>WR (wk.sub _ hb);have Mv:∀i(h:Heap),St i h->∀a∈pv,∃o,h.get? a=some o:=λi h st a ha=>by refine ay (wk.priv i h st a ha) λo e U=>?_;exact⟨o,e⟩
 by_cases J6:i<items.length
 ·have KZ:items[i]? = some items[i]:=QE J6
  generalize items[i]=d at KZ;have JN:d∈items:=Rj KZ;refine wk.turn KZ Ko λv Un hv UN mv=>?_;have Uy:rp wr Ug.heap Un.heap:=λb o hb e=>mv.keep b o hb (V.kp b o hb e);have UZ:=mv.keep _ _ MM V.hD;have Vc:jh w cc.wr JH cc.names MS Wj Un.heap:=V.rc.stepL (Xs:=D::pv) (λX hX=>by
    rcases Qw.mp hX with z|z
    ·exact z▸en.dIn
    ·exact en.olIn _ (en.pvIn _ z))
   (λb o hf hX e=>mv.keep b o (λhb=>by rw[wk.Z2 i _ Ko b hb (λz=>hX (QA _ z)) o e]at hf;exact fT hf) e) (en.Z7 Uy ⟨_,UZ⟩ (Mv _ _ UN)) (λX hX=>by
    rcases Qw.mp hX with z|z
    ·exact z▸⟨_,V.hD,rfl⟩
    ·exact wk.priv i _ Ko X z)
  refine(hT d JN Wj hσ).run (as:=[]) en.okC R Vc.rel (by rw[QN];exact hv _ (en.gKeep (wk.Z2 0 _ st) Uy) (en.Z7 V.kp ⟨_,V.hD⟩ (Mv _ _ Ko))) λUE UL Vd UJ=>?_;have U3:=en.tpU _ Uy;refine(hb d JN).run (as:=[]) en.okC U3 R UL λUs Uw=>?_;have UC:=UL.grow Uw.keep;have UO:rp wr Ug.heap Us.heap:=λb o hb e=>by refine b9.el UC.ex λm F S=>?_;exact F.keep b o (en.und _ b o (.inl (by rw[e];rfl)) (Uy b o hb e))
  have U4:Us.heap.get? D=some (aQ "list" vs n):=Uw.keep _ _ (UJ.list UZ);have UR:St (i+1) Us.heap:=wk.frame _ _ _ UN λb hb o e=>by refine ay (wk.plain _ _ UN b hb) λo' e' hk=>?_;rw[e]at e';obtain rfl:=QG e';exact Uw.keep _ _ (UJ b o hk e)
  have Ve:bP Ug Us:=((V.sm.trans mv.same).trans Vd).trans Uw.same;have Vn:=V.Z4.mono (((en.mvSeq (wk.Z2 i _ Ko) mv).trans UJ.less).trans (ai Uw.keep));rcases hp:p d with _|_
  ·rw[Q5 dk]
   refine⟨items.length-(i+1),by exact SR items.length i J6,i+1,g d,vs,n,rfl,J6,.inr ⟨d,JN,rfl⟩,⟨UC.core,U4,?_,UO,Ve⟩,UR,nw⟩;rw[fS KZ,hp];simpa using Vn
  ·rw[Rb rfl]
   refine(he d JN hp).run (as:=[]) en.okC U3 R UC λy Ur UD ry fy=>?_;rw[QN]at ry;have Yy:vs.toArray.size<=sizeLine:=by have e1:=Vn.length;have e2:((items.take i).filter p).length<=(items.take i).length:=Rp _ _;rw[Qs]at e1;rw[QJ];rw[Ru]at e2;lia
   refine wpAny_list_append_plain (hsz:=Yy) ⟨n,UD.keep _ _ U4⟩ λUS J0 MT=>?_;refine xE J0 λVf UT=>?_;have UT:US.get? D=some (aQ "list" (vs++[y]) Vf):=by rw[UT];simp[aQ]
   have Vg:rp wr Ug.heap US:=λb o hb e=>(MT.2 b (λz=>by rw[z,en.dNew]at e;exact nS e)).trans (UD.keep _ _ (UO b o hb e));have U6:am (less Ur.heap MS) (less US MS):=λa o U e=>by rw[ab]at e ⊢;exact⟨e.1,(MT.2 a λz=>e.1 (z▸en.dIn)).trans e.2⟩
   have VI:St (i+1) US:=wk.frame _ _ _ UR λb hb o e=>(MT.2 b λz=>WR (z▸hb)).trans (UD.keep _ _ e);refine⟨items.length-(i+1),by exact SR items.length i J6,i+1,g d,vs++[y],Vf,rfl,J6,.inr ⟨d,JN,rfl⟩,⟨?_,UT,?_,Vg,(Ve.trans UD.same).trans ⟨rfl,rfl,rfl⟩⟩,VI,λhb=>?_⟩
   ·exact(UC.grow UD.keep).core.step en.dIn (λb o U hb e=>(MT.2 b hb).trans e) (en.Z7 Vg ⟨_,UT⟩ (Mv _ _ VI)) ⟨_,UD.keep _ _ U4,rfl⟩
   ·rw[fS KZ,hp]
    exact((Vn.mono (ai UD.keep)).mono U6).app (.cons (ry.mono U6) .nil)
   ·refine ay (fy hb) λa U Yd=>?_;subst U
    have Yz:s.heap.get? a=none:=by
     rcases q:s.heap.get? a with _|o
     ·rfl
     ·rw[en.keep UO q]at Yd;exact sN Yd
    refine⟨TC.mpr ⟨(nw hb).1,QY.mpr ⟨Q3,.nil⟩,λv hv u hu z=>?_⟩,λv hv=>?_⟩
    ·rw[QB.mp hu]at z
     subst z;obtain⟨i',PW⟩:=Tz hv;refine ay (Vn.back PW) λd' JX K5=>?_;refine ay (QR.mp (Rj JX)) λx hx U=>?_;subst U;refine xE (K4 hb x (RQ ((Q8.mp hx).1))) λds e=>?_;rw[e]at K5;refine dK.el (RV.inv K5) λU U U zE e' U=>?_;obtain rfl:=Sn zE;rw[ab]at e';rw[Yd]at e';cases e'.2
    ·rcases Qz.mp hv with z|z
     ·exact(nw hb).2 v z
     ·rw[QB.mp z];exact⟨a,rfl,Yz⟩
 ·have hi:i=items.length:=by exact D7 hi J6
  subst hi;refine wk.done s' _ _ Ko λUn mv=>?_;obtain⟨m,⟨ml,hn,hl,KH⟩,hc,S⟩:=V.rc.ex;have Z4:=V.Z4;rw[Tj]at Z4;exact Ks Un ml vs n (λb o hb e=>mv.keep b o hb (V.kp b o hb e)) (V.sm.trans mv.same) (mv.keep _ _ MM V.hD) (Z4.mono (en.mvSeq (wk.Z2 _ _ Ko) mv)) (hn.at' λo e=>mv.keep _ o (λhb=>by refine ay (wk.plain 0 _ st _ (wk.sub _ hb)) λo' e' U=>?_;rw[en.lNew]at e';exact nS e') e) KH nw
theorem mz{b:Bool}{p:D->Bool}{f:D->D}{g:D->St}(JS:FF T c O JU iter items)(hn:n'<=c.n)(KR:Ω7 scope c)(JV:(scope.names.map (·.1)).Nodup)(J9:fr.length=fs.length)(JR:Ω6 c O fi fr fs)(K3:Ω5 .free fr scope)(KE:Ω5 .cell wr' scope)(nd:(own++fr).Nodup)(J1:scope.kind=.function)(hsz:items.length<=sizeLine)(hs:Ω4 iter)(hT:∀d∈items,∀Wj,Wj=own.map (λU=>Slot.no)++fs.map .val\/(∃d'∈items,Wj=g d')->Tg ⟨n',aP scope c.sc,own++fr,wr'⟩ Wj JU d (g d))(hb:∀d∈items,dc T ⟨n',aP scope c.sc,own++fr,wr'⟩ (g d) KD (p d))(he:∀d∈items,p d=true->IF b T ⟨n',aP scope c.sc,own++fr,wr'⟩ (g d) J4 (f d))(K4:b=true->∀d∈items,∃ds,f d=.list ds){ZV:Env}{ms₀ as:List Addr}{use:Option (Value->Sem Unit)}(ok:aD c ZV)(tp:T.Tp w Hy)(R:aZ c.n A)(JE:aC w c.wr ZV c.names Hy ms₀ as O s.heap)(Ks:∀s' D C ml vs n,ao s s'->s.heap.get? D=none->s.heap.get? C=none->D≠C->s'.heap.get? D=some (aQ "list" vs n)->aX (less s'.heap (D::(ms₀++as))) ((items.filter p).map f) vs->s'.heap.Ns C ml->ml "_headers" = none->(b=true->vs.Nodup/\∀v∈vs,∃a,v=.ref a/\s.heap.get? a=none)->compPost (model P0 w) A E use Q (.ref D) C (.ok .next) s'):
  wpAny (model P0 w) A (comprehension (.ListComp J4 [⟨JU,iter,KD,0⟩] scope pos) scope ZV pz0 (newList []) false (eval iter ZV) use) Q E s:=by
 refine mD JS hn KR JV J9 JR K3 KE nd J1 hs ok tp R JE λI fp wr pv OL MS St Ug D Ul JH en ms wk st Ui U2 Ut=>?_;refine ut en wk st (R.less hn) hsz hT hb he K4 (λs' ml vs n kp sm hD Z4 hn KH nw=>?_) U2 Ut;refine Ks s' D JH.locals ml vs n ⟨λb o e=>en.keep kp e,sm.gens.trans en.after.gens,sm.drawn.trans en.after.drawn,sm.os.trans en.after.os⟩ (jL en.after en.dNew) (jL en.after en.lNew) en.loc hD (Z4.mono λa o U e=>?_) hn KH nw;rw[ab]at e ⊢;refine⟨λz=>e.1 ?_,e.2⟩;rcases Qw.mp z with z|z
 ·exact z▸en.dIn
 ·exact en.olIn _ (en.oldIn _ z)
theorem iy{p:D->Bool}{f:D->D}{g:D->St}(JS:FF T c O JU iter items)(hn:n'<=c.n)(KR:Ω7 scope c)(JV:(scope.names.map (·.1)).Nodup)(J9:fr.length=fs.length)(JR:Ω6 c O fi fr fs)(K3:Ω5 .free fr scope)(KE:Ω5 .cell wr' scope)(nd:(own++fr).Nodup)(J1:scope.kind=.function)(hsz:items.length<=sizeLine)(hs:Ω4 iter)(hT:∀d∈items,∀Wj,Wj=own.map (λU=>Slot.no)++fs.map .val\/(∃d'∈items,Wj=g d')->Tg ⟨n',aP scope c.sc,own++fr,wr'⟩ Wj JU d (g d))(hb:∀d∈items,dc T ⟨n',aP scope c.sc,own++fr,wr'⟩ (g d) KD (p d))(he:∀d∈items,p d=true->Ev T ⟨n',aP scope c.sc,own++fr,wr'⟩ (g d) J4 (f d)){ZV:Env}{ms₀ as:List Addr}{use:Option (Value->Sem Unit)}(ok:aD c ZV)(tp:T.Tp w Hy)(R:aZ c.n A)(JE:aC w c.wr ZV c.names Hy ms₀ as O s.heap)(Ks:∀s' D C ml vs n,ao s s'->s.heap.get? D=none->s.heap.get? C=none->D≠C->s'.heap.get? D=some (aQ "list" vs n)->aX (less s'.heap (D::(ms₀++as))) ((items.filter p).map f) vs->s'.heap.Ns C ml->ml "_headers" = none->compPost (model P0 w) A E use Q (.ref D) C (.ok .next) s'):
  wpAny (model P0 w) A (comprehension (.ListComp J4 [⟨JU,iter,KD,0⟩] scope pos) scope ZV pz0 (newList []) false (eval iter ZV) use) Q E s:=
 mz (b:=false) JS hn KR JV J9 JR K3 KE nd J1 hsz hs hT hb (λd hd hp=>⟨@λw A ZV Hy ms₀ as s Q E ok tp R JE q=>(he d hd hp).run ok tp R JE λv s' a r=>q v s' a r nofun⟩) nofun ok tp R JE
  λs' D C ml vs n a h1 h2 h3 h4 h5 h6 h7 U=>Ks s' D C ml vs n a h1 h2 h3 h4 h5 h6 h7
theorem bW{p:D->Bool}{f:D->D}{g:D->St}(JS:It T c O JU iter items)(hn:n'<=c.n)(KR:Ω7 scope c)(JV:(scope.names.map (·.1)).Nodup)(J9:fr.length=fs.length)(JR:Ω6 c O fi fr fs)(K3:Ω5 .free fr scope)(KE:Ω5 .cell wr' scope)(nd:(own++fr).Nodup)(J1:scope.kind=.function)(hsz:items.length<=sizeLine)(hs:Ω4 iter)(hT:∀d∈items,∀Wj,Wj=own.map (λU=>Slot.no)++fs.map .val\/(∃d'∈items,Wj=g d')->Tg ⟨n',aP scope c.sc,own++fr,wr'⟩ Wj JU d (g d))(hb:∀d∈items,dc T ⟨n',aP scope c.sc,own++fr,wr'⟩ (g d) KD (p d))(he:∀d∈items,p d=true->Ev T ⟨n',aP scope c.sc,own++fr,wr'⟩ (g d) J4 (f d)):
  Ev T c O (.ListComp J4 [⟨JU,iter,KD,0⟩] scope pos) (.list ((items.filter p).map f)):=by
 constructor;intros;rw[eval_ListComp];refine iy (use:=none) JS.toP hn KR JV J9 JR K3 KE nd J1 hsz hs hT hb he ok tp R JE λs' D C ml vs n a hD hC MU hl Z4 hn KH=>⟨ml,hn,λUF Uu=>q _ _ ⟨λb o e=>?_,a.gens,a.drawn,a.os⟩ ?_⟩
 ·exact(Uu.2 b (dQ e hC)).trans (a.keep b o e)
 ·have JO:D∉ms₀++as:=λz=>by refine xE (JE.have _ z) λo e=>?_;rw[hD]at e;exact nS e
  refine .list (vs:=vs) (n:=n) ?_ (Z4.mono λa o qs e=>?_)
  ·rw[ab]
   exact⟨JO,(Uu.2 _ MU).trans hl⟩
  ·rw[ab]at e ⊢
   refine⟨λz=>e.1 (QA _ z),(Uu.2 a λz=>?_).trans e.2⟩;subst z
   have:=dS qs
   rw[eL hn KH e.2]at this;exact fF this
theorem cA(i:Nat){o:Slot}{px:Pos}{Wm:Pos}{p:D->Bool}{f:D->D}{g:D->St}(JS:It T c O JU iter items)(hn:n'<=c.n)(KR:Ω7 scope c)(JV:(scope.names.map (·.1)).Nodup)(J9:fr.length=fs.length)(JR:Ω6 c O fi fr fs)(K3:Ω5 .free fr scope)(KE:Ω5 .cell wr' scope)(nd:(own++fr).Nodup)(J1:scope.kind=.function)(hsz:items.length<=sizeLine)(hs:Ω4 iter)(hT:∀d∈items,∀Wj,Wj=own.map (λU=>Slot.no)++fs.map .val\/(∃d'∈items,Wj=g d')->Tg ⟨n',aP scope c.sc,own++fr,wr'⟩ Wj JU d (g d))(hb:∀d∈items,dc T ⟨n',aP scope c.sc,own++fr,wr'⟩ (g d) KD (p d))(he:∀d∈items,p d=true->Ev T ⟨n',aP scope c.sc,own++fr,wr'⟩ (g d) J4 (f d))(hx:c.names[i]? = some x)(ho:O[i]? = some o)(hm:o.ZW=false)(hk:b8 c x=true)(MX:∀ZV,aD c ZV->swapsWith (.ListComp J4 [⟨JU,iter,KD,0⟩] scope pos) (some (.Name x px)) Wm.line ZV=pure true)(hp:P .next (O.set i (.val (.list ((items.filter p).map f))))):W1 T c O (.Assign [.Name x px] (.ListComp J4 [⟨JU,iter,KD,0⟩] scope pos) Wm) P:=by
 constructor;intros;rw[exec_Assign_Name_used _ _ _ _ (MX ZV ok)];refine GA (Tv (GA ?_));refine GA (Rt (iy (Q:=λU s'=>Q .next s') JS.toP hn KR JV J9 JR K3 KE nd J1 hsz hs hT hb he ok tp R JE λs' D C ml vs n a hD hC MU hl Z4 hn KH=>?_) (λU s' hq=>QD (QD hq)) λU U e=>e);have JO:D∉ms₀++as:=λz=>by refine xE (JE.have _ z) λo e=>?_;rw[hD]at e;exact nS e
 have rv:RV (less s'.heap (ms₀++as)) (.list ((items.filter p).map f)) (.ref D):=by refine .list (vs:=vs) (n:=n) (ab.mpr ⟨JO,hl⟩) (Z4.mono λa o qs e=>?_);rw[ab]at e ⊢;exact⟨λz=>e.1 (QA _ z),e.2⟩
 refine xA ((JE.grow a.keep).under) λKd up=>?_;have Zm:C≠ZV.locals:=by refine b9.el JE.ex λm F S=>?_;obtain⟨Za,⟨o',es,ep,ho,hd,_⟩,_⟩:=F.ns;exact(dQ ho hC).symm
 have Zn:∀o,s'.heap.get? C=some o->(under c.wr ZV as s'.heap).get? C=some o:=λo e=>RJ _ e λz=>by
  rcases Qw.mp z with z|z
  ·exact Zm z
  ·rcases Qz.mp z with z|z
   ·refine ay (Rn.mp z) λy hy hc=>?_
    refine b9.el JE.ex λm F S=>?_;refine ay (F.cell y C (.inl ((ok.kindOf y).trans (ok.wrc y hy))) hc) λo' KS U=>?_;rw[hC]at KS;exact nS KS
   ·refine xE (JE.have _ (Qy _ z)) λo' e'=>?_
    rw[hC]at e';exact nS e'
 refine T6 (bU ok Kd hx ho hm hk rv λKa Mf sm pk=>?_);have L0:∀b o,(under c.wr ZV as s'.heap).get? b=some o->Ka.heap.get? b=some o:=by exact b9.el Mf.ex λm F S=>F.keep
 refine⟨ml,hn.at' λo e=>L0 C o (Zn o e),λUF Uu=>?_⟩;have YA:=hn.at' λo e=>L0 C o (Zn o e);have back:=(JE.grow a.keep).back Mf;refine q .next .next _ as _ hp (back.offC Uu YA KH (λz=>by refine xE (JE.have _ (Qy _ z)) λo e=>?_;rw[hC]at e;exact nS e) Zm ?_) ((a.same.trans sm).trans ⟨rfl,rfl,rfl⟩) trivial;rcases e:Hy.get? C with _|o
 ·rfl
 ·refine b9.el JE.ex λm F S=>?_
  rw[F.keep _ _ e]at hC;exact sN hC
theorem dC{o:Obj}(q:o.isFreed=false):(h.push o).get? h.objs.size=some o:=Q2 _ q
theorem gr{ZV:Env}{names:List Str}{ms₀ as:List Addr}(JE:aC w wr ZV names Hy ms₀ as O h)(q:h.objs.size<=a):a∉ms₀++as:=λz=>by refine xE (JE.have _ z) λo e=>?_;rw[aK q]at e;exact nS e
theorem aV(h:rn T c O es ds)(hsz:ds.length<=sizeLine):Ev T c O (.Tuple es k p) (.tup ds):=by
 constructor;intros;refine PyProof.Rows.Tuple_ (h.run ok tp R JE (λvs HX Uf JL=>?_) p);refine RK (q _ _ (Uf.trans az) (.tup (o:={ cls:=.type "tuple",data:=.seq vs.toArray }) (vs:=vs) (n:=0) ?_ rfl rfl (JL.mono (ai λU U e=>QF _ e)))) ?_
 ·rw[ab]
  exact⟨gr (JE.grow Uf.keep) (QO _),dC rfl⟩
 ·show vs.toArray.size<=sizeLine
  rw[QJ,JL.length];exact hsz
theorem av(h:rn T c O es ds)(hsz:ds.length<=sizeLine:=by decide):Ev T c O (.List es p) (.list ds):=by
 constructor;intros;refine PyProof.Rows.List_ (h.run ok tp R JE (λvs HX Uf JL=>?_) p);refine RK (q _ _ (Uf.trans az) (.list (vs:=vs) (n:=0) ?_ (JL.mono (ai λU U e=>QF _ e)))) ?_
 ·rw[ab]
  exact⟨gr (JE.grow Uf.keep) (QO _),dC rfl⟩
 ·show vs.toArray.size<=sizeLine
  rw[QJ,JL.length];exact hsz
structure lI(n:Nat)(a b d:D):Prop where
 run:∀(w:World)(A:Around)(s:Shared)(ms:List Addr)(o i:Value)(Q:Ω)(E:Ω),aZ n A->RV (less s.heap ms) a o->RV (less s.heap ms) b i->
  (∀r s',ao s s'->RV (less s'.heap ms) d r->Q r s')->∃T id,s.TypeIs o T/\typeLookup (.type T) "__getitem__" = pure (some (.builtin id))/\wpAny (model P0 w) A (getItem o i) Q E s
theorem im{value slice:PySem.Expr}{o i:Value}{t id:String}(hT:s.TypeIs o t)(hl:typeLookup (.type t) "__getitem__" = pure (some (.builtin id)))(h:wpAny (model P0 w) A (getItem o i) Q E s)(hs:subscripted slice false o i=operate [o,i] (getItem o i)):wpAny (model P0 w) A (subscriptTail value slice o i) Q E s:=by
 refine GA ?_;rw[getitemInPython_of_ne hT.not_modules];refine GA (wpAny_specialOf hT hl ?_);have Ks:wpAny (model P0 w) A (subscripted slice false o i) (λr Ui=>wpAny (model P0 w) A (letTemporaryGo value o r >>= λU=>pure r) Q E Ui) E s:=by rw[hs];exact wpAny_operating (Rt h (λr Ui UI=>GA (wpAny_letTemporaryGo (QD UI))) λU U x=>x)
 first
  |exact QD (GA Ks)
  |exact GA (QD (GA Ks))
  |exact GA Ks
theorem aI{value slice:PySem.Expr}{a b d:D}(hv:Ev T c O value a)(hi:Ev T c O slice b)(ho:lI c.n a b d)(hs:∀o i,subscripted slice false o i=operate [o,i] (getItem o i):=by intros;rfl):Ev T c O (.Subscript value slice p) d:=by constructor;intros;refine R0 (hv.run ok tp R JE λo HX Uf ro=>?_);refine hi.run ok tp R (JE.grow Uf.keep) λi Ug Uh ri=>?_;exact kg (ho.run w A Ug (ms₀++as) o i Q E R (ro.mono (ai Uh.keep)) ri λr Ui Uj rr=>q _ _ ((Uf.trans Uh).trans Uj) rr) λt id hT hl hg=>im hT hl hg (hs o i)
theorem CM{k:Int}(h:seqIndex? k n=some j):(0<=k->k.toNat=j/\k<n)/\(k<0->(k+n).toNat=j/\-(n:Int)<=k)/\j<n:=by
 unfold seqIndex? at h;by_cases z:k<0
 ·simp only[z,if_true]at h
  by_cases w:(decide (0<=k+(n:Int))&&decide (k+(n:Int)<n))=true
  ·rw[Rb w]at h
   simp only[R9,TI]at w;have h:=QG h;refine⟨λU=>by omega,λU=>⟨h,by omega⟩,by omega⟩
  ·rw[Q5 w]at h;exact nS h
 ·simp only[z,TV]at h
  by_cases w:(decide (0<=k)&&decide (k<(n:Int)))=true
  ·rw[Rb w]at h
   simp only[R9,TI]at w;have h:=QG h;refine⟨λU=>⟨h,w.2⟩,λU=>by omega,by omega⟩
  ·rw[Q5 w]at h;exact nS h
theorem aH{k:Int}(hj:seqIndex? k ds.length=some j)(hd:ds[j]? = some d)(h1:-(2^63)<=k)(h2:k<2^63):lI n (.list ds) (.int k) d:=by
 constructor;intro w A s ms o i Q E R ro ri q;refine dK.el ro.inv λl vs n' U hg JL=>?_;subst U;refine RV.intK ri λt U=>?_;subst U;have Kc:=ab.mp hg;have hl:s.heap.IsList l vs.toArray:=⟨_,Kc.2,rfl,n',rfl⟩;refine⟨"list","list.__getitem__",⟨_,Kc.2,rfl⟩,slot_list_getitem.lookup,?_⟩;refine ay (JL.get hd) λv hv rv=>?_;refine jd (CM hj) λq1 q2 q3=>?_;have JF:vs.toArray.size=ds.length:=by rw[QJ];exact JL.length
 by_cases h0:0<=k
 ·refine wpAny_getItem_list hl h0 h2 (x:=v) ?_ (q _ _ (ao.refl s) rv)
  rw[(q1 h0).1,Q6];exact hv
 ·refine wpAny_getItem_list_neg hl (by exact Tk h0) (by rw[JF];exact(q2 (by exact Tk h0)).2) h1 (x:=v) ?_ (q _ _ (ao.refl s) rv)
  rw[JF,(q2 (by exact Tk h0)).1,Q6];exact hv
theorem CT{k:Int}(hj:seqIndex? k ds.length=some j)(hd:ds[j]? = some d)(h1:-(2^63)<=k)(h2:k<2^63):lI n (.tup ds) (.int k) d:=by
 constructor;intro w A s ms o i Q E R ro ri q;obtain⟨l,ob,vs,n',rfl,hg,J8,JM,JL⟩:=ro.inv;refine RV.intK ri λt U=>?_;subst U;have Kc:=ab.mp hg;have hl:IsTup s.heap l vs.toArray:=⟨_,Kc.2,J8,n',JM⟩;refine⟨"tuple","tuple.__getitem__",⟨_,Kc.2,J8⟩,slot_tuple_getitem.lookup,?_⟩;refine ay (JL.get hd) λv hv rv=>?_;have JF:vs.toArray.size=ds.length:=by rw[QJ];exact JL.length
 refine getItem_tuple hl h1 h2 (j:=j) (x:=v) (by rw[JF];exact hj) ?_ (q _ _ (ao.refl s) rv);rw[Q6];exact hv
theorem lW{k:Int}(hj:seqIndex? k x.length=some j)(hd:x.cps[j]? = some ch)(h1:-(2^63)<=k)(h2:k<2^63):lI n (.str x) (.int k) (.str ⟨#[ch]⟩):=by
 constructor;intro w A s ms o i Q E R ro ri q;refine RV.strK ro λt U=>?_;subst U;refine RV.intK ri λt' U=>?_;subst U;refine⟨"str","str.__getitem__",typeIs_str s x t,slot_str_getitem.lookup,?_⟩;refine getItem_str ?_ (by rw[hj];exact hd) (q _ _ ax (.str _ _));have e1:decide (k < -(2^63:Int))=false:=by simp;exact Int.le_of_sub_one_lt h1
 have e2:decide (k>=2^63)=false:=by simp;exact Int.lt_of_add_one_le h2
 rw[e1,e2];rfl
theorem fQ{ZV:Env}{Q:Unit->Shared->Prop}(ok:aD c ZV)(F:oJ c.wr ZV Hy s.heap m)(hk:b8 c x=true)(q:∀s',oJ c.wr ZV Hy s'.heap (λy=>if y=x then some v else m y)->bP s s'->aN s.heap s'.heap->(∀a,a≠ZV.locals->(∀x cl,ZV.kindOf x=some .cell->ZV.cells.lookup x=some cl->cl≠a)->∀o,s.heap.get? a=some o->s'.heap.get? a=some o)->Q () s'):wpAny (model P0 w) A (storeName ZV x v) Q E s:=by
 refine eG F.ns λml ME hl h0=>?_;have kx:=ok.kindOf x;have kf:ZV.scope.kind=.function:=by rw[ok.scope];exact ok.kind
 refine xA (gT hk) λXr hk=>?_;rcases e:c.sc.names.lookup x with _|k
 ·rw[e]at hk;contradiction
 ·rw[e]at hk kx
  cases k with
  |«local»=>
   refine wpAny_storeName_local kx ME (λh' L7 hs=>q _ ⟨⟨_,L7,λy hy=>?_,(Q5 (Ne.symm Xr)).trans h0⟩,λy cl hy hc=>?_,F.has,F.apart,F.off,λb o' e=>(hs.2 b λq=>?_).trans (F.keep b o' e),F.above,F.Z1⟩ ⟨rfl,rfl,rfl⟩ (qS ME h0 hs) (λa h1 U o e=>(hs.2 a h1).trans e)) (by rw[kf];rfl)
   ·by_cases q:y=x
    ·simp[q]
    ·simp only[q,TV];exact hl y hy
   ·have PB:y≠x:=by rintro rfl;rw[kx]at hy;rcases hy with hy|hy<;>contradiction
    simp only[PB,TV];exact(F.cell y cl hy hc).sameBut hs (F.off _ (mem_of_lookup hc))
   ·subst q;rw[F.above]at e;exact nS e
  |cell=>
   refine xE (F.has x (.inl kx)) λcl J8=>?_;have WN:=F.cell x cl (.inl kx) J8;refine wpAny_storeName_cell kf kx J8 WN (λh' O5 hs=>q _ ⟨⟨ml,ME.at' λo e=>(hs.2 _ λq=>F.off _ (mem_of_lookup J8) q.symm).trans e,λy hy=>?_,h0⟩,λy c' hy hc=>?_,F.has,F.apart,F.off,λb o' e=>(hs.2 b λq=>?_).trans (F.keep b o' e),F.above,F.Z1⟩ ⟨rfl,rfl,rfl⟩ (jC WN hs) (λa U h2 o e=>(hs.2 a (h2 _ _ kx J8).symm).trans e))
   ·have PB:y≠x:=by rintro rfl;rw[kx]at hy;contradiction
    simp only[PB,TV];exact hl y hy
   ·by_cases q:y=x
    ·subst q;rw[J8]at hc;obtain rfl:=QG hc;simpa using O5
    ·simp only[q,TV]
     exact(F.cell y c' hy hc).sameBut hs λe=>q (name_of_addr F.apart (mem_of_lookup hc) (e▸mem_of_lookup J8))
   ·subst q;rw[F.Z1 x (QS hk) _ J8]at e;exact nS e
  |_=>contradiction
theorem ar.toMu(k:am (less h ms) (less h' ms'))(mr:iU w (less h' ms') h' a ob){as:List Addr}{o:Slot}(ka:∀b∈as,∀o,h.get? b=some o->h'.get? b=some o)(nd:xs.Nodup)(e1:xs[i]? = some x)(e2:O[i]? = some o)(hm:o.ZW=false)(H:ar w h ms m xs O as):
   ∃l r,as=l++r/\ar w h' ms' (λy=>if y=x then some (.ref a)else m y) xs (O.set i (.mu a ob)) (l++a::r):=by
 have ne:∀{y:Str}{xs:List Str}{i:Nat},(y::xs).Nodup->xs[i]? = some x->y≠x:=λnd e q=>(QY.mp nd).1 (q▸Rj e);have off:∀{y:Str}{xs:List Str}{r:St}{as:List Addr},(∀a∈as,∀o,h.get? a=some o->h'.get? a=some o)->(y::xs).Nodup->some y=some x->ar w h ms m xs r as->ar w h' ms' (λz=>if z=x then some (.ref a)else m z) xs r as:=λka nd e H=>by obtain rfl:=QG e;exact ar.off k ka (λz hz=>Q5 (by rintro rfl;exact(QY.mp nd).1 hz)) H
 exact H.ind (P:=λxs O as=>∀i,(∀a∈as,∀o,h.get? a=some o->h'.get? a=some o)->xs.Nodup->xs[i]? = some x->O[i]? = some o->∃l r,as=l++r/\ar w h' ms' (λy=>if y=x then some (.ref a)else m y) xs (O.set i (.mu a ob)) (l++a::r)) (λU U U U U e=>by contradiction)
  (λy xs r as ih H i ka nd e1 e2=>by
   rcases i with _|i
   ·exact⟨[],as,rfl,⟨rfl,Rb (QG e1)⟩,mr,off ka nd e1 H⟩
   ·exact dE (ih i ka (QY.mp nd).2 e1 e2) λl r' e H'=>⟨l,r',e,H'⟩)
  (λy xs d' u r as hu ru ih H i ka nd e1 e2=>by
   rcases i with _|i
   ·exact⟨[],as,rfl,⟨rfl,Rb (QG e1)⟩,mr,off ka nd e1 H⟩
   ·exact dE (ih i ka (QY.mp nd).2 e1 e2) λl r' e H'=>⟨l,r',e,⟨u,(Q5 (ne nd e1)).trans hu,ru.mono k⟩,H'⟩)
  (λy xs b o' r as hu L8 ih H i ka nd e1 e2=>by
   rcases i with _|i
   ·obtain rfl:=QG e2;contradiction
   ·refine dE (ih i (λa ha=>ka a (.tail _ ha)) (QY.mp nd).2 e1 e2) λl r' e H'=>?_
    exact⟨b::l,r',by rw[e];rfl,⟨rfl,(Q5 (ne nd e1)).trans hu⟩,L8.keep k (ka b (.head _)),H'⟩) i ka nd e1 e2
inductive jg(w:World)(h:Heap)(ms:List Addr)(m:Str->Option Value)(x:Str)(b:Addr)(o:Mu)(xs:List Str)(O:St)(as:List Addr)(i:Nat):Prop
 |mk (l r:List Addr) (e:as=l++b::r) (hm:m x=some (.ref b)) (mr:iU w (less h ms) h b o) (up:∀h' o',am (less h ms) (less h' ms)->(∀c∈l++r,∀ob,h.get? c=some ob->h'.get? c=some ob)->iU w (less h' ms) h' b o'->ar w h' ms m xs (O.set i (.mu b o')) as)
   (fz:∀ms' sl,am (less h ms) (less h ms')->(sl=.no\/∃d,sl=.val d/\RV (less h ms') d (.ref b))->ar w h ms' m xs (O.set i sl) (l++r)):jg w h ms m x b o xs O as i
theorem jg.el{P:Prop}{b:Addr}{o:Mu}{as:List Addr}(z:jg w h ms m x b o xs O as i)(k:∀l r,as=l++b::r->m x=some (.ref b)->iU w (less h ms) h b o->
  (∀h' o',am (less h ms) (less h' ms)->(∀c∈l++r,∀ob,h.get? c=some ob->h'.get? c=some ob)->iU w (less h' ms) h' b o'->ar w h' ms m xs (O.set i (.mu b o')) as)->(∀ms' sl,am (less h ms) (less h ms')->(sl=.no\/∃d,sl=.val d/\RV (less h ms') d (.ref b))->ar w h ms' m xs (O.set i sl) (l++r))->P):P:=by obtain⟨l,r,e,h1,h2,h3,h4⟩:=z;exact k l r e h1 h2 h3 h4
theorem ar.muAt{b:Addr}{o:Mu}{as:List Addr}(e1:xs[i]? = some x)(e2:O[i]? = some (.mu b o))(H:ar w h ms m xs O as):
  jg w h ms m x b o xs O as i:=
 H.ind (P:=λxs O as=>∀i,xs[i]? = some x->O[i]? = some (.mu b o)->jg w h ms m x b o xs O as i) (λU U U e=>by contradiction)
  (λy xs r as ih U i e1 e2=>by
   rcases i with _|i
   ·cases e2
   ·exact jg.el (ih i e1 e2) λl r' e h1 h2 h3 h4=>⟨l,r',e,h1,h2,h3,h4⟩)
  (λy xs d v r as hv rv ih U i e1 e2=>by
   rcases i with _|i
   ·cases e2
   ·exact jg.el (ih i e1 e2) λl r' e h1 h2 h3 h4=>⟨l,r',e,h1,h2,λh' o' k kl L8=>⟨⟨v,hv,rv.mono k⟩,h3 h' o' k kl L8⟩,λms' sl k hs=>⟨⟨v,hv,rv.mono k⟩,h4 ms' sl k hs⟩⟩)
  (λy xs b' o' r as hu mr ih H i e1 e2=>by
   rcases i with _|i
   ·obtain rfl:=QG e1;cases e2
    refine⟨[],as,rfl,hu,mr,λh' o' k kl L8=>⟨⟨rfl,hu⟩,L8,ar.off k kl (Z 5) H⟩,λms' sl k hs=>?_⟩;have H':=ar.off (m':=m) k (λU U U e=>e) (Z 5) H;rcases hs with rfl|⟨d,rfl,rv⟩
    ·exact H'
    ·exact⟨⟨_,hu,rv⟩,H'⟩
   ·refine jg.el (ih i e1 e2) λl r' e h1 h2 h3 h4=>?_
    exact⟨b'::l,r',by rw[e];rfl,h1,h2,λh' o' k kl L8=>⟨⟨rfl,hu⟩,mr.keep k (kl b' (.head _)),h3 h' o' k (λc hc=>kl c (.tail _ hc)) L8⟩,
     λms' sl k hs=>⟨⟨rfl,hu⟩,mr.keep k (λU e=>e),h4 ms' sl k hs⟩⟩) i e1 e2
section
variable(T:a6)(c:Cx)
structure oI(O:St)(e:PySem.Expr)(ob:Mu):Prop where
 run:∀{w:World}{A:Around}{ZV:Env}{Hy:Heap}{ms₀ as:List Addr}{s:Shared}{Q:Ω}{E:Ω},
  ∀(ok:aD c ZV)(tp:T.Tp w Hy)(R:aZ c.n A)(JE:aC w c.wr ZV c.names Hy ms₀ as O s.heap)(q:∀a s',ao s s'->s.heap.get? a=none->iU w (less s'.heap (a::(ms₀++as))) s'.heap a ob->Q (.ref a) s'),wpAny (model P0 w) A (eval e ZV) Q E s
end
theorem aT{A B:List Addr}(q:∀a∈B,a∈A):am (less h A) (less h B):=λa o U z=>by rw[ab]at z ⊢;exact⟨λy=>z.1 (q a y),z.2⟩
theorem oS(h:oI T c O e (.list ds)):Ev T c O e (.list ds):=by constructor;intros;refine h.run ok tp R JE λa s' af hn ⟨vs,n,e,r⟩=>q _ _ af (.list (vs:=vs) (n:=n) (ab.mpr ⟨λz=>?_,e⟩) (r.mono (aT λb hb=>QA _ hb)));refine xE (JE.have a z) λo e'=>?_;rw[hn]at e';exact nS e'
theorem mO(af:ao s s')(hn:s.heap.get? a=none):am (less s.heap ms) (less s'.heap (a::ms)):=λb o U z=>by
 rw[ab]at z ⊢;refine⟨λy=>?_,af.keep _ _ z.2⟩;rcases Qw.mp y with y|y
 ·subst y;rw[hn]at z;cases z.2
 ·exact z.1 y
theorem dB{pl:Pos}(h:rn T c O es ds)(hsz:ds.length<=sizeLine):oI T c O (.List es pl) (.list ds):=by constructor;intros;refine PyProof.Rows.List_ (h.run ok tp R JE (λvs HX Uf JL=>?_) pl);refine RK (q _ _ (Uf.trans az) (c9 Uf (QO _)) ⟨vs,0,dC rfl,JL.mono (mO az (aK (QO _)))⟩) (by show vs.toArray.size<=sizeLine;rw[QJ,JL.length];exact hsz)
theorem cH(i:Nat){t:Env->Sem Flow}(hx:c.names[i]? = some x)(hd:O[i]? = some (.mu a (.list ds)))(h:WT T c (O.set i (.val (.list ds))) t P):WT T c O t P:=by
 constructor;intros;refine b9.el JE.ex λm F S=>?_;obtain⟨l,r,rfl,hm,⟨vs,n,ha,rv⟩,up,fz⟩:=S.muAt hx hd;have nd:=JE.nd;have PD:a∉ms₀:=λz=>by refine xE (JE.old a z) λo e=>?_;rw[JE.new a (Qy _ (QH))]at e;exact nS e
 have Ke:a∉l++r/\(l++r).Nodup:=by
  have:=(RZ (l₁:=l) (a:=a) (l₂:=r)).nodup_iff.mp nd
  exact QY.mp this
 have sub:∀b∈l++r,b∈l++a::r:=λb hb=>by
  rcases Qz.mp hb with z|z
  ·exact QM _ z
  ·exact Qy _ (QA _ z)
 have sk:am (less s.heap (ms₀++(l++a::r))) (less s.heap (ms₀++(l++r))):=aT λb hb=>by
  rcases Qz.mp hb with z|z
  ·exact QM _ z
  ·exact Qy _ (sub b z)
 have JY:aC w c.wr ZV c.names Hy ms₀ (l++r) (O.set i (.val (.list ds))) s.heap:=by
  refine⟨⟨m,F,fz _ _ sk (.inr ⟨_,rfl,.list (ab.mpr ⟨λz=>?_,ha⟩) (rv.mono sk)⟩)⟩,Ke.2,λb hb=>JE.new b (sub b hb),JE.old,λb hb=>JE.loc b (sub b hb)⟩;rcases Qz.mp z with z|z
  ·exact PD z
  ·exact Ke.1 z
 exact h.run (as:=l++r) (Q:=Q) ok tp R JY q
theorem CD{ZV:Env}{ms₀ as:List Addr}{o:Slot}{UQ:Str->Option Value}(ok:aD c ZV)(Uk:aC w c.wr ZV c.names Hy ms₀ as O HX.heap)(UA:oJ c.wr ZV Hy HX.heap UQ)(UG:ar w HX.heap (ms₀++as) UQ c.names O as)(hn:a∉as)(hn0:Hy.get? a=none)(hl:a≠ZV.locals/\∀x cl,ZV.kindOf x=some .cell->ZV.cells.lookup x=some cl->cl≠a)(hx:c.names[i]? = some x)(ho:O[i]? = some o)(hm:o.ZW=false)(Vw:oJ c.wr ZV Hy Ui.heap (λy=>if y=x then some (.ref a)else UQ y))(sk:am (less HX.heap (ms₀++as)) (less Ui.heap (a::(ms₀++as))))(ka:∀b∈as,∀o,HX.heap.get? b=some o->Ui.heap.get? b=some o)(mr:iU w (less Ui.heap (a::(ms₀++as))) Ui.heap a ob):
  ∃as',aC w c.wr ZV c.names Hy ms₀ as' (O.set i (.mu a ob)) Ui.heap:=by
 refine dE (ar.toMu sk mr ka ok.nodup hx ho hm UG) λl r e VT=>?_;have sk3:am (less Ui.heap (a::(ms₀++as))) (less Ui.heap (ms₀++(l++a::r))):=aT λb y=>by
  rcases Qz.mp y with y|y
  ·exact QA _ (QM _ y)
  ·rcases Qz.mp y with y|y
   ·exact QA _ (Qy _ (e▸QM _ y))
   ·rcases Qw.mp y with y|y
    ·rw[y];exact QH
    ·exact QA _ (Qy _ (e▸Qy _ y))
 have mem:∀b∈l++a::r,b=a\/b∈as:=λb hb=>by
  rcases Qz.mp hb with z|z
  ·exact .inr (e▸QM _ z)
  ·rcases Qw.mp z with z|z
   ·exact .inl z
   ·exact .inr (e▸Qy _ z)
 refine⟨l++a::r,⟨_,Vw,ar.off sk3 (λU U U e=>e) (Z 5) VT⟩,?_,λb hb=>?_,Uk.old,λb hb=>?_⟩
 ·exact(RZ (l₁:=l) (l₂:=r)).nodup_iff.mpr (QY.mpr ⟨λz=>hn (e▸z),e▸Uk.nd⟩)
 ·rcases mem b hb with z|z
  ·subst z;exact hn0
  ·exact Uk.new b z
 ·rcases mem b hb with z|z
  ·subst z;exact hl
  ·exact Uk.loc b z
theorem dY{ZV:Env}(F:oJ c.wr ZV Hy h m)(hn:h.get? a=none):Hy.get? a=none/\a≠ZV.locals/\∀x cl,ZV.kindOf x=some .cell->ZV.cells.lookup x=some cl->cl≠a:=by
 refine⟨?_,λz=>?_,λx cl hk hc z=>?_⟩
 ·rcases q:Hy.get? a with _|o
  ·rfl
  ·rw[F.keep _ _ q]at hn;exact sN hn
 ·obtain⟨ml,⟨o,es,ep,ho,_⟩,_⟩:=F.ns
  subst z;rw[hn]at ho;exact nS ho
 ·refine ay (F.cell x cl (.inl hk) hc) λo ho U=>?_
  rw[z,hn]at ho;exact nS ho
theorem q8(i:Nat){o:Slot}(h:oI T c O e ob)(hx:c.names[i]? = some x)(ho:O[i]? = some o)(hm:o.ZW=false)(hk:b8 c x=true)(hs:∀ZV,swapsWith e (some (.Name x p')) p.line ZV=pure false)(hp:∀a,P .next (O.set i (.mu a ob))):W1 T c O (.Assign [.Name x p'] e p) P:=by
 constructor;intros;refine wpAny_Assign_Name (h.run ok tp R JE λa HX Uf hn mr=>?_) (hs ZV);refine b9.el JE.ex λWa Vx VU=>?_;have hl:=dY Vx hn;have ha:a∉as:=λz=>by refine xE (JE.have _ (Qy _ z)) λo e=>?_;rw[hn]at e;exact nS e
 refine fQ ok (Vx.grow Uf.keep) hk λUi Vw sm pk ka=>?_;exact xE (CD (HX:=s) ok JE Vx VU ha hl.1 hl.2 hx ho hm Vw ((mO Uf hn).trans pk.less) (λb hb o e=>ka b (JE.loc b hb).1 (JE.loc b hb).2 o (Uf.keep _ _ e)) (mr.keep pk.less (ka a hl.2.1 hl.2.2))) λas' Uo=>q .next .next _ _ Ui (hp a) Uo (Uf.same.trans sm) trivial
theorem uL{ZV:Env}(ok:aD c ZV)(F:oJ c.wr ZV Hy s.heap m)(hv:m x=some v)(hk:mW (c.sc.names.lookup x)=true)(hc:(x==("__classdict__" : Str))=false)(q:Q v s):wpAny (model P0 w) A (loadName ZV x) Q E s:=by
 have Ky:ZV.kindOf x=c.sc.names.lookup x:=ok.kindOf x;have kf:ZV.scope.kind=.function:=by rw[ok.scope];exact ok.kind
 rcases e:c.sc.names.lookup x with _|k
 ·rw[e]at hk;contradiction
 ·rw[e]at Ky
  cases k with
  |«local»=>exact eG F.ns λml ME hl U=>wpAny_loadName_local kf Ky ME ((hl x Ky).trans hv) q
  |cell=>exact xE (F.has x (.inl Ky)) λcl J8=>wpAny_loadName_cell kf Ky J8 (hv▸F.cell x cl (.inl Ky) J8) q
  |free=>exact xE (F.has x (.inr Ky)) λcl J8=>wpAny_loadName_free kf Ky J8 (hv▸F.cell x cl (.inr Ky) J8) q hc
  |_=>rw[e]at hk;contradiction
theorem bV(i:Nat)(hx:c.names[i]? = some x)(hd:O[i]? = some (.mu a ob))(hk:mW (c.sc.names.lookup x)=true:=by kernel_rfl)(hn:(x==("__debug__" : Str))=false:=by rfl)(hc:(x==("__classdict__" : Str))=false:=by rfl):Ev T c O (.Name x p) (.ref a):=by constructor;intros;refine b9.el JE.ex λm F S=>?_;obtain⟨l,r,ea,Pv,_⟩:=S.muAt hx hd;exact wpAny_Name (uL ok F Pv hk hc (q _ _ (ao.refl s) (.ref a))) hn
theorem nq{ZV:Env}{ms₀ as:List Addr}{o o':Mu}(JE:aC w c.wr ZV c.names Hy ms₀ as O h)(hx:c.names[i]? = some x)(hd:O[i]? = some (.mu a o))(hs:Heap.SameBut a h h')(mr:iU w (less h (ms₀++as)) h' a o'):aC w c.wr ZV c.names Hy ms₀ as (O.set i (.mu a o')) h'/\am (less h (ms₀++as)) (less h' (ms₀++as)):=by
 refine b9.el JE.ex λm F S=>?_;refine jg.el (S.muAt hx hd) λl r e Pv Xu up fz=>?_;have nd:=JE.nd;rw[e]at nd;have Ke:a∉l++r:=(QY.mp ((RZ (l₁:=l) (a:=a) (l₂:=r)).nodup_iff.mp nd)).1;have KI:a∈as:=e▸Qy _ (QH);have hl:=JE.loc a KI;have sk:am (less h (ms₀++as)) (less h' (ms₀++as)):=λb o qs z=>by rw[ab]at z ⊢;exact⟨z.1,(hs.2 b λy=>z.1 (Qy _ (y▸KI))).trans z.2⟩
 refine⟨⟨⟨m,?_,up h' o' sk (λb hb ob e=>(hs.2 b λy=>Ke (y▸hb)).trans e) (mr.keep sk λU e=>e)⟩,JE.nd,JE.new,JE.old,JE.loc⟩,sk⟩;refine ay F.ns λml hn Lc=>?_;refine ay Xu.there λob Pw JM=>?_;refine⟨⟨ml,?_,Lc⟩,λy cl hk hc=>?_,F.has,F.apart,F.off,λb o Uv=>(hs.2 b λy=>?_).trans (F.keep b o Uv),F.above,F.Z1⟩
 ·exact jy hn λo es ep ho JM rest=>⟨o,es,ep,(hs.2 _ λy=>hl.1 y.symm).trans ho,JM,rest⟩
 ·refine ay (F.cell y cl hk hc) λo ho MV=>?_
  refine⟨o,(hs.2 _ λz=>?_).trans ho,MV⟩;rw[z,Pw]at ho;obtain rfl:=QG ho;rcases JM with⟨v,n,h⟩|⟨v,n,h⟩<;>rw[MV]at h<;>contradiction
 ·rw[y,JE.new _ KI]at Uv;exact nS Uv
structure cB(o:PySem.Expr)(name:Str)(J7 pos:Pos)(JZ:List PySem.Expr):Prop where
 base:∀ZV,attributeBase o name ZV (eval o ZV)=eval o ZV
 few:∀ZV,((backTo pos (starEach JZ ZV)).all (λx=>!x.1)&&(backToKw pos (keywordEach [] ZV)).all (λx=>x.1.isSome)&&decide (JZ.length+([]:List Keyword).length+(if([]:List Keyword).isEmpty then 0 else 1)<30))=true
 line:(J7.endLine==pos.line)=true
 plain:∀ZV,(backTo pos (starEach JZ ZV)).any (·.1)=false
theorem cV{ZV:Env}{ms₀ as:List Addr}(JE:aC w c.wr ZV c.names Hy ms₀ as O h)(hx:c.names[i]? = some x)(hd:O[i]? = some (.mu a (.list ds))):
  nY (less h (ms₀++as)) h a ds:=by
 refine b9.el JE.ex λm F S=>?_;exact jg.el (S.muAt hx hd) λl r e Pv Xu up fz=>Xu
theorem eN(i:Nat)(hr:Ev T c O o (.ref a))(h:rn T c O [e] [d])(hx:c.names[i]? = some x)(hd:O[i]? = some (.mu a (.list ds)))(ct:cB o "append" p2 p3 [e])(JW:Ω1 e)(hsz:ds.length<=sizeLine)(hi:∀ZV,aD c ZV->interactive ZV=false)(MX:∀ZV,swapsWith (.Call (.Attribute o "append" p2) [e] [] p3) none p4.line ZV=pure false)(hp:P .next (O.set i (.mu a (.list (ds++[d]))))):W1 T c O (.Expr (.Call (.Attribute o "append" p2) [e] [] p3) p4) P:=by
 constructor;intros;refine wpAny_Expr_any (R2 (ct.base ZV) (ct.few ZV) ct.line SW slot_list_append type_list_append (hr.run ok tp R JE λv UM Uq rv=>?_)) (hi ZV ok) (MX ZV);obtain⟨_,rfl⟩:=rv.inv;have Ux:=JE.grow Uq.keep;refine nY.el (cV Ux hx hd) λvs n KC Mo=>?_;refine⟨⟨_,KC,rfl⟩,λa' e'=>?_,?_⟩
 ·obtain rfl:=Sn e';exact⟨_,KC,rfl⟩
 ·have hh:=h.run (E:=E) (Q:=(λUz HX=>wpAny (model P0 w) A (call (.builtin "list.append") (.ref a::Uz)) (λU=>Q .next) E HX)) ok tp R Ux (λUz HX Uf JL=>?_) p3
  ·refine Rm (ct.plain ZV) ?_
   rw[JW ZV]at hh ⊢;exact Ss hh
  ·refine cq.el JL.Z0 λv U U=>?_;subst U;intro rv JL
   obtain rfl:=JL.Z3;refine append_at (hsz:=by rw[QJ,Mo.length];exact hsz) (its:=vs.toArray) (n:=n) (Uf.keep _ _ KC) λh' hs KS=>?_;have Lg:h'.get? a=some (aQ "list" (vs++[v]) (n+1)):=by rw[KS];simp[aQ]
   exact q .next .next _ as _ hp (nq (o':=.list (ds++[d])) (Ux.grow Uf.keep) hx hd hs ⟨_,_,Lg,(Mo.mono (ai Uf.keep)).app (.cons rv .nil)⟩).1 ((Uq.same.trans Uf.same).trans ⟨rfl,rfl,rfl⟩) trivial
theorem mh{t:Nat}(k:∀b o,s.heap.get? b=some o->h'.get? b=some o):ao s { s with heap:=h',toks:=t }:=⟨k,rfl,rfl,rfl⟩
theorem mn(Kq:¬(x.length:Int)>=2^63):Bi n (.builtin "len") [.str x] (.int x.length):=by constructor;intro w A s ms vals Q E R old JL q;refine cq.el JL.Z0 λU U U=>?_;subst U;intro rv JL;obtain rfl:=JL.Z3;refine xE rv.inv λU U=>?_;subst U;exact len_str Kq (q _ _ ax (.int _ _))
theorem mo:Bi n (.builtin "ord") [.str ⟨#[ch]⟩] (.int ch):=by constructor;intro w A s ms vals Q E R old JL q;refine cq.el JL.Z0 λU U U=>?_;subst U;intro rv JL;obtain rfl:=JL.Z3;refine xE rv.inv λU U=>?_;subst U;exact PySem.P.ord_of_char (q _ _ ax (.int _ _))
theorem ug{i:Int}(hi:(decide (i<0)||decide (i>0x10FFFF))=false):Bi n (.builtin "chr") [.int i] (.str ⟨#[i.toNat]⟩):=by constructor;intro w A s ms vals Q E R old JL q;refine cq.el JL.Z0 λU U U=>?_;subst U;intro rv JL;obtain rfl:=JL.Z3;refine xE rv.inv λU U=>?_;subst U;exact PySem.P.chr_of_int hi (q _ _ ax (.str _ _))
theorem ji{a:Int}(ha:a.natAbs.log2<1920):Bi n (.type "str") [.int a] (.str (toString a)):=by constructor;intro w A s ms vals Q E R old JL q;refine cq.el JL.Z0 λU U U=>?_;subst U;intro rv JL;obtain rfl:=JL.Z3;refine xE rv.inv λU U=>?_;subst U;exact PySem.P.str_of_int ha (q _ _ ax (.str _ _))
theorem vA{a b:Int}:Bi n (.builtin "min") [.int a,.int b] (.int (if b<a then b else a)):=by constructor;intro w A s ms vals Q E R old JL q;refine cq.el JL.Z0 λU U U=>?_;subst U;intro rv JL;refine cq.el JL.Z0 λU U U=>?_;subst U;intro K5 JL;obtain rfl:=JL.Z3;refine xE rv.inv λU U=>?_;subst U;refine xE K5.inv λU U=>?_;subst U;refine min_two_ints R.handled λh' tk k=>q _ _ (mh k) ?_;split<;>exact .int _ _
theorem sj{x y:Str}{id:String}(h:Ev T c O o (.str x))(ct:cB o name J7 pos [])(XR:PySem.Slot "str" name id)(PK:typeOf (.builtin id)=pure (.type "method_descriptor"))(hc:∀(w:World)(A:Around)(s:Shared)(t:Tok)(Q:Ω)(E:Ω),aZ c.n A->(∀t',Q (.str y t') { s with toks:=s.toks+1 })->wpAny (model P0 w) A (call (.builtin id) [.str x t]) Q E s):
  Ev T c O (.Call (.Attribute o name J7) [] [] pos) (.str y):=by
 constructor;intros;refine R2 (ct.base ZV) (ct.few ZV) ct.line PySem.F.plainAttrs_str XR PK (h.run ok tp R JE λv HX Uf rv=>?_);refine RV.strK rv λt U=>?_;subst U;exact⟨typeIs_str _ _ _,(λU e=>nomatch e),Rm (ct.plain ZV) (PyProof.Rows.evalArgs_none (hc w A HX t Q E R λt'=>q _ _ (Uf.trans ax) (.str _ _)))⟩
theorem eT(h:Ev T c O o (.str x))(ct:cB o "lower" J7 pos [])(Kq:Builtin.Str.tooLong (Txt.lower x).length=false):Ev T c O (.Call (.Attribute o "lower" J7) [] [] pos) (.str (Txt.lower x)):=
 sj h ct PySem.F.slot_str_lower PySem.F.type_str_lower λw A s t Q E R q=>PySem.SC.lower Kq (q _)
theorem hV(h:Ev T c O o (.str x))(ct:cB o "upper" J7 pos [])(Kq:Builtin.Str.tooLong (Txt.upper x).length=false):Ev T c O (.Call (.Attribute o "upper" J7) [] [] pos) (.str (Txt.upper x)):=
 sj h ct PySem.F.slot_str_upper PySem.F.type_str_upper λw A s t Q E R q=>PySem.SC.upper Kq (q _)
theorem iA(h:Ev T c O o (.str x))(he:Ev T c O e (.list (ys.map .str)))(ct:cB o "join" J7 pos [e])(JW:Ω1 e)(Kf:(ys.map (·.length)).sum+ys.length*x.length<=16777216):Ev T c O (.Call (.Attribute o "join" J7) [e] [] pos) (.str (Txt.join x ys)):=by
 constructor;intros;refine R2 (ct.base ZV) (ct.few ZV) ct.line PySem.F.plainAttrs_str PySem.F.slot_str_join PySem.F.type_str_join (h.run ok tp R JE λv HX Uf rv=>?_);refine RV.strK rv λt U=>?_;subst U;refine⟨typeIs_str _ _ _,(λU e=>nomatch e),Rm (ct.plain ZV) ?_⟩;have hh:=(bC he ad JW).run (E:=E) (Q:=(λUz Ug=>wpAny (model P0 w) A (call (.builtin "str.join") (.str x t::Uz)) Q E Ug)) ok tp R (JE.grow Uf.keep) (λUz Ug Uh JL=>?_) pos
 ·rw[JW ZV]at hh ⊢
  exact Ss hh
 ·refine cq.el JL.Z0 λU U U=>?_;subst U;intro rv JL
  obtain rfl:=JL.Z3;refine dK.el rv.inv λl vs n' U=>?_;subst U;intro hg JL;have hl:Ug.heap.IsList l vs.toArray:=⟨_,(ab.mp hg).2,rfl,n',rfl⟩;refine PyProof.Rows.join_list hl ?_ Kf λt' k=>q _ _ ((Uf.trans Uh).trans ax) (.str _ _)
  have:∀{ys:List Str}{vs:List Value},aX (less Ug.heap (ms₀++as)) (ys.map .str) vs->StrsAre vs ys:=by
   intro ys;induction ys with
   |nil=>intro vs r;obtain rfl:=r.Z3;exact .nil
   |cons y ys ih=>intro vs r;obtain _|⟨rv,r⟩:=r;refine xE rv.inv λU U=>?_;subst U;exact .cons _ _ (ih r)
  simpa using this JL
structure cC(d:D)(b:Bool):Prop where
 run:∀(w:World)(A:Around)(s:Shared)(ms:List Addr)(v:Value)(Q:Bool->Shared->Prop)(E:Ω),RV (less s.heap ms) d v->(∀s',ao s s'->Q b s')->wpAny (model P0 w) A (truthy v) Q E s
theorem j6{b:Bool}:cC (.bool b) b:=⟨λw A s ms v Q E rv q=>by obtain⟨_,rfl⟩:=rv.inv;exact SH (q s (ao.refl s))⟩
theorem qZ{i:Int}:cC (.int i) (i != 0):=⟨λw A s ms v Q E rv q=>by refine xE rv.inv λU U=>?_;subst U;exact PySem.P.truthy_int (q s (ao.refl s))⟩
theorem CX(Kq:¬(x.length:Int)>=2^63):cC (.str x) ((x.length:Int) != 0):=⟨λw A s ms v Q E rv q=>by refine xE rv.inv λU U=>?_;subst U;exact PySem.P.truthy_str Kq (q _ ax)⟩
theorem cP{b:Bool}(h:Ev T c O e d)(ht:cC d b)(he:∀ZV Kb,isTrue e ZV Kb=(do let v <-Kb;standAt e.pos;holding [v] (truthy v)):=by intros;rfl):Tr T c O e b:=by constructor;intros;exact isTrue_plain (h.run ok tp R JE λv HX Uf rv=>(ht.run w A HX _ v Q E rv λs' a=>q s' (Uf.trans a))) (he ZV _)
noncomputable def qU(ds:List D)(lo hi:Option Int):List D:=(sliceRange (sliceBounds lo hi none ds.length).1 (sliceBounds lo hi none ds.length).2.1 (sliceBounds lo hi none ds.length).2.2).filterMap (ds[·]?)
theorem aX.pick(r:aX g ds vs):∀(is:List Nat),aX g (is.filterMap (ds[·]?)) (is.filterMap (vs[·]?)):=by
 intro X_;induction X_ with
 |nil=>exact .nil
 |cons i is IH=>
  have hl:=r.length;rcases e:ds[i]? with _|d
  ·have e':vs[i]? = none:=by rw[List.getElem?_eq_none_iff]at e ⊢;exact le_of_eq_of_le hl e
   rw[List.filterMap_cons_none e,List.filterMap_cons_none e'];exact IH
  ·refine ay (r.get e) λv e' rv=>?_
   rw[List.filterMap_cons_some e,List.filterMap_cons_some e'];exact .cons rv (IH)
section
variable(T:a6)(c:Cx)
inductive rD(O:St):Option PySem.Expr->Option Int->Prop
 |no:rD O none none
 |int {e:PySem.Expr} {i:Int}:Ev T c O e (.int i)->rD O (some e) (some i)
 |none {e:PySem.Expr}:Ev T c O e .none->rD O (some e) none
end
theorem lT{o:Option PySem.Expr}{p:Option Int}(h:rD T c O o p){ZV:Env}{ms₀ as:List Addr}(ok:aD c ZV)(tp:T.Tp w Hy)(R:aZ c.n A)(JE:aC w c.wr ZV c.names Hy ms₀ as O s.heap)(q:∀v s',ao s s'->IsPart v p->Q v s'):wpAny (model P0 w) A (evalPart o ZV) Q E s:=by
 cases h with
 |no=>exact QD (q _ _ (ao.refl s) .none)
 |int h=>exact h.run ok tp R JE λv s' a rv=>by refine xE rv.inv λU U=>?_;subst U;exact q _ _ a (.int _ _)
 |none h=>exact h.run ok tp R JE λv s' a rv=>by obtain⟨_,rfl⟩:=rv.inv;exact q _ _ a .none
theorem io{value:PySem.Expr}{lo hi:Option PySem.Expr}{o i:Value}{t id:String}(hT:s.TypeIs o t)(hl:typeLookup (.type t) "__getitem__" = pure (some (.builtin id)))(h:wpAny (model P0 w) A (getItem o i) Q E s):wpAny (model P0 w) A (subscriptTail value (.Slice lo hi none p) o i) Q E s:=by
 refine GA ?_;rw[getitemInPython_of_ne hT.not_modules];refine GA (wpAny_specialOf hT hl ?_);have Ks:wpAny (model P0 w) A (subscripted (.Slice lo hi none p) false o i) (λr Ui=>wpAny (model P0 w) A (letTemporaryGo value o r >>= λU=>pure r) Q E Ui) E s:=by exact wpAny_operating (Rt h (λr Ui UI=>GA (wpAny_letTemporaryGo (QD UI))) λU U x=>x)
 first
  |exact QD (GA Ks)
  |exact GA (QD (GA Ks))
  |exact GA Ks
theorem bK{value:PySem.Expr}{lo hi:Option PySem.Expr}{i j:Option Int}(hv:Ev T c O value (.str x))(hl:rD T c O lo i)(hu:rD T c O hi j)(hsz:x.length<=sizeLine):Ev T c O (.Subscript value (.Slice lo hi none p) p') (.str (Txt.slice x i j)):=by
 constructor;intros;refine R0 (hv.run ok tp R JE λo HX Uf ro=>?_);have Uk:=JE.grow Uf.keep;refine wpAny_Slice (lT hl ok tp R Uk λl Ug Uh pl=>lT hu ok tp R (Uk.grow Uh.keep) λu Ui Uj pu=>QD ?_);refine RV.strK ro λt U=>?_;subst U;have Vo:=(Uf.trans Uh).trans Uj;have kp:KeptH λh'=>∀b o,Ui.heap.get? b=some o->h'.get? b=some o:=λh ob k b o e=>QF _ (k b o e);have Ks:∀(h':Heap)(t' k:Nat),(∀b o,Ui.heap.get? b=some o->h'.get? b=some o)->Q (.str (Txt.slice x i j) t') { Ui with heap:=h',toks:=k }:=λh' t' k kk=>q _ _ (Vo.trans (mh kk)) (.str _ _);have go:∀{Qx:Prop},ItemOn (model P0 w) A E (.str x t) (.ref Ui.heap.objs.size) Q { Ui with heap:=Ui.heap.push { cls:=.type "slice",data:=.fields #[l,u,.none] } }->wpAny (model P0 w) A (subscriptTail value (.Slice lo hi none p) (.str x t) (.ref Ui.heap.objs.size)) Q E { Ui with heap:=Ui.heap.push { cls:=.type "slice",data:=.fields #[l,u,.none] } }:=λ⟨T',id,h1,h2,h3⟩=>io h2 h1 h3;refine go (Qx:=True) ?_;cases pl<;>cases pu
 ·exact SBH.sliceItem_nn kp (λU U e=>e) (λh' t' k kk=>Ks h' t' k kk) hsz
 ·exact SBH.sliceItem_ns kp (λU U e=>e) (λh' t' k kk=>Ks h' t' k kk) hsz
 ·exact SBH.sliceItem_sn kp (λU U e=>e) (λh' t' k kk=>Ks h' t' k kk) hsz
 ·exact SBH.sliceItem_ss kp (λU U e=>e) (λh' t' k kk=>Ks h' t' k kk) hsz
theorem oy{value:PySem.Expr}{lo hi:Option PySem.Expr}{i j:Option Int}(hv:Ev T c O value (.list ds))(hl:rD T c O lo i)(hu:rD T c O hi j)(hsz:ds.length<=sizeLine):Ev T c O (.Subscript value (.Slice lo hi none p) p') (.list (qU ds i j)):=by
 constructor;intros;refine R0 (hv.run ok tp R JE λo HX Uf ro=>?_);have Uk:=JE.grow Uf.keep;refine wpAny_Slice (lT hl ok tp R Uk λl Ug Uh pl=>lT hu ok tp R (Uk.grow Uh.keep) λu Ui Uj pu=>QD ?_);have ro':=ro.mono (ai (ms:=ms₀++as) (λb o e=>QF { cls:=.type "slice",data:=.fields #[l,u,.none] } (Uj.keep _ _ (Uh.keep b o e))));refine dK.el ro'.inv λa vs n' U hg JL=>?_;subst U;have PA:=(ab.mp hg).2;have Vo:=(Uf.trans Uh).trans Uj;have UH:=JE.grow (Vo.trans (az (o:={ cls:=.type "slice",data:=.fields #[l,u,.none] }) (t:=Ui.toks))).keep;refine io (t := "list") (id := "list.__getitem__") ⟨_,PA,rfl⟩ slot_list_getitem.lookup ?_;have JF:=JL.length;refine wpAny_getItem_list_slice (items:=vs.toArray) (lo:=i) (hi:=j) (st:=none) ⟨_,PA,rfl,n',rfl⟩ (Heap.IsSliceOf.new _ _ _ _) pl pu .none nofun ?_ (by rw[QJ,JF];exact hsz);refine q _ _ ((Vo.trans az).trans az) (.list (vs:=(sliceRange (sliceBounds i j none ds.length).1 (sliceBounds i j none ds.length).2.1 (sliceBounds i j none ds.length).2.2).filterMap (vs[·]?)) (n:=0) ?_ ?_)
 ·rw[ab]
  refine⟨gr UH (QO _),?_⟩;refine(dC rfl).trans ?_;unfold slicePick;simp only[QJ,JF,Q6]
 ·exact(JL.pick _).mono (ai λU U e=>QF _ e)
section
variable(c:Cx)
structure IE(O:St)(ns:List Str)(ds:List D)(Wj:St):Prop where
 run:∀{w:World}{A:Around}{ZV:Env}{Hy:Heap}{ms₀ as:List Addr}{s:Shared}{vs:List Value}{Q:Unit->Shared->Prop}{E:Ω},
  aD c ZV->aC w c.wr ZV c.names Hy ms₀ as O s.heap->aX (less s.heap (ms₀++as)) ds vs->
  (∀s',aC w c.wr ZV c.names Hy ms₀ as Wj s'.heap->bP s s'->aN s.heap s'.heap->Q () s')->wpAny (model P0 w) A (assignInOrder (ns.map λn=>bindName ZV n) vs) Q E s
end
theorem vB:IE c O [] [] O:=⟨@λw A ZV Hy ms₀ as s vs Q E ok JE JL q=>assignInOrder_nil (q s JE (bP.refl s) (.refl _))⟩
theorem jB(i:Nat){o:Slot}(hx:c.names[i]? = some x)(ho:O[i]? = some o)(hm:o.ZW=false)(hk:b8 c x=true)(h:IE c (O.set i (.val d)) ns ds Wj):IE c O (x::ns) (d::ds) Wj:=by constructor;intro w A ZV Hy ms₀ as s vs Q E ok JE JL q;refine aX.Z9 JL λU U U rv JL=>?_;subst U;clear JL;exact assignInOrder_cons (bindName_ (bU ok JE hx ho hm hk rv λHX Uk sm k=>(h.run ok Uk (JL.mono k.less) λUg Um UP k₂=>q Ug Um (sm.trans UP) (k.trans k₂))))
theorem aX.rev(h:aX g ds vs):aX g ds.reverse vs.reverse:=by
 induction ds generalizing vs with
 |nil=>obtain rfl:=aX.Z3 h;exact .nil
 |cons d ds ih=>refine aX.Z9 h λU U U a r=>?_;subst U;rw[Sk,Sk];exact(ih r).app (.cons a .nil)
theorem dm(h:Ev T c O e d)(ht:Tg c O (.Tuple elts k tp) d Wj)(hs:∀ZV,swapsWithSole [.Tuple elts k tp] e p.line ZV=pure false)(hw:∀ZV,aD c ZV->swappedStores [.Tuple elts k tp] e ZV=pure none)(hp:P .next Wj):W1 T c O (.Assign [.Tuple elts k tp] e p) P:=by
 constructor;intro w A ZV Hy ms₀ as s Q E ok Kv R JE q;exact Assign_Tuple (h.run ok Kv R JE λv HX Uf rv=>(ht.run ok R (JE.grow Uf.keep) rv λUg Um sm k=>q .next .next Wj as Ug hp Um (Uf.same.trans sm) trivial)) (hs ZV) (hw ZV ok)
theorem kc(h:Ev T c O e (.tup ds))(hn:ns.length=ds.length)(ht:IE c O ns.reverse ds.reverse Wj)(hs:∀ZV,swapsWithSole [.Tuple elts k tp] e p.line ZV=pure false)(hw:∀ZV,aD c ZV->swappedStores [.Tuple elts k tp] e ZV=pure (some ns))(hp:P .next Wj):W1 T c O (.Assign [.Tuple elts k tp] e p) P:=by
 constructor;intro w A ZV Hy ms₀ as s Q E ok Kv R JE q;refine Assign_Tuple_swapped (names:=ns) (h.run ok Kv R JE λv HX Uf rv=>?_) (hs ZV) (hw ZV ok);obtain⟨a,ob,vs,n,rfl,hg,J8,JM,JL⟩:=rv.inv;have hl:HX.heap.IsTuple a vs.toArray:=⟨_,(ab.mp hg).2,J8,n,JM⟩;have hsz:ns.length=vs.toArray.size:=by rw[QJ,JL.length];exact hn
 rw[hsz];refine wpAny_unpackItems_tuple R.handled hl λh' hx=>?_;have Uh:=cD hx;exact ht.run ok ((JE.grow Uf.keep).grow Uh.keep) (JL.rev.mono (ai Uh.keep)) λUg Um sm k=>q .next .next Wj as Ug hp Um ((Uf.trans Uh).same.trans sm) trivial
theorem gA{Wn:PySem.Expr}(I:Nat->St->Prop)(n:Nat)(h0:I n O)(step:∀n O,I n O->∃b,Tr T c O Wn b/\(b=true->W T c O body (λfl Wj=>match fl with
   |.next=>∃m,m<n/\I m Wj
   |.cont=>∃m,m<n/\I m Wj
   |.brk=>P .next Wj
   |.ret r=>P (.ret r) Wj))/\(b=false->P .next O)):W1 T c O (.While Wn body [] p) P:=by
 constructor;intros;refine wpAny_While (codeAny_whileLoop (I:=λn s'=>∃Wj as',I n Wj/\aC w c.wr ZV c.names Hy ms₀ as' Wj s'.heap/\bP s s') ?_ n ⟨O,as,h0,JE,bP.refl s⟩);rintro n HX ⟨UB,VV,hI,Uk,VJ⟩;refine eG (step n UB hI) λb ht hb hf=>?_;refine ht.run ok tp R Uk λUg Uh=>?_;have Um:=Uk.grow Uh.keep;cases b with
 |false=>rw[Q5 dk];exact Ud (q .next .next UB VV Ug (hf rfl) Um (VJ.trans Uh.same) trivial)
 |true=>
  rw[Rb rfl];refine(hb rfl).run ok tp R Um λfl f Vp Vq Ui hp Uo Ut fr=>?_;have O9:=(VJ.trans Uh.same).trans Ut;cases fl with
  |next=>obtain rfl:=iB fr;refine ay hp λm hm Ye=>?_;exact⟨m,hm,Vp,Vq,Ye,Uo,O9⟩
  |cont=>obtain rfl:=qx fr;refine ay hp λm hm Ye=>?_;exact⟨m,hm,Vp,Vq,Ye,Uo,O9⟩
  |brk=>obtain rfl:=uB fr;exact q .next .next Vp Vq Ui hp Uo O9 trivial
  |ret d=>refine ay (uC fr) λv U rv=>?_;subst U;exact q (.ret d) _ Vp Vq Ui hp Uo O9 rv
section
set_option maxRecDepth 4000
section
theorem gO(vs:List Value)(n:Nat)(i:Nat)(x:Value):Obj.mapSeq (·.setIfInBounds i x) (aQ "list" vs n)=aQ "list" (vs.set i x) n:=by simp[Obj.mapSeq,aQ]
theorem nM{l:Addr}{t:Tok}{Q:Unit->Shared->Prop}(ho:s.heap.get? l=some (aQ "list" vs n))(Kq:(k:Int)<2^63)(hn:k<vs.length)(hQ:∀h' n',h'.get? l=some (aQ "list" (vs.set k v) n')->Heap.SameBut l s.heap h'->Q () { s with heap:=h' }):
  wpAny (model P0 w) A (setItem (.ref l) (.int k t) v) Q E s:=by
 have hl:s.heap.IsList l vs.toArray:=⟨_,ho,rfl,n,rfl⟩;generalize XB:(k:Int)=kk at Kq ⊢;have hx:vs.toArray[k]? = some vs[k]:=by rw[Q6,QE hn]
 unfold setItem;try with_reducible refine RL ?_
 first|refine GA (QD ?_)|skip
 refine GA (wpAny_sequenceKey hl.typeIs dk ?_);refine GA (R3 (name:=Str.ofString "__setitem__") hl.typeIs TL
  (RM TL hl.typeIs PySem.entry_list_setitem ?_ (PySem.args_list_setitem _ _ _)))
 refine GA (wpAny_of_eq (a:=(Value.ref l,[Value.int kk t,v])) (Z 1) ?_);refine GA (wpAny_listSubscript_int (fitsIndex_of (XB▸Rv k) Kq) ?_);subst XB;refine GA (GA (wpAny_seqItemAt ho rfl (QD ?_)));rw[hx];have MN:(s.heap.update l (Obj.mapSeq (·.setIfInBounds k v))).get? l=some (aQ "list" (vs.set k v) n):=by rw[Rk _ ho (by rw[gO];rfl),gO]
 refine GA (wpAny_setSeqItemAt ho rfl ?_);first
  |exact GA (QD (QD ⟨.none,rfl,QD (hQ _ _ MN (Rz ..))⟩))
  |exact QD ⟨.none,rfl,QD (hQ _ _ MN (Rz ..))⟩
theorem tB{l:Addr}{t:Tok}{Q:Unit->Shared->Prop}(ho:s.heap.get? l=some (aQ "list" vs n))(Kq:-(2^63)<=Int.negSucc j)(hk:j+k+1=vs.length)(hQ:∀h' n',h'.get? l=some (aQ "list" (vs.set k v) n')->Heap.SameBut l s.heap h'->Q () { s with heap:=h' }):
  wpAny (model P0 w) A (setItem (.ref l) (.int (Int.negSucc j) t) v) Q E s:=by
 have hl:s.heap.IsList l vs.toArray:=⟨_,ho,rfl,n,rfl⟩;have hn:k<vs.length:=by lia
 have hx:vs.toArray[k]? = some vs[k]:=by rw[Q6,QE hn]
 have h0:Int.negSucc j<0:=Int.negSucc_lt_zero j;have WS:=seqIndex_neg (n:=vs.toArray.size) h0 (by rw[QJ];lia);have XB:(Int.negSucc j+(vs.toArray.size:Int)).toNat=k:=by rw[QJ];lia
 rw[XB]at WS;generalize hjj:Int.negSucc j=kk at Kq h0 ⊢;unfold setItem;try with_reducible refine RL ?_
 first|refine GA (QD ?_)|skip
 refine GA (wpAny_sequenceKey hl.typeIs dk ?_);refine GA (R3 (name:=Str.ofString "__setitem__") hl.typeIs TL
  (RM TL hl.typeIs PySem.entry_list_setitem ?_ (PySem.args_list_setitem _ _ _)))
 refine GA (wpAny_of_eq (a:=(Value.ref l,[Value.int kk t,v])) (Z 1) ?_);refine GA (wpAny_listSubscript_int (fitsIndex_neg h0 Kq) ?_);subst hjj;refine GA (GA ?_);refine GA (SY ho rfl (QD (QD ?_)));rw[WS];simp only[Option.bind_some,hx,Option.map_some];have MN:(s.heap.update l (Obj.mapSeq (·.setIfInBounds k v))).get? l=some (aQ "list" (vs.set k v) n):=by rw[Rk _ ho (by rw[gO];rfl),gO]
 refine GA (wpAny_setSeqItemAt ho rfl ?_);first
  |exact GA (QD (QD ⟨.none,rfl,QD (hQ _ _ MN (Rz ..))⟩))
  |exact QD ⟨.none,rfl,QD (hQ _ _ MN (Rz ..))⟩
end
end
theorem cg(i:Nat){k:Int}(hr:Ev T c O o (.ref a))(hx:c.names[i]? = some x)(hd:O[i]? = some (.mu a (.list ds)))(hi:Ev T c O slice (.int k))(hj:seqIndex? k ds.length=some j)(Ph:ds[j]? = some d)(h1:-(2^63)<=k)(h2:k<2^63)(hs:∀o i,subscripted slice false o i=operate [o,i] (getItem o i)):Ev T c O (.Subscript o slice p) d:=by
 constructor;intros;refine R0 (hr.run ok tp R JE λv UM Uq rv=>?_);obtain⟨_,rfl⟩:=rv.inv;refine hi.run ok tp R (JE.grow Uq.keep) λiv HX Uf ri=>?_;refine RV.intK ri λt U=>?_;subst U;have af:=Uq.trans Uf;refine nY.el (cV (JE.grow af.keep) hx hd) λvs n VK JL=>?_;have hl:HX.heap.IsList a vs.toArray:=⟨_,VK,rfl,n,rfl⟩;refine im (t := "list") (id := "list.__getitem__") ⟨_,VK,rfl⟩ slot_list_getitem.lookup ?_ (hs _ _);refine ay (JL.get Ph) λv hv rv=>?_;refine jd (CM hj) λq1 q2 q3=>?_;have JF:vs.toArray.size=ds.length:=by rw[QJ];exact JL.length
 by_cases h0:0<=k
 ·refine wpAny_getItem_list hl h0 h2 (x:=v) ?_ (q _ _ af rv)
  rw[(q1 h0).1,Q6];exact hv
 ·refine wpAny_getItem_list_neg hl (by exact Tk h0) (by rw[JF];exact(q2 (by exact Tk h0)).2) h1 (x:=v) ?_ (q _ _ af rv)
  rw[JF,(q2 (by exact Tk h0)).1,Q6];exact hv
theorem jx(i:Nat){k:Int}(he:Ev T c O e d)(hr:Ev T c O o (.ref a))(hx:c.names[i]? = some x)(hd:O[i]? = some (.mu a (.list ds)))(hi:Ev T c O slice (.int k))(hj:seqIndex? k ds.length=some j)(h1:-(2^63)<=k)(h2:k<2^63)(hs:∀ZV,swapsWith e (some (.Subscript o slice p2)) p.line ZV=pure false)(hp:P .next (O.set i (.mu a (.list (ds.set j d))))):W1 T c O (.Assign [.Subscript o slice p2] e p) P:=by
 constructor;intros;refine wpAny_Assign_Subscript (he.run ok tp R JE λv HX Uf rv=>?_) (hs ZV);have Uk:=JE.grow Uf.keep;refine hr.run ok tp R Uk λov Ug Uh ro=>?_;obtain⟨_,rfl⟩:=ro.inv;have Um:=Uk.grow Uh.keep;refine hi.run ok tp R Um λiv Ui Uj ri=>?_;refine RV.intK ri λt U=>?_;subst U;have Uo:=Um.grow Uj.keep;refine nY.el (cV Uo hx hd) λvs n KC JL=>?_;have af:=(Uf.trans Uh).trans Uj;refine jd (CM hj) λq1 q2 q3=>?_;have Ks:∀h' n',h'.get? a=some (aQ "list" (vs.set j v) n')->Heap.SameBut a Ui.heap h'->Q .next { Ui with heap:=h' }:=λh' n' Lc MG=>
  q .next .next _ as _ hp (nq (o':=.list (ds.set j d)) Uo hx hd MG ⟨_,_,Lc,JL.set j ((rv.mono (ai Uh.keep)).mono (ai Uj.keep))⟩).1 (af.same.trans ⟨rfl,rfl,rfl⟩) trivial
 by_cases h0:0<=k
 ·refine xA (q1 h0) λe1 e2=>?_
  refine xE (Int.eq_ofNat_of_zero_le h0) λkk U=>?_;subst U;have e1:kk=j:=e1;subst e1;exact nM KC h2 (by rw[JL.length];exact q3) Ks
 ·refine xA (q2 (by exact Tk h0)) λe1 e2=>?_
  cases k with
  |ofNat n=>exact absurd (Rv n) h0
  |negSucc m=>exact tB KC h1 (k:=j) (by rw[JL.length];lia) Ks
theorem tt(is:List Int):∀n,n<=is.length->preSum (λi=>is.getD i 0) n=(is.take n).sum:=by
 intro X_;induction X_ with
 |zero=>intro _;simp[preSum]
 |succ n IH=>
  intro h;rw[preSum,IH (by exact T2 h),Sj,List.sum_append]
  have:is[n]? = some is[n]:=QE (by exact Nat.lt_of_succ_le h)
  simp[List.getD,this]
theorem yx{is:List Int}:Bi n (.builtin "sum") [.list (is.map .int)] (.int is.sum):=by
 constructor;intro w A s ms vals Q E R old JL q;refine cq.el JL.Z0 λU U U=>?_;subst U;intro rv JL;obtain rfl:=JL.Z3;refine dK.el rv.inv λl vs n' U=>?_;subst U;intro hg JL;have Kc:=(ab.mp hg).2;have hl:s.heap.IsList l vs.toArray:=⟨_,Kc,rfl,n',rfl⟩;have JO:=ni Kc;have JF:=JL.length;rw[Qs]at JF;refine call_sum_walkG (wpAny_pyIter_list hl ?_);refine⟨s.heap.objs.size,[s.heap.objs.size,l],[s.heap.objs.size],_,_,_,λi=>is.getD i 0,rfl,Walks.list (A:=A.in1) R.handled _ l JO vs.toArray,⟨⟨_,Q2 _ rfl,rfl,rfl⟩,⟨_,QF _ Kc,rfl,n',rfl⟩⟩,?_,?_,?_⟩
 ·intro b hb
  rw[Rq];rcases Qw.mp hb with e|hb
  ·rw[e];exact Rf _
  ·rw[QB.mp hb];exact RN (Rx Kc)
 ·intro i v hv
  have hv:vs.toArray[i]? = some v:=hv;rw[Q6]at hv;have hi:i<is.length:=by
   have:=(Q0.mp hv).1
   exact Nat.lt_of_lt_of_eq this JF
  obtain⟨v',e,rv⟩:=JL.get (i:=i) (d:=.int is[i]) (by rw[QX,QE hi];rfl);rw[hv]at e;obtain rfl:=QG e;generalize hgi:is[i]=z at rv;refine RV.intK rv λt U=>?_;subst U;exact⟨t,by simp[List.getD,QE hi,hgi]⟩
 ·intro h' tk t' hk
  have hs:preSum (λi=>is.getD i 0) vs.toArray.size=is.sum:=by rw[QJ,JF,tt is _ (QO _),Tj]
  rw[hs];exact q _ _ ⟨λb o e=>hk b o (λz=>ni e (QB.mp z)) (QF _ e),rfl,rfl,rfl⟩ (.int _ _)
theorem cZ{l r:PySem.Expr}(ha:Ev T c O l (.list as'))(hb:Ev T c O r (.list bs))(hsz:as'.length+bs.length<=sizeLine):Ev T c O (.BinOp l .Add r p) (.list (as'++bs)):=by constructor;intros;refine wpAny_BinOp (ha.run ok tp R JE λx HX Uf rx=>?_);refine hb.run ok tp R (JE.grow Uf.keep) λy Ug Uh ry=>?_;have rx:=rx.mono (ai (ms:=ms₀++as) Uh.keep);refine dK.el rx.inv λa vs n U hg JL=>?_;subst U;refine dK.el ry.inv λa' vs' n' U Kc MH=>?_;subst U;have Um:=(JE.grow Uf.keep).grow Uh.keep;refine PySem.P.add_list (items:=vs.toArray) (items2:=vs'.toArray) (ab.mp hg).2 (ab.mp Kc).2 ?_ (by rw[QJ,QJ,JL.length,MH.length];exact hsz);refine q _ _ ((Uf.trans Uh).trans az) (.list (vs:=vs++vs') (n:=0) ?_ ((JL.app MH).mono (ai λU U e=>QF _ e)));rw[ab];refine⟨gr Um (QO _),(dC rfl).trans ?_⟩;simp[aQ]
inductive Nv where
 |val (d:D)|own (a:Addr) (o:Mu)|gh (a:Addr) (o:Mu)
def SV(w:World)(h:Heap)(ms:List Addr):List Nv->List Value->List Addr->Prop
 |[],vs,new=>vs=[]/\new=[]
 |.val d::os,v::vs,new=>RV (less h ms) d v/\SV w h ms os vs new
 |.own a o::os,v::vs,a'::new=>(a'=a/\v=.ref a)/\iU w (less h ms) h a o/\SV w h ms os vs new
 |.gh a o::os,vs,a'::new=>a'=a/\iU w (less h ms) h a o/\SV w h ms os vs new
 |_,_,_=>False
theorem SV.ind{P:List Nv->List Value->List Addr->Prop}(nil:P [] [] [])(val:∀d v os vs new,RV (less h ms) d v->P os vs new->SV w h ms os vs new->P (.val d::os) (v::vs) new)(own:∀a o os vs new,iU w (less h ms) h a o->P os vs new->SV w h ms os vs new->P (.own a o::os) (.ref a::vs) (a::new))(gh:∀a o os vs new,iU w (less h ms) h a o->P os vs new->SV w h ms os vs new->P (.gh a o::os) vs (a::new)){os:List Nv}(H:SV w h ms os vs new):P os vs new:=by
 induction os generalizing vs new with
 |nil=>refine xA H λU Mp=>?_;subst U;subst Mp;exact nil
 |cons o os ih=>
  cases o with
  |val d=>
   rcases vs with _|⟨v,vs⟩
   ·exact False.elim H
   ·exact val _ _ _ _ _ H.1 (ih H.2) H.2
  |own a o=>
   rcases vs with _|⟨v,vs⟩
   ·exact False.elim H
   ·rcases new with _|⟨b,new⟩
    ·exact False.elim H
    ·obtain⟨⟨rfl,rfl⟩,mr,H⟩:=H;exact own _ _ _ _ _ mr (ih H) H
  |gh a o=>
   rcases new with _|⟨b,new⟩
   ·contradiction<;>exact False.elim H
   ·have H':b=a/\iU w (less h ms) h a o/\SV w h ms os vs new:=by cases vs<;>exact H
    obtain⟨rfl,mr,H⟩:=H';exact gh _ _ _ _ _ mr (ih H) H
theorem SV.gh_{o:Mu}{os:List Nv}(mr:iU w (less h ms) h a o)(H:SV w h ms os vs new):SV w h ms (.gh a o::os) vs (a::new):=by cases vs<;>exact⟨rfl,mr,H⟩
theorem SV.keep(k:am (less h ms) (less h' ms')){os:List Nv}(kl:∀a∈new,∀o,h.get? a=some o->h'.get? a=some o)(H:SV w h ms os vs new):SV w h' ms' os vs new:=
 H.ind (P:=λos vs new=>(∀a∈new,∀o,h.get? a=some o->h'.get? a=some o)->SV w h' ms' os vs new) (λU=>⟨rfl,rfl⟩) (λd v os vs new r ih U kl=>⟨r.mono k,ih kl⟩)
  (λa o os vs new mr ih U kl=>⟨⟨rfl,rfl⟩,mr.keep k (kl a (.head _)),ih λb hb=>kl b (.tail _ hb)⟩) (λa o os vs new mr ih U kl=>SV.gh_ (mr.keep k (kl a (.head _))) (ih λb hb=>kl b (.tail _ hb))) kl
section
variable(T:a6)(c:Cx)
structure yl(O:St)(es:List PySem.Expr)(K:List Nv->Prop):Prop where
 run:∀{w:World}{A:Around}{ZV:Env}{Hy:Heap}{ms₀ as:List Addr}{s:Shared}{Q:List Value->Shared->Prop}{E:Ω},
  ∀(ok:aD c ZV)(tp:T.Tp w Hy)(R:aZ c.n A)(JE:aC w c.wr ZV c.names Hy ms₀ as O s.heap)(q:∀vs s' new os,K os->ao s s'->new.Nodup->(∀a∈new,s.heap.get? a=none)->SV w s'.heap (ms₀++as++new) os vs new->Q vs s'),∀pos,wpAny (model P0 w) A (spliced (backTo pos (starEach es ZV))) Q E s
end
theorem gJ{K:List Nv->Prop}(hk:K []):yl T c O [] K:=⟨@λw A ZV Hy ms₀ as s Q E ok tp R JE q pos=>args_nil (q _ _ [] _ hk (ao.refl s) Rs nofun ⟨rfl,rfl⟩)⟩
theorem jJ{K:List Nv->Prop}(h:Ev T c O e d)(h':yl T c O es (λos=>K (.val d::os)))(he:Ω2 e es):yl T c O (e::es) K:=by
 constructor;intros;refine args_cons (h.run ok tp R JE λv HX Uf rv=>?_) (he ZV);refine h'.run ok tp R (JE.grow Uf.keep) (λvs Ug new os hk Uh nd fr sv=>q (v::vs) Ug new _ hk (Uf.trans Uh) nd (λa ha=>?_) ⟨rv.mono λa o qs z=>?_,sv⟩) pos
 ·rcases q:s.heap.get? a with _|o
  ·rfl
  ·have:=Uf.keep _ _ q;rw[fr a ha]at this;exact nS this
 ·rw[ab]at z ⊢
  refine⟨λy=>?_,Uh.keep _ _ z.2⟩;rcases Qz.mp y with y|y
  ·exact z.1 y
  ·rw[fr a y]at z;cases z.2
theorem aC.hideOne{ZV:Env}{ms₀ as:List Addr}(ok:aD c ZV)(JE:aC w c.wr ZV c.names Hy ms₀ as O s.heap)(Uf:ao s HX)(hn:s.heap.get? a=none)(ha:∃o,HX.heap.get? a=some o)(hb:∀b,b=a->b∉ZV.locals::((c.wr.filterMap λx=>ZV.cells.lookup x)++as)):
  aC w c.wr ZV c.names (Lake.W.under c.wr ZV as HX.heap) (a::ms₀) as O HX.heap/\∀b o,Hy.get? b=some o->(Lake.W.under c.wr ZV as HX.heap).get? b=some o:=by
 refine xA ((JE.grow Uf.keep).under) λKd up=>?_;refine b9.el JE.ex λUQ UA UG=>?_;have F:=UA.grow Uf.keep;refine⟨⟨⟨UQ,⟨F.ns,F.cell,F.has,F.apart,F.off,λb o e=>TH _ e,Sm _ (QH),λx hx cl hc=>Sm _ (QA _ (QM _ (Rn.mpr ⟨x,hx,hc⟩)))⟩,?_⟩,Kd.nd,Kd.new,λb hb'=>?_,JE.loc⟩,up⟩
 ·exact ar.off (mO Uf hn) (λb U o e=>Uf.keep _ _ e) (Z 5) UG
 ·rcases Qw.mp hb' with e|hb'
  ·subst e
   exact xE ha λo e=>⟨o,RJ _ e (hb _ rfl)⟩
  ·exact Kd.old b hb'
theorem fE{K:List Nv->Prop}(h:oI T c O e ob)(h':∀a,yl T c O es (λos=>K (.own a ob::os)))(he:Ω2 e es):yl T c O (e::es) K:=by
 constructor;intros;refine args_cons (h.run ok tp R JE λD Ug Uh M3 mr=>?_) (he ZV);refine ay mr.there λMg ha JM=>?_;have JR:D∉ZV.locals::((c.wr.filterMap λx=>ZV.cells.lookup x)++as):=λz=>by
  refine b9.el JE.ex λm F S=>?_;have hl:=dY F M3;rcases Qw.mp z with z|z
  ·exact hl.2.1 z
  ·rcases Qz.mp z with z|z
   ·exact ay (Rn.mp z) λx hx hc=>hl.2.2 x _ ((ok.kindOf x).trans (ok.wrc x hx)) hc rfl
   ·refine xE (JE.have _ (Qy _ z)) λo e=>?_
    rw[M3]at e;exact nS e
 refine xA (JE.hideOne ok Uh M3 ⟨_,ha⟩ (λb e=>e▸JR)) λUo up=>?_;refine(h' D).run (ms₀:=D::ms₀) ok (T.keeps _ _ _ tp up) R Uo (λvs Ui new os hk Uj nd fr sv=>q (.ref D::vs) Ui (D::new) _ hk (Uh.trans Uj) (QY.mpr ⟨λz=>?_,nd⟩) (λa ha'=>?_) ⟨⟨rfl,rfl⟩,mr.keep ?_ (Uj.keep _),SV.keep (aT λb hb=>?_) (λU U U e=>e) sv⟩) pos
 ·rw[fr D z]at ha;exact nS ha
 ·rcases Qw.mp ha' with e|ha'
  ·subst e;exact M3
  ·rcases q:s.heap.get? a with _|o
   ·rfl
   ·have:=Uh.keep _ _ q;rw[fr a ha']at this;exact nS this
 ·intro b o qs z
  rw[ab]at z ⊢;refine⟨λy=>?_,Uj.keep _ _ z.2⟩;rcases Qz.mp y with y|y
  ·exact z.1 (QA _ y)
  ·rcases Qw.mp y with y|y
   ·exact z.1 (y▸QH)
   ·rw[fr b y]at z;cases z.2
 ·rcases Qz.mp hb with y|y
  ·exact QM _ (QA _ y)
  ·rcases Qw.mp y with y|y
   ·rw[y];exact QM _ QH
   ·exact Qy _ y
section
variable(c:Cx)
structure FL(O:St)(ts:List PySem.Expr)(os:List Nv)(Wj:St):Prop where
 run:∀(w:World)(A:Around)(ZV:Env)(Hy:Heap)(H as new:List Addr)(s:Shared)(vs:List Value)(m:Str->Option Value)(Q:Unit->Shared->Prop)(E:Ω),
  aD c ZV->oJ c.wr ZV Hy s.heap m->ar w s.heap H m c.names O as->SV w s.heap H os vs new->as.Nodup->new.Nodup->(∀a∈new,a∉as)->
  (∀a,a∈as\/a∈new->a≠ZV.locals/\∀x cl,ZV.kindOf x=some .cell->ZV.cells.lookup x=some cl->cl≠a)->
  (∀s' m' as',oJ c.wr ZV Hy s'.heap m'->ar w s'.heap H m' c.names Wj as'->bP s s'->as'.Nodup->(∀a,a∈as'↔a∈as\/a∈new)->Q () s')->wpAny (model P0 w) A (assignInOrder ((assignEach ts ZV).map (·.2)) vs) Q E s
end
noncomputable def Jx:Nv->Bool|.gh _ _=>true|_=>false
def wd(os:List Nv):Nat:=(os.filter λo=>!Jx o).length
theorem SV.len{os:List Nv}(H:SV w h ms os vs new):vs.length=wd os:=
 H.ind (P:=λos vs U=>vs.length=wd os) rfl (λU U U U U U ih U=>QV (·+1) ih) (λU U U U U U ih U=>QV (·+1) ih) λU U U U U U ih U=>ih
theorem CW:FL c O [] [] O:=by constructor;intro w A ZV Hy H as new s vs m Q E ok F S sv nd Ke dj lo q;refine xA sv λU Mp=>?_;subst U;subst Mp;exact assignInOrder_nil (q s m as F S (bP.refl s) nd λa=>by simp)
theorem wE(i:Nat){os:List Nv}{o:Slot}(hx:c.names[i]? = some x)(ho:O[i]? = some o)(hm:o.ZW=false)(hk:b8 c x=true)(h:FL c (O.set i (.val d)) ts os Wj)(he:∀ZV,assignEach (.Name x p::ts) ZV=(false,assign (.Name x p) ZV)::assignEach ts ZV):FL c O (.Name x p::ts) (.val d::os) Wj:=by
 constructor;intro w A ZV Hy H as new s vs m Q E ok F S sv nd Ke dj lo q;rcases vs with _|⟨v,vs⟩
 ·exact sv.elim
 ·refine xA sv λrv sv=>?_
  rw[he ZV];refine assignInOrder_cons (T6 (fQ ok F hk λHX UA sm k ka=>?_));exact h.run w A ZV Hy H as new HX vs _ Q E ok UA (S.put k.less (rv.mono k.less) (λa ha=>ka a (lo a (.inl ha)).1 (lo a (.inl ha)).2) ok.nodup hx ho hm) (SV.keep k.less (λa ha=>ka a (lo a (.inr ha)).1 (lo a (.inr ha)).2) sv) nd Ke dj lo
   λs' m' as' F' S' Mn n' hh=>q s' m' as' F' S' (sm.trans Mn) n' hh
theorem iL{l r as:List Addr}(e:as=l++r)(b:Addr):b∈l++a::r\/b∈new↔b∈as\/b∈a::new:=by
 rw[List.perm_middle.mem_iff,e];simp only[Qw];constructor
 ·rintro((h|h)|h)
  ·exact .inr (.inl h)
  ·exact .inl h
  ·exact .inr (.inr h)
 ·rintro(h|h|h)
  ·exact .inl (.inr h)
  ·exact .inl (.inl h)
  ·exact .inr h
theorem oJ.ghost{ZV:Env}{v:Option Value}(F:oJ wr ZV Hy h m)(hg:ZV.kindOf x=none):oJ wr ZV Hy h (λy=>if y=x then v else m y):=by
 refine eG F.ns λml hn hl h0=>?_;refine⟨⟨ml,hn,λy hy=>?_,h0⟩,λy cl hk hc=>?_,F.has,F.apart,F.off,F.keep,F.above,F.Z1⟩
 ·rw[Q5 (by rintro rfl;rw[hg]at hy;exact nS hy)];exact hl y hy
 ·have:y≠x:=by rintro rfl;rw[hg]at hk;rcases hk with hk|hk<;>exact nS hk
  rw[Q5 this];exact F.cell y cl hk hc
theorem Ff(i:Nat){os:List Nv}{o:Slot}(hx:c.names[i]? = some x)(ho:O[i]? = some o)(hm:o.ZW=false)(hk:c.sc.names.lookup x=none)(h:FL c (O.set i (.mu a ob)) ts os Wj):
  FL c O ts (.gh a ob::os) Wj:=by
 constructor;intro w A ZV Hy H as new s vs m Q E ok F S sv nd Ke dj lo q;rcases new with _|⟨a',new⟩
 ·exact sv.elim
 ·refine jd sv λU=>?_;subst U;intro mr sv
  refine dE (ar.toMu (am.refl _) mr (λb hb o e=>e) ok.nodup hx ho hm S) λl r e UG=>?_;have pm:=RZ (l₁:=l) (a:=a') (l₂:=r);have L3:=QY.mp Ke;have M6:a'∉l++r:=e▸dj a' (QH);refine h.run w A ZV Hy H (l++a'::r) new s vs _ Q E ok (F.ghost (v:=some (.ref a')) ((ok.kindOf x).trans hk)) UG sv (pm.nodup_iff.mpr (QY.mpr ⟨M6,e▸nd⟩)) L3.2 (λb hb z=>?_) (λb hb=>lo b ((iL e b).mp hb)) λs' m' as' F' S' Mn n' hh=>q s' m' as' F' S' Mn n' λb=>(hh b).trans (iL e b);rcases Qw.mp (pm.mem_iff.mp z)with z|z
  ·exact L3.1 (z▸hb)
  ·exact dj b (QA _ hb) (e▸z)
theorem oH(h:yl T c O es (λos=>wd os=n/\∃Wj,FL c O elts os Wj/\P .next Wj))(hl:∀ZV,(assignEach elts ZV).length=n)(JW:∀ZV,(assignEach elts ZV).findIdx? (·.1)=none)(hz:n<=sizeLine)(hs:∀ZV,swapsWithSole [.Tuple elts k tp] (.Tuple es k2 tp2) p.line ZV=pure false)(hw:∀ZV,aD c ZV->swappedStores [.Tuple elts k tp] (.Tuple es k2 tp2) ZV=pure none):W1 T c O (.Assign [.Tuple elts k tp] (.Tuple es k2 tp2) p) P:=by
 constructor;intro w A ZV Hy ms₀ as s Q E ok Kv R JE q;refine Assign_Tuple (PyProof.Rows.Tuple_ (h.run ok Kv R JE (λvs HX new os hk Uf nd fr sv=>?_) tp2)) (hs ZV) (hw ZV ok);obtain⟨hnv,Wj,ht,hp⟩:=hk;have JF:=sv.len.trans hnv;refine RK ?_ (by show vs.toArray.size<=sizeLine;rw[QJ,JF];exact hz);refine wpAny_assign_Tuple R.handled (items:=vs.toArray) ⟨_,dC rfl,rfl,0,rfl⟩ (by rw[hl ZV,QJ];exact JF.symm) (JW ZV) λh' hx=>?_;have Uj:=Uf.trans ((az (s:=HX) (o:={ cls:=.type "tuple",dict:=none,data:=.seq vs.toArray }) (t:=HX.toks)).trans (cD hx));have Vh:∀b o,HX.heap.get? b=some o->h'.get? b=some o:=(az.trans (cD hx)).keep;refine b9.el JE.ex λm F S=>?_;refine ht.run w A ZV Hy (ms₀++as++new) as new _ vs m _ E ok (F.grow Uj.keep) (ar.off (λb o qs z=>?_) (λb U o e=>Uj.keep _ _ e) (Z 5) S) (SV.keep (ai Vh) (λa U o e=>Vh _ _ e) sv) JE.nd nd (λa ha z=>?_) (λa ha=>?_) λs' m' as' F' S' sm n' hh=>?_
 ·rw[ab]at z ⊢
  refine⟨λy=>?_,Uj.keep _ _ z.2⟩;rcases Qz.mp y with y|y
  ·exact z.1 y
  ·rw[fr b y]at z;cases z.2
 ·refine xE (JE.have _ (Qy _ z)) λo e=>?_
  rw[fr a ha]at e;exact nS e
 ·rcases ha with ha|ha
  ·exact JE.loc a ha
  ·exact(dY F (fr a ha)).2
 ·refine q .next .next Wj as' s' hp ⟨⟨m',F',ar.off (aT λa ha=>?_) (λU U U e=>e) (Z 5) S'⟩,n',λa ha=>?_,JE.old,λa ha=>?_⟩ (Uj.same.trans sm) trivial
  ·rcases Qz.mp ha with ha|ha
   ·exact QM _ (QM _ ha)
   ·rcases(hh a).mp ha with ha|ha
    ·exact QM _ (Qy _ ha)
    ·exact Qy _ ha
  ·rcases(hh a).mp ha with ha|ha
   ·exact JE.new a ha
   ·exact(dY F (fr a ha)).1
  ·rcases(hh a).mp ha with ha|ha
   ·exact JE.loc a ha
   ·exact(dY F (fr a ha)).2
theorem uN(vs:List Value)(n:Nat)(ws:List Value):∃n',Obj.mapSeq (·++ws.toArray) (aQ "list" vs n)=aQ "list" (vs++ws) n':=by refine xE (Obj.data_mapSeq (o:=aQ "list" vs n) rfl (·++ws.toArray)) λn' h=>?_;refine⟨n',?_⟩;unfold Obj.mapSeq at h ⊢;simp[aQ]at h ⊢;exact h
theorem pY(i:Nat){ds es:List D}(hr:Ev T c O o (.ref a))(h:rn T c O [e] [.list es])(hx:c.names[i]? = some x)(hd:O[i]? = some (.mu a (.list ds)))(ct:cB o "extend" p2 p3 [e])(JW:Ω1 e)(hsz:ds.length+es.length<=100000)(hi:∀ZV,aD c ZV->interactive ZV=false)(MX:∀ZV,swapsWith (.Call (.Attribute o "extend" p2) [e] [] p3) none p4.line ZV=pure false)(hp:P .next (O.set i (.mu a (.list (ds++es))))):W1 T c O (.Expr (.Call (.Attribute o "extend" p2) [e] [] p3) p4) P:=by
 constructor;intros;refine wpAny_Expr_any (R2 (ct.base ZV) (ct.few ZV) ct.line SW PySem.F.slot_list_extend PySem.F.type_list_extend (hr.run ok tp R JE λv UM Uq rv=>?_)) (hi ZV ok) (MX ZV);obtain⟨_,rfl⟩:=rv.inv;have Ux:=JE.grow Uq.keep;refine nY.el (cV Ux hx hd) λvs n KC Mo=>?_;refine⟨⟨_,KC,rfl⟩,λa' e'=>?_,?_⟩
 ·obtain rfl:=Sn e';exact⟨_,KC,rfl⟩
 ·have hh:=h.run (E:=E) (Q:=(λUz HX=>wpAny (model P0 w) A (call (.builtin "list.extend") (.ref a::Uz)) (λU=>Q .next) E HX)) ok tp R Ux (λUz HX Uf JL=>?_) p3
  ·refine Rm (ct.plain ZV) ?_
   rw[JW ZV]at hh ⊢;exact Ss hh
  ·refine cq.el JL.Z0 λU U U=>?_;subst U;intro rv JL
   obtain rfl:=JL.Z3;refine dK.el rv.inv λb ws n2 U=>?_;subst U;intro hg JL;have Kc:=(ab.mp hg).2;have Vy:=Uf.keep _ _ KC;have l1:=Mo.length;have l2:=JL.length;have Uk:=Ux.grow Uf.keep;refine xE (uN vs n ws) λn' L7=>?_;refine call_meets PySem.F.slot_list_extend ⟨_,Vy,rfl⟩ PySem.F.entry_list_extend (PySem.F.args_list_extend_2 _ _) (AutoSeq1.list_extend_list_list_0 a vs.toArray n b ws.toArray n2 ?_ ?_ ?_) ⟨Vy,Kc,?_⟩
   ·have hb:(100000:Nat)<=sizeLine:=by decide
    have:Builtin.List.listTooLong (vs.toArray.size+ws.toArray.size)=false:=by rw[QJ,QJ,l1,l2];exact Q4 (Sg.mpr (QC hsz hb))
    rw[this,Bool.and_false];decide
   ·rw[QJ];exact QC (by lia) (by decide:100000<=sizeLine)
   ·rw[QJ,QJ];exact QC (by lia) (by decide:100000<=sizeLine+1)
   ·have Lg:(HX.heap.update a (Obj.mapSeq λx=>x++ws.toArray)).get? a=some (aQ "list" (vs++ws) n'):=by rw[Rk _ Vy (by rw[L7];rfl),L7]
    exact q .next .next _ as _ hp (nq (o':=.list (ds++es)) Uk hx hd (Rz ..) ⟨_,_,Lg,(Mo.mono (ai Uf.keep)).app JL⟩).1 ((Uq.same.trans Uf.same).trans ⟨rfl,rfl,rfl⟩) trivial
mutual
noncomputable def D.py:D->PyData
 |.none=>.none
 |.bool b=>.bool b
 |.int i=>.int i
 |.str s=>.str s
 |.tup ds=>.tuple (uc ds)
 |.list ds=>.list (uc ds)
 |_=>.none
noncomputable def uc:List D->List PyData
 |[]=>[]
 |d::ds=>d.py::uc ds
end
noncomputable def i9:Nat->D->Bool
 |_,.none=>true
 |_,.bool _=>true
 |_,.int _=>true
 |_,.str s=>PyData.strOk s
 |n+1,.tup ds=>ds.all (i9 n)
 |n+1,.list ds=>ds.all (i9 n)
 |_,_=>false
theorem df:∀(n:Nat)(d:D)(v:Value),i9 n d=true->RV (less h ms) d v->(∃as,PySem.Reads h v d.py as)/\d.py.canLay0=true/\d.py.depth<=n:=by
 have flat:∀(n:Nat)(d:D)(v:Value),(match d with|.tup _=>False|.list _=>False|_=>True)->i9 n d=true->RV (less h ms) d v->(∃as,PySem.Reads h v d.py as)/\d.py.canLay0=true/\d.py.depth<=n:=λn d v hf ho r=>by cases r<;>first|exact hf.elim|exact⟨⟨_,.none⟩,rfl,Rh _⟩|exact⟨⟨_,.bool _⟩,rfl,Rh _⟩|exact⟨⟨_,.int _ _⟩,rfl,Rh _⟩|exact⟨⟨_,.str _ _⟩,(by cases n<;>exact ho),Rh _⟩|exact absurd ho (by cases n<;>exact Rc)
 intro n;induction n with
 |zero=>intro d v ho r;refine flat 0 d v ?_ ho r;cases d<;>first|exact trivial|exact Rc ho
 |succ n ih=>
  have all:∀(ds:List D)(vs:List Value),ds.all (i9 n)=true->aX (less h ms) ds vs->(∃as,PySem.ReadsAll h vs (uc ds) as)/\PyData.canLayAll0 (uc ds)=true/\PyData.depthAll (uc ds)<=n:=by
   intro ds;induction ds with
   |nil=>intro vs _ r;obtain rfl:=r.Z3;exact⟨⟨_,.nil⟩,rfl,Rh _⟩
   |cons d ds ih'=>intro vs ho r;refine cq.el r.Z0 λv vs U=>?_;subst U;intro a r;rw[List.all_cons,R9]at ho;obtain⟨⟨as,h1⟩,h2,h3⟩:=ih d _ ho.1 a;obtain⟨⟨bs,g1⟩,g2,g3⟩:=ih' _ ho.2 r;exact⟨⟨_,.cons h1 g1⟩,QI.mpr ⟨h2,g2⟩,Nat.max_le.mpr ⟨h3,g3⟩⟩
  intro d v ho r;cases d with
  |tup ds=>obtain⟨a,o,vs,n',rfl,hg,hc,hd,JL⟩:=r.inv;obtain⟨⟨as,h1⟩,h2,h3⟩:=all ds vs ho JL;exact⟨⟨_,.tuple (ab.mp hg).2 hc hd h1⟩,h2,T7 h3⟩
  |list ds=>refine dK.el r.inv λa vs n' U hg JL=>?_;subst U;obtain⟨⟨as,h1⟩,h2,h3⟩:=all ds vs ho JL;exact⟨⟨_,.list (ab.mp hg).2 rfl rfl h1⟩,h2,T7 h3⟩
  |_=>exact flat _ _ v trivial ho r
theorem vF{a b:D}(ha:i9 k a=true)(hb:i9 k' b=true)(hk:k<=10*n+10):bj n .Eq a b (PyData.eqv a.py b.py):=by
 constructor;intro w A h ms x y s Q E hs R rx ry q;subst hs;obtain⟨⟨as,h1⟩,h2,h3⟩:=df k a x ha rx;obtain⟨⟨bs,g1⟩,g2,g3⟩:=df k' b y hb ry;refine SeqAt.compareEq_reads h1 g1 h2 g2 ?_ (q s.toks)
 have:=R.units
 have:=TD a.py.depth b.py.depth
 lia
theorem jE{a b:D}(ha:i9 k a=true)(hb:i9 k' b=true)(hk:k<=10*n+10):bj n .NotEq a b (!PyData.eqv a.py b.py):=by
 constructor;intro w A h ms x y s Q E hs R rx ry q;subst hs;obtain⟨⟨as,h1⟩,h2,h3⟩:=df k a x ha rx;obtain⟨⟨bs,g1⟩,g2,g3⟩:=df k' b y hb ry;refine SeqAt.compareNe_reads h1 g1 h2 g2 ?_ (q s.toks)
 have:=R.units
 have:=TD a.py.depth b.py.depth
 lia
theorem my{a:D}(ha:i9 k a=true)(hb:i9 (k'+1) (.tup ds)=true)(hk:k<=10*n+9):bj n .In a (.tup ds) ((uc ds).any λy=>PyData.eqv y a.py):=by
 constructor;intro w A h ms x y s Q E hs R rx ry q;subst hs;obtain⟨⟨as,h1⟩,h2,h3⟩:=df k a x ha rx;obtain⟨⟨bs,g1⟩,g2,g3⟩:=df _ _ y hb ry;refine SeqAt.in_tuple_reads g1 h1 g2 h2 ?_ (q s.toks)
 have:=R.units
 have:=T8 (PyData.depthAll (uc ds)) a.py.depth
 lia
theorem d5{a:D}(ha:i9 k a=true)(hb:i9 (k'+1) (.list ds)=true)(hk:k<=10*n+9):bj n .In a (.list ds) ((uc ds).any λy=>PyData.eqv y a.py):=by
 constructor;intro w A h ms x y s Q E hs R rx ry q;subst hs;obtain⟨⟨as,h1⟩,h2,h3⟩:=df k a x ha rx;obtain⟨⟨bs,g1⟩,g2,g3⟩:=df _ _ y hb ry;refine SeqAt.in_list_reads g1 h1 g2 h2 ?_ (q s.toks)
 have:=R.units
 have:=T8 (PyData.depthAll (uc ds)) a.py.depth
 lia
theorem mx{a b:Str}:bj n .In (.str a) (.str b) (Txt.contains b a):=⟨λw A h ms x y s Q E U R rx ry q=>by refine xE rx.inv λU U=>?_;subst U;refine xE ry.inv λU U=>?_;subst U;exact PySem.SB.contains (q s.toks)⟩
theorem du{a b:Bool}:bj n .IsNot (.bool a) (.bool b) (a != b):=by
 constructor;intro w A h ms x y s Q E _ R rx ry q;obtain⟨_,rfl⟩:=rx.inv;obtain⟨_,rfl⟩:=ry.inv;have this:(!(Value.bool a==Value.bool b))=(a != b):=by cases a<;>cases b<;>rfl
 exact wpAny_isNot_plain rfl (by rw[this];exact q s.toks)
noncomputable def D.isNone:D->Bool|.none=>true|_=>false
theorem s8(r:RV g d v):plainIs v .none=true/\(v==Value.none)=d.isNone:=by cases r<;>exact⟨rfl,by first|rfl|(simp[D.isNone])⟩
theorem rT:bj n .Is d .none d.isNone:=by constructor;intro w A h ms x y s Q E _ R rx ry q;obtain⟨_,rfl⟩:=ry.inv;refine xA (s8 rx) λh1 h2=>?_;exact wpAny_is_plain h1 (by rw[h2];exact q s.toks)
theorem dw:bj n .IsNot d .none (!d.isNone):=by constructor;intro w A h ms x y s Q E _ R rx ry q;obtain⟨_,rfl⟩:=ry.inv;refine xA (s8 rx) λh1 h2=>?_;exact wpAny_isNot_plain h1 (by rw[h2];exact q s.toks)
theorem D9{l r:PySem.Expr}{a b:Int}(ha:Ev T c O l (.int a))(hb:Ev T c O r (.int b))(h0:0<=b)(h1:1<a)(hm:Builtin.Int.intTooBig (((Builtin.Int.intBits a:Nat):Int)*b)=false):Ev T c O (.BinOp l .Pow r p) (.int (a^b.toNat)):=
 jn ha hb λw A g x y s Q E R rx ry q=>by
  refine xE rx.inv λU U=>?_;subst U;refine xE ry.inv λU U=>?_;subst U;by_cases hb:b=0
  ·subst hb
   exact AutoIntOps.pow_0 dk rfl (show Q _ _ from q (.int 1 s.toks) _ λU=>by simpa using RV.int 1 s.toks)
  ·exact AutoIntOps.pow_4 h0 (by simpa using hb) (by simp;lia) (by simp;lia) (by rw[hm];decide) (show Q _ _ from q _ _ λU=>.int _ _)
theorem vq(i:Nat){a b:Int}(h:Ev T c O e (.int b))(hx:c.names[i]? = some x)(ho:O[i]? = some (.val (.int a)))(hk:b8 c x=true)(hc:(x==("__classdict__" : Str))=false)(hp:P .next (O.set i (.val (.int (a-b))))):W1 T c O (.AugAssign (.Name x p') .Sub e p) P:=by
 constructor;intros;have hv:mW (c.sc.names.lookup x)=true:=by
  refine xA (gT hk) λU hk=>?_;rcases e:c.sc.names.lookup x with _|k
  ·rw[e]at hk;contradiction
  ·rw[e]at hk;cases k<;>first|rfl|contradiction
 refine wpAny_AugAssign_Name (kG i hx ho hv hc ok JE λv rv=>?_);refine h.run ok tp R JE λy HX Uf ry=>?_;refine xE rv.inv λU U=>?_;subst U;refine xE ry.inv λU U=>?_;subst U;exact isub_int (bU ok (JE.grow (Uf.trans ax).keep) hx ho rfl hk (.int _ _) λKa M0 sm U=>q .next .next _ as Ka hp M0 ((Uf.trans ax).same.trans sm) trivial)
theorem Do{x y:PySem.Expr}{b:Bool}(hx:Ev T c O x d)(ht:cC d b)(hy:b=false->Ev T c O y d'):Ev T c O (.BoolOp .Or [x,y] p) (if b then d else d'):=by
 constructor;intros;refine BoolOp_or (hx.run ok tp R JE λv HX Uf rv=>ht.run w A HX _ v _ E rv λUg Uh=>?_);cases b with
 |true=>exact q _ _ (Uf.trans Uh) (rv.mono (ai Uh.keep))
 |false=>exact BoolOp_one ((hy rfl).run ok tp R (JE.grow (Uf.trans Uh).keep) λv Ui Uj rv=>q _ _ ((Uf.trans Uh).trans Uj) rv)
theorem vo(i j:Nat){x y:Str}{o o':Slot}(h:Ev T c O e d)(hx:c.names[i]? = some x)(ho:O[i]? = some o)(hm:o.ZW=false)(hk:b8 c x=true)(hy:c.names[j]? = some y)(KS:(O.set i (.val d))[j]? = some o')(XS:o'.ZW=false)(Ki:b8 c y=true)(he:∀ZV,(assignEach [.Name x p1,.Name y p2] ZV).map (·.2)=[assign (.Name x p1) ZV,assign (.Name y p2) ZV])(hw:∀ZV,aD c ZV->swappedStores [.Name x p1,.Name y p2] e ZV=pure none)(hp:P .next ((O.set i (.val d)).set j (.val d))):W1 T c O (.Assign [.Name x p1,.Name y p2] e p) P:=by
 constructor;intros;refine wpAny_Assign_two (h.run ok tp R JE λv HX Uf rv=>?_) (he ZV) (hw ZV ok);exact T6 (bU ok (JE.grow Uf.keep) hx ho hm hk rv λUg Um UP k₂=>(T6 (bU ok Um hy KS XS Ki (rv.mono k₂.less) λUi Uo Ut U=>q .next .next _ as Ui hp Uo ((Uf.same.trans UP).trans Ut) trivial)))
section
section
variable{T:a6}{c:Cx}{O Wj:St}{P:dL}{K:Type}[DecidableEq K]
def jz(knd:∀w,KeyKind P0 w K)(Kr:K->D):Prop:=∀w g k v,RV g (Kr k) v->(knd w).is k v=true
theorem jq:jz (λw=>PySem.strKind P0 w) D.str:=λw g k v r=>by refine xE r.inv λU U=>?_;subst U;exact PySem.strKind_is P0 w k _
theorem zK:jz (λw=>PySem.intKind P0 w) D.int:=λw g k v r=>by refine xE r.inv λU U=>?_;subst U;simp[PySem.intKind,Value.isInt]
def rz(g:eH)(es:List (K×D))(kvs:List (K×Value)):Prop:=kvs.map (·.1)=es.map (·.1)/\aX g (es.map (·.2)) (kvs.map (·.2))
theorem rz.mono(k:am g g'){es:List (K×D)}{kvs:List (K×Value)}(h:rz g es kvs):rz g' es kvs:=⟨h.1,h.2.mono k⟩
theorem rz.ind{P:List (K×D)->List (K×Value)->Prop}(nil:P [] [])(cons:∀k d v es kvs,RV g d v->P es kvs->rz g es kvs->P ((k,d)::es) ((k,v)::kvs)){es:List (K×D)}{kvs:List (K×Value)}(h:rz g es kvs):P es kvs:=by
 induction es generalizing kvs with
 |nil=>
  rcases kvs with _|⟨_,_⟩
  ·exact nil
  ·cases h.1
 |cons x es ih=>
  rcases kvs with _|⟨y,kvs⟩
  ·cases h.1
  ·obtain⟨a,d⟩:=x
   obtain⟨b,v⟩:=y;refine xA h λh1 h2=>?_;have e:b=a:=(List.cons.inj h1).1;subst e;cases h2 with
   |cons r h2=>exact cons _ _ _ _ _ r (ih ⟨(List.cons.inj h1).2,h2⟩) ⟨(List.cons.inj h1).2,h2⟩
theorem rz.at{k:K}{es:List (K×D)}{kvs:List (K×Value)}(h:rz g es kvs):match es.find? (λe=>e.1=k)with|some e=>∃v,valueAt kvs k=some v/\RV g e.2 v|none=>valueAt kvs k=none:=by
 refine h.ind (P:=λes kvs=>match es.find? (λe=>e.1=k)with|some e=>∃v,valueAt kvs k=some v/\RV g e.2 v|none=>valueAt kvs k=none) rfl λb d v es kvs r ih U=>?_;unfold valueAt at ih ⊢;by_cases q:b=k
 ·simp only[R7,q,decide_true]
  exact⟨v,rfl,r⟩
 ·simp only[R7,q,decide_false]
  exact ih
noncomputable def cM(es:List (K×D))(k:K):Option D:=(es.find? (λe=>e.1=k)).map (·.2)
theorem rz.get{k:K}{es:List (K×D)}{kvs:List (K×Value)}(h:rz g es kvs)(e:cM es k=some d):∃v,valueAt kvs k=some v/\RV g d v:=by
 have:=h.at (k:=k)
 unfold cM at e;rcases q:es.find? (λe=>e.1=k)with _|x
 ·rw[q]at e;contradiction
 ·rw[q]at e this;obtain rfl:=QG e;exact this
theorem rz.isSome{k:K}{es:List (K×D)}{kvs:List (K×Value)}(h:rz g es kvs):(valueAt kvs k).isSome=(cM es k).isSome:=by
 have:=h.at (k:=k)
 unfold cM;cases q:es.find? (λe=>e.1=k)with
 |none=>rw[q]at this;rw[this];rfl
 |some x=>rw[q]at this;refine ay this λv e U=>?_;rw[e];rfl
structure FB(T:a6)(c:Cx)(Kr:K->D)(O:St)(ks:List (Option PySem.Expr))(vs:List PySem.Expr)(es:List (K×D)):Prop where
 run:∀{w:World}{A:Around}{ZV:Env}{Hy:Heap}{ms₀ as:List Addr}{s:Shared}{Q:List (Value×Value)->Shared->Prop}{E:Ω},
  ∀(ok:aD c ZV)(tp:T.Tp w Hy)(R:aZ c.n A)(JE:aC w c.wr ZV c.names Hy ms₀ as O s.heap)(q:∀vs s',ao s s'->aX (less s'.heap (ms₀++as)) (es.map λe=>Kr e.1) (vs.map (·.1))->aX (less s'.heap (ms₀++as)) (es.map (·.2)) (vs.map (·.2))->Q vs s'),∀pos,wpAny (model P0 w) A (evalPairs (pairTrees ks vs ZV pos)) Q E s
theorem qw{Kr:K->D}:FB T c Kr O [] [] []:=⟨@λw A ZV Hy ms₀ as s Q E ok tp R JE q pos=>pairTrees_nil_walk (q [] _ (ao.refl s) .nil .nil)⟩
theorem bB{Kr:K->D}{k v:PySem.Expr}{ks:List (Option PySem.Expr)}{vs:List PySem.Expr}{key:K}{es:List (K×D)}(hk:Ev T c O k (Kr key))(hv:Ev T c O v d)(h:FB T c Kr O ks vs es):FB T c Kr O (some k::ks) (v::vs) ((key,d)::es):=by constructor;intros;refine pairTrees_cons_walk (hk.run ok tp R JE λkv HX Uf VW=>hv.run ok tp R (JE.grow Uf.keep) λvv Ug Uh Vz=>?_);refine h.run ok tp R ((JE.grow Uf.keep).grow Uh.keep) (λvs Ui Uj VX VY=>q ((kv,vv)::vs) _ ((Uf.trans Uh).trans Uj) (.cons ((VW.mono (ai Uh.keep)).mono (ai Uj.keep)) VX) (.cons (Vz.mono (ai Uj.keep)) VY)) pos
theorem uk{knd:∀w,KeyKind P0 w K}{Kr:K->D}(hk:jz knd Kr){es:List (K×D)}{vs:List (Value×Value)}(r1:aX g (es.map λe=>Kr e.1) (vs.map (·.1)))(r2:aX g (es.map (·.2)) (vs.map (·.2))):∃kvs,Carries (knd w) vs kvs/\rz g es kvs:=by
 induction es generalizing vs with
 |nil=>
  rcases vs with _|⟨_,_⟩
  ·exact⟨[],trivial,rfl,.nil⟩
  ·contradiction
 |cons x es ih=>
  rcases vs with _|⟨y,vs⟩
  ·contradiction
  ·refine xA (aX.both r1) λa1 r1=>?_
   refine xA (aX.both r2) λa2 r2=>?_;refine eG (ih r1 r2) λkvs hc h3 h4=>?_;exact⟨(x.1,y.2)::kvs,⟨hk w g x.1 y.1 a1,rfl,hc⟩,by simp[h3],.cons a2 h4⟩
theorem oP{knd:∀w,KeyKind P0 w K}{Kr:K->D}(hk:jz knd Kr){keys:List (Option PySem.Expr)}{es:List (K×D)}(h:FB T c Kr O keys values es)(hn:(es.map (·.1)).Nodup)(Mz:keys.all (·.isSome)=true)(hl:keys.length=values.length)(h0:keys≠[])(JF:keys.length<=15){ZV:Env}{ms₀ as:List Addr}(ok:aD c ZV)(tp:T.Tp w Hy)(R:aZ c.n A)(JE:aC w c.wr ZV c.names Hy ms₀ as O s.heap)(q:∀a s',ao s s'->s.heap.get? a=none->(∃kvs,s'.heap.DictOf (knd w) a kvs/\rz (less s'.heap (a::(ms₀++as))) es kvs)->(a==sysModules)=false->Q (.ref a) s'):wpAny (model P0 w) A (eval (.Dict keys values pos) ZV) Q E s:=by
 have Uq:ao s { s with heap:=s.heap.push { cls:=.type "dict",data:=.dict #[] } }:=az;have JR:s.heap.get? s.heap.objs.size=none:=aK (QO _);refine wpAny_Dict_walk (knd:=knd w) Mz hl h0 JF (h.run ok tp R (JE.grow Uq.keep) (λvs HX Uf r1 r2=>?_) pos);obtain⟨kvs,hc,K8⟩:=uk hk r1 r2;refine⟨kvs,hc,?_,λh' hd hs=>?_⟩
 ·refine⟨_,#[],0,Uf.keep _ _ (Q2 _ rfl),⟨rfl,rfl,rfl⟩,rfl,λe he=>by simp at he,.nil,Rs⟩
 ·have af:ao s { HX with heap:=h',toks:=HX.toks+vs.length }:=⟨λb o e=>(hs.2 b (ni e)).trans (Uf.keep _ _ (Uq.keep _ _ e)),Uf.gens,Uf.drawn,Uf.os⟩
  rw[merged_nil_of_nodup kvs (by rw[K8.1];exact hn)]at hd;refine q _ _ af JR ⟨kvs,hd,K8.mono λb o qs e=>?_⟩ ?_
  ·rw[ab]at e ⊢
   have hb:b≠s.heap.objs.size:=λz=>by
    subst z
    have:=Uf.keep _ _ (Q2 s.heap (o:={ cls:=.type "dict",data:=.dict #[] }) rfl)
    have e2:=e.2;rw[this]at e2;obtain rfl:=QG e2;revert qs;decide
   refine⟨λz=>?_,(hs.2 b hb).trans e.2⟩;rcases Qw.mp z with z|z
   ·exact hb z
   ·exact e.1 z
  ·have:=modules_low ((T.nolimit w Hy tp).keeps λb o e=>by refine b9.el JE.ex λm F S=>?_;exact F.keep b o e)
   exact beq_eq_false_iff_ne.mpr (TJ this)
theorem so{keys:List (Option PySem.Expr)}{es:List (Str×D)}(h:FB T c D.str O keys values es)(hn:(es.map (·.1)).Nodup)(Mz:keys.all (·.isSome)=true)(hl:keys.length=values.length)(h0:keys≠[])(JF:keys.length<=15):oI T c O (.Dict keys values pos) (.dict es):=by constructor;intros;exact oP jq h hn Mz hl h0 JF ok tp R JE λa s' af L7 ⟨kvs,hd,K8⟩ hm=>q a s' af L7 ⟨kvs,hd,hm,K8.1,K8.2⟩
theorem de{knd:KeyKind P0 w K}{kvs:List (K×Value)}(x:h.DictOf knd a kvs)(k:∀b o,h.get? b=some o->h'.get? b=some o):h'.DictOf knd a kvs:=let⟨o,es,ep,ho,r⟩:=x;⟨o,es,ep,k _ _ ho,r⟩
theorem d6{knd:KeyKind P0 w K}{kvs:List (K×Value)}(x:s.heap.DictOf knd a kvs):s.TypeIs (.ref a) "dict":=let⟨o,es,ep,ho,hc,_⟩:=x;⟨o,ho,hc.1⟩
theorem yX{knd:∀w,KeyKind P0 w K}{Kr:K->D}(hk:jz knd Kr){keys:List (Option PySem.Expr)}{es:List (K×D)}{k:K}(h:FB T c Kr O keys values es)(hn:(es.map (·.1)).Nodup)(Mz:keys.all (·.isSome)=true)(hl:keys.length=values.length)(h0:keys≠[])(JF:keys.length<=15)(hi:Ev T c O slice (Kr k))(hd:cM es k=some d)(hs:∀o i,subscripted slice false o i=operate [o,i] (getItem o i)):
  Ev T c O (.Subscript (.Dict keys values pos) slice p) d:=by
 constructor;intros;refine R0 (oP hk h hn Mz hl h0 JF ok tp R JE λa HX Uf L7 ⟨kvs,JM,K8⟩ hm=>?_);refine hi.run ok tp R (JE.grow Uf.keep) λiv Ug Uh ri=>?_;refine ay (K8.get hd) λv hv rv=>?_;have UK:Ug.heap.DictOf (knd w) a kvs:=de JM λU U ho=>Uh.keep _ _ ho;exact im (t := "dict") (id := "dict.__getitem__") (d6 UK) slot_dict_getitem.lookup (wpAny_getItem_of (hk w _ k iv ri) UK.mapOf hv (q _ _ ((Uf.trans Uh).trans ax) (rv.mono ((aT λb hb=>QA _ hb).trans (ai Uh.keep))))) (hs _ _)
theorem wa{ZV:Env}{ms₀ as:List Addr}{es:List (Str×D)}(JE:aC w c.wr ZV c.names Hy ms₀ as O h)(hx:c.names[i]? = some x)(hd:O[i]? = some (.mu a (.dict es))):
  ∃kvs,h.DictOf (PySem.strKind P0 w) a kvs/\(a==sysModules)=false/\rz (less h (ms₀++as)) es kvs:=by
 refine b9.el JE.ex λm F S=>?_;obtain⟨l,r,e,Pv,⟨kvs,h1,h2,h3,h4⟩,up,fz⟩:=S.muAt hx hd;exact⟨kvs,h1,h2,h3,h4⟩
theorem jG(i:Nat){es:List (Str×D)}{k:Str}(hr:Ev T c O o (.ref a))(hx:c.names[i]? = some x)(hd:O[i]? = some (.mu a (.dict es)))(hi:Ev T c O slice (.str k))(hg:cM es k=some d)(hs:∀o i,subscripted slice false o i=operate [o,i] (getItem o i)):Ev T c O (.Subscript o slice p) d:=by
 constructor;intros;refine R0 (hr.run ok tp R JE λv UM Uq rv=>?_);obtain⟨_,rfl⟩:=rv.inv;refine hi.run ok tp R (JE.grow Uq.keep) λiv HX Uf ri=>?_;refine eG (wa ((JE.grow Uq.keep).grow Uf.keep) hx hd) λkvs JM hm K8=>?_;refine ay (K8.get hg) λv hv rv=>?_;exact im (t := "dict") (id := "dict.__getitem__") (d6 JM) slot_dict_getitem.lookup (wpAny_getItem_of (jq w _ k iv ri) JM.mapOf hv (q _ _ ((Uq.trans Uf).trans ax) rv)) (hs _ _)
structure wN(T:a6)(c:Cx)(O:St)(op:CmpOp)(l r:PySem.Expr)(b:Bool):Prop where
 run:∀{w:World}{A:Around}{ZV:Env}{Hy:Heap}{ms₀ as:List Addr}{s:Shared}{Q:Ω}{E:Ω},
  ∀(ok:aD c ZV)(tp:T.Tp w Hy)(R:aZ c.n A)(JE:aC w c.wr ZV c.names Hy ms₀ as O s.heap)(q:∀s',ao s s'->Q (.bool b) s'),wpAny (model P0 w) A (eval l ZV) (λx HX=>wpAny (model P0 w) A (eval r ZV) (λy Ug=>wpAny (model P0 w) A (compareOp op x y) Q E Ug) E HX) E s
theorem Gu{op:CmpOp}{l r:PySem.Expr}{b:Bool}(h:wN T c O op l r b)(hm:behindInMarks op r=false):Ev T c O (.Compare l [op] [r] p) (.bool b):=by constructor;intros;exact wpAny_Compare1 (h.run ok tp R JE λs' a=>q _ _ a (.bool _)) hm
theorem nU{op:CmpOp}{l r:PySem.Expr}{b:Bool}(h:wN T c O op l r b)(hm:behindInMarks op r=false):Tr T c O (.Compare l [op] [r] p) b:=by constructor;intros;exact T0 (h.run ok tp R JE λs' a=>SH (q _ a)) hm
theorem lM(i:Nat){es:List (Str×D)}{k:Str}(hl:Ev T c O l (.str k))(hr:Ev T c O o (.ref a))(hx:c.names[i]? = some x)(hd:O[i]? = some (.mu a (.dict es))):wN T c O .In l o (cM es k).isSome:=by constructor;intros;refine hl.run ok tp R JE λkv HX Uf rk=>?_;refine hr.run ok tp R (JE.grow Uf.keep) λv Ug Uh rv=>?_;obtain⟨_,rfl⟩:=rv.inv;refine eG (wa ((JE.grow Uf.keep).grow Uh.keep) hx hd) λkvs JM hm K8=>?_;exact wpAny_in_of (jq w _ k kv rk) hm JM.mapOf (by rw[K8.isSome];exact q _ ((Uf.trans Uh).trans ax))
theorem dU{b:Bool}(h:Ev T c O e (.bool b))(he:∀ZV Kb,isTrue e ZV Kb=(do let v <-Kb;standAt e.pos;holding [v] (truthy v))):Tr T c O e b:=cP h j6 he
def yi(T:a6)(knd:∀w,KeyKind P0 w K)(x:Str)(es:List (K×D)):Prop:=∀w h,T.Tp w h->∃a kvs,T.mg w x=some (.ref a)/\(a==sysModules)=false/\h.DictOf (knd w) a kvs/\∀g,rz g es kvs
theorem gj(hk:c.sc.names.lookup x=some .globalImplicit)(hn:(x==("__debug__" : Str))=false){ZV:Env}{ms₀ as:List Addr}(ok:aD c ZV)(tp:T.Tp w Hy)(JE:aC w c.wr ZV c.names Hy ms₀ as O s.heap)(hv:T.mg w x=some v)(q:Q v s):wpAny (model P0 w) A (eval (.Name x p) ZV) Q E s:=by
 refine b9.el JE.ex λm F U=>?_;refine Name_function_global (by rw[ok.scope];exact ok.kind) (by rw[ok.kindOf];exact hk) ?_ hn;exact TG (env:=ZV) (by rw[ok.globals];exact(T.glob w Hy tp).keeps F.keep) hv q
theorem AY{knd:∀w,KeyKind P0 w K}{Kr:K->D}(hk:jz knd Kr){es:List (K×D)}{k:K}(ht:yi T knd x es)(Ky:c.sc.names.lookup x=some .globalImplicit)(hn:(x==("__debug__" : Str))=false)(hi:Ev T c O slice (Kr k))(hg:cM es k=some d)(hs:∀o i,subscripted slice false o i=operate [o,i] (getItem o i)):Ev T c O (.Subscript (.Name x p') slice p) d:=by
 constructor;intros;refine nX (ht w Hy tp) λa kvs hv hm JM K8=>?_;refine R0 (gj Ky hn ok tp JE hv ?_);refine hi.run ok tp R JE λiv HX Uf ri=>?_;refine ay ((K8 (less HX.heap (ms₀++as))).get hg) λv hv rv=>?_;refine b9.el JE.ex λm F U=>?_;have UK:HX.heap.DictOf (knd w) a kvs:=de JM λU U ho=>Uf.keep _ _ (F.keep _ _ ho);exact im (t := "dict") (id := "dict.__getitem__") (d6 UK) slot_dict_getitem.lookup (wpAny_getItem_of (hk w _ k iv ri) UK.mapOf hv (q _ _ (Uf.trans ax) rv)) (hs _ _)
theorem AX{knd:∀w,KeyKind P0 w K}{Kr:K->D}(hk:jz knd Kr){es:List (K×D)}{k:K}(ht:yi T knd x es)(Ky:c.sc.names.lookup x=some .globalImplicit)(hn:(x==("__debug__" : Str))=false)(hi:Ev T c O l (Kr k)):
  wN T c O .In l (.Name x p') (cM es k).isSome:=by
 constructor;intros;refine nX (ht w Hy tp) λa kvs hv Mj JM K8=>?_;refine hi.run ok tp R JE λiv HX Uf ri=>?_;refine gj Ky hn ok tp (JE.grow Uf.keep) hv ?_;refine b9.el JE.ex λm F U=>?_;have UK:HX.heap.DictOf (knd w) a kvs:=de JM λU U ho=>Uf.keep _ _ (F.keep _ _ ho);exact wpAny_in_of (hk w _ k iv ri) Mj UK.mapOf (by rw[(K8 (less HX.heap (ms₀++as))).isSome];exact q _ (Uf.trans ax))
theorem ya{knd:∀w,KeyKind P0 w K}{Kr:K->D}(hk:jz knd Kr){es:List (K×D)}{k:K}(ht:yi T knd x es)(Ky:c.sc.names.lookup x=some .globalImplicit)(hn:(x==("__debug__" : Str))=false)(hi:Ev T c O l (Kr k)):
  wN T c O .NotIn l (.Name x p') (!(cM es k).isSome):=by
 constructor;intros;refine nX (ht w Hy tp) λa kvs hv Mj JM K8=>?_;refine hi.run ok tp R JE λiv HX Uf ri=>?_;refine gj Ky hn ok tp (JE.grow Uf.keep) hv ?_;refine b9.el JE.ex λm F U=>?_;have UK:HX.heap.DictOf (knd w) a kvs:=de JM λU U ho=>Uf.keep _ _ (F.keep _ _ ho);exact wpAny_notIn_of (hk w _ k iv ri) Mj UK.mapOf (by rw[(K8 (less HX.heap (ms₀++as))).isSome];exact q _ (Uf.trans ax))
theorem CV{knd:∀w,KeyKind P0 w K}{Kr:K->D}(hk:jz knd Kr){es:List (K×D)}{k:K}(ht:yi T knd x es)(Ky:c.sc.names.lookup x=some .globalImplicit)(hn:(x==("__debug__" : Str))=false)(hi:Ev T c O e (Kr k))(ct:cB (.Name x p') "get" p2 p3 [e])(JW:Ω1 e):Ev T c O (.Call (.Attribute (.Name x p') "get" p2) [e] [] p3) ((cM es k).getD .none):=by
 constructor;intros;refine nX (ht w Hy tp) λa kvs hv Mj JM K8=>?_;refine b9.el JE.ex λm F U=>?_;have VA:s.heap.DictOf (knd w) a kvs:=de JM λU U ho=>F.keep _ _ ho;refine R2 (ct.base ZV) (ct.few ZV) ct.line PySem.F.plainAttrs_dict PySem.F.slot_dict_get PySem.F.type_dict_get (gj Ky hn ok tp JE hv ?_);refine⟨d6 VA,λb e'=>?_,Rm (ct.plain ZV) ?_⟩
 ·obtain rfl:=Sn e';exact let⟨o,es,ep,ho,hc,_⟩:=VA;⟨o,ho,hc.2.1⟩
 ·have hh:=(bC hi ad JW).run (E:=E) (Q:=(λUz Ug=>wpAny (model P0 w) A (call (.builtin "dict.get") (.ref a::Uz)) Q E Ug)) ok tp R JE (λUz HX Uf JL=>?_) p3
  ·rw[JW ZV]at hh ⊢
   exact Ss hh
  ·refine cq.el JL.Z0 λiv U U=>?_;subst U;intro ri JL
   obtain rfl:=JL.Z3;have UK:HX.heap.DictOf (knd w) a kvs:=de VA λU U ho=>Uf.keep _ _ ho;refine call_meetsIn PySem.F.slot_dict_get (d6 UK) PySem.F.entry_dict_get (PySem.F.args_dict_get_2 _ _) (meets_dict_get (knd w) a (hk w _ k iv ri) Mj) ⟨_,UK.mapOf,?_⟩;refine q _ _ (Uf.trans ax) ?_
   have:=(K8 (less HX.heap (ms₀++as))).at (k:=k)
   unfold cM;cases q:es.find? (λe=>e.1=k)with
   |none=>rw[q]at this;rw[this];exact .none
   |some x=>rw[q]at this;refine ay this λv e r=>?_;rw[e];exact r
end
end
section
theorem d7{f:Str}(hb:Bl T f fv)(hv:mq fv=true)(hk:c.sc.names.lookup f=some .globalImplicit)(hd:(f==("__debug__" : Str))=false)(he:∀ZV,eval (.Call (.Name f p') [e] [] p) ZV=(do callWith p (<-eval (.Name f p') ZV) [] (backTo p (starEach [e] ZV)) (backToKw p (keywordEach [] ZV))))(JW:Ω1 e)(J0:Ω3 p e){ZV:Env}{ms₀ as:List Addr}(ok:aD c ZV)(tp:T.Tp w Hy)(JE:aC w c.wr ZV c.names Hy ms₀ as O s.heap)(q:wpAny (model P0 w) A (eval e ZV) (λv s'=>wpAny (model P0 w) A (call fv [v]) Q E s') E s):wpAny (model P0 w) A (eval (.Call (.Name f p') [e] [] p) ZV) Q E s:=by
 refine xA (hb w Hy tp) λe1 e2=>?_;refine b9.el JE.ex λm F S=>?_;refine Call_ (Name_function_global (by rw[ok.scope];exact ok.kind) (by rw[ok.kindOf];exact hk) ?_ hd) (he ZV);refine loadGlobal_builtin (by rw[ok.globals];exact(T.glob w Hy tp).keeps F.keep) e1 (by rw[ok.builtins];exact(T.blt w Hy tp).keeps F.keep) e2 ?_;have ev:wpAny (model P0 w) A (evalArgs fv true (backTo p (starEach [e] ZV)) []) (λa HX=>wpAny (model P0 w) A (call fv ([]++a.pos) a.kw) Q E HX) E s:=by
  rw[JW ZV];refine evalArgs_plain ?_
  have:wpAny (model P0 w) A (spliced (backTo p (starEach [e] ZV))) (λvs HX=>wpAny (model P0 w) A (call fv vs) Q E HX) E s:=args_cons (Rt q (λv s' h=>args_nil h) λU U h=>h) (JW ZV)
  rw[JW ZV]at this;exact this
 cases fv with
 |type t=>exact PySem.callWith_type (J0 ZV) ev
 |builtin t=>exact Rm (J0 ZV) ev
 |_=>contradiction
theorem xn{acc:Array Value}{a c:Int}(h:ItemsOf (λi v=>∃t,v=.int (a+i*c) t) acc n)(g:eH):aX g ((List.range n).map λ(i:Nat)=>.int (a+i*c)) acc.toList:=by
 have key:∀(l:List Nat)(vs:List Value),vs.length=l.length->(∀j(hj:j<l.length)v,vs[j]? = some v->∃t,v=.int (a+(l[j]:Nat)*c) t)->aX g (l.map λ(i:Nat)=>.int (a+i*c)) vs:=by
  intro l;induction l with
  |nil=>intro vs hl _;cases vs with|nil=>exact .nil|cons _ _=>contradiction
  |cons x l ih=>
   intro vs hl hv;rcases vs with _|⟨v,vs⟩
   ·contradiction
   ·refine xE (hv 0 (by simp) v rfl) λt ht=>?_
    subst ht;exact .cons (.int _ _) (ih vs (by simpa using hl) λj hj v' hv'=>hv (j+1) (by simpa using hj) v' (by simpa using hv'))
 refine key _ _ (by simp[h.1]) λj hj v hv=>?_;rw[SN];exact h.2 j v (by simpa using hv)
theorem ln{e1 e2 e3:PySem.Expr}{a b st:Int}(hL:Bl T "list" (.type "list"))(hb:Ω8 T)(h:rn T c O [e1,e2,e3] [.int a,.int b,.int st])(h0:st≠0)(Mj:Builtin.Range.small a b st=true)(Xj:Builtin.Range.rangeSize a b st=n)(hn:n<=2^24)(XT:Builtin.divisionGoesByPylong (b-a) st=false)(hkl:c.sc.names.lookup ("list" : Str)=some .globalImplicit)(hk:c.sc.names.lookup ("range" : Str)=some .globalImplicit)(he:∀ZV,eval (.Call (.Name "range" p') [e1,e2,e3] [] p) ZV=(do callWith p (<-eval (.Name "range" p') ZV) [] (backTo p (starEach [e1,e2,e3] ZV)) (backToKw p (keywordEach [] ZV))))(JW:∀ZV,starEach [e1,e2,e3] ZV=(false,eval e1 ZV)::starEach [e2,e3] ZV)(J0:∀ZV,(backTo p (starEach [e1,e2,e3] ZV)).any (·.1)=false)(Mb:∀ZV,eval (.Call (.Name "list" p2) [.Call (.Name "range" p') [e1,e2,e3] [] p] [] p1) ZV=(do callWith p1 (<-eval (.Name "list" p2) ZV) [] (backTo p1 (starEach [.Call (.Name "range" p') [e1,e2,e3] [] p] ZV)) (backToKw p1 (keywordEach [] ZV))))(K1:∀ZV,starEach [.Call (.Name "range" p') [e1,e2,e3] [] p] ZV=(false,eval (.Call (.Name "range" p') [e1,e2,e3] [] p) ZV)::starEach [] ZV)(Pi:∀ZV,(backTo p1 (starEach [.Call (.Name "range" p') [e1,e2,e3] [] p] ZV)).any (·.1)=false):
  oI T c O (.Call (.Name "list" p2) [.Call (.Name "range" p') [e1,e2,e3] [] p] [] p1) (.list ((List.range n).map λ(i:Nat)=>.int (a+i*st))):=by
 constructor;intros;refine d7 hL rfl hkl dk Mb K1 Pi ok tp JE ?_;refine dN hb rfl h hk dk he JW J0 ok tp R JE λvs HX Uf JL=>?_;obtain _|⟨r1,_|⟨r2,_|⟨r3,_|_⟩⟩⟩:=JL;refine RV.intK r1 λt1 U=>?_;subst U;refine RV.intK r2 λt2 U=>?_;subst U;refine RV.intK r3 λt3 U=>?_;subst U;refine call_range_3 h0 ?_ (.inl XT);refine call_list_range (n:=n) R.handled (IsRange.new ..) Mj Xj hn λh' tk Yg c' Ki KV M4=>?_;refine q _ _ (Uf.trans ⟨λb' o e=>Ki _ _ (QF _ e),rfl,rfl,rfl⟩) (c9 Uf (by rw[Rq];exact SF _)) ⟨Yg.toList,c',by simpa[aQ]using KV,?_⟩;exact xn M4 _
theorem j2{k:_}(h:F5 c O elts ds Wj)(hl:∀ZV,(assignEach elts ZV).length=ds.length:=by intros;rfl)(hs:∀ZV,(assignEach elts ZV).findIdx? (·.1)=none:=by intros;rfl):Tg c O (.Tuple elts k p) (.list ds) Wj:=by
 constructor;intro w A ZV Hy ms₀ as s v Q E ok R JE rv q;refine dK.el rv.inv λa vs n U hg JL=>?_;subst U;have Kc:=ab.mp hg;rw[assign_Tuple];refine GA (Tv ?_);unfold unpack;have hsz:(assignEach elts ZV).length=vs.toArray.size:=by rw[hl ZV,QJ];exact JL.length.symm
 rw[hsz,hs ZV];refine GA (RL (kun_itemsOf R.handled ⟨_,Kc.2,rfl,n,rfl⟩ λh' hx=>?_));have Uf:=cD hx;exact h.run ok R (JE.grow Uf.keep) (JL.mono (ai Uf.keep)) λUg Um UP k₂=>q Ug Um (Uf.same.trans UP) ((aN.of Uf.keep).trans k₂)
def yn(T:a6)(x:Str)(S:Int->Bool):Prop:=∀w h,T.Tp w h->∃a n,T.mg w x=some (.ref a)/\h.SetOf (PySem.intKind P0 w) a S n
theorem Fc{S:Int->Bool}{k:Int}(ht:yn T x S)(Ky:c.sc.names.lookup x=some .globalImplicit)(hn:(x==("__debug__" : Str))=false)(hi:Ev T c O l (.int k)):
  wN T c O .In l (.Name x p') (S k):=by
 constructor;intros;refine dE (ht w Hy tp) λa n hv hS=>?_;refine hi.run ok tp R JE λiv HX Uf ri=>?_;refine gj Ky hn ok tp (JE.grow Uf.keep) hv ?_;refine b9.el JE.ex λm F U=>?_;have VZ:HX.heap.SetOf (PySem.intKind P0 w) a S n:=by obtain⟨o,es,ep,t,ho,r⟩:=hS;exact⟨o,es,ep,t,Uf.keep _ _ (F.keep _ _ ho),r⟩
 refine xE ri.inv λU U=>?_;subst U;exact wpAny_inSet_of (by simp[PySem.intKind,Value.isInt]) rfl VZ (q _ (Uf.trans ax))
end
noncomputable def kX(n:Nat)(i:Int):Nat:=(max 0 (min (if i<0 then i+n else i) (n:Int))).toNat
noncomputable def nZ(n:Nat):Option Int->Nat|none=>0|some i=>kX n i
noncomputable def rP(n:Nat):Option Int->Nat|none=>n|some i=>kX n i
theorem rR(n:Nat)(i:Int):max 0 (min (if i<0 then i+n else i) (n:Int))=(kX n i:Int):=(Int.toNat_of_nonneg (Int.le_max_left _ _)).symm
theorem rQ(n:Nat)(i:Int):kX n i<=n:=Ub.mpr (Int.max_le.mpr ⟨Rv n,Int.min_le_right _ _⟩)
theorem ui(n:Nat)(l:Option Int):nZ n l<=n:=by cases l with|none=>exact Rh _|some i=>exact rQ n i
theorem uh(n:Nat)(l:Option Int):rP n l<=n:=by cases l with|none=>exact QO _|some i=>exact rQ n i
theorem lg(a b:Nat):sliceRange (a:Int) (b:Int) 1=(List.range (b-a)).map (λk=>a+k):=by
 unfold sliceRange;simp only[show((1:Int)>0)=True from by simp,if_true];by_cases J6:(a:Int)<b
 ·have e3:(((b:Int)-a+1-1) / 1).toNat=b-a:=by first|lia|(simp;done)|(simp;lia)
  simp only[J6,if_true,e3];refine Ra λk U=>?_;lia
 ·have:b-a=0:=by lia
  simp[J6,this]
theorem z4(n:Nat)(v:Option Int):(match v with|none=>(0:Int)|some i=>max 0 (min (if i<0 then i+n else i) (n:Int)))=(nZ n v:Int):=by
 rcases v with _|i
 ·rfl
 ·exact rR n i
theorem zq(n:Nat)(v:Option Int):(match v with|none=>(n:Int)|some i=>max 0 (min (if i<0 then i+n else i) (n:Int)))=(rP n v:Int):=by
 rcases v with _|i
 ·rfl
 ·exact rR n i
theorem AO(l u:Option Int)(n:Nat):Builtin.Str.strSliceIndices l u 1 n=(List.range (rP n u-nZ n l)).map (λk=>nZ n l+k):=by rw[<-lg,<-z4,<-zq];cases l<;>cases u<;>rfl
theorem va(x:Str)(l u:Option Int):(Txt.slice x l u).cps.toList=(x.cps.toList.drop (nZ x.length l)).take (rP x.length u-nZ x.length l):=by
 have hp:((Builtin.Str.strSliceIndices l u 1 x.length).filterMap (x.cps[·]?))=(x.cps.toList.drop (nZ x.length l)).take (rP x.length u-nZ x.length l):=by rw[AO];have h1:=uh x.length u;have h2:=ui x.length l;have h:=StrLaws.picks x.cps.toList (rP x.length u-nZ x.length l) (nZ x.length l) (by simp[Str.length]at h1 h2 ⊢;lia);simpa using h
 unfold Txt.slice;split
 ·rename_i h
  rw[AO]at h;simp at h;have h1:=uh x.length u;have h2:=ui x.length l;by_cases h0:x.length=0
  ·have:x.cps.toList=[]:=by simpa[Str.length]using h0
   rw[this];simp
  ·have e1:nZ x.length l=0:=by lia
   have e2:rP x.length u=x.length:=by lia
   rw[e1,e2,List.drop_zero,Nat.sub_zero];exact(Te (by simp[Str.length])).symm
 ·simpa using hp
theorem ww{a b:Str}(h:a.cps.toList=b.cps.toList):a=b:=by obtain⟨⟨a⟩⟩:=a;obtain⟨⟨b⟩⟩:=b;simpa using h
noncomputable def aj(l:List Nat):Str:=⟨l.toArray⟩
theorem aM(l:List Nat):(aj l).length=l.length:=rfl
theorem fb(l:List Nat)(i j:Option Int):Txt.slice (aj l) i j=aj ((l.drop (nZ l.length i)).take (rP l.length j-nZ l.length i)):=ww (va _ _ _)
theorem wo(x:Str):x=aj x.cps.toList:=ww rfl
theorem bq(a b:List Nat):aj a++aj b=aj (a++b):=by show(⟨(aj a).cps++(aj b).cps⟩:Str)=_;simp[aj]
theorem gR{a b:List Nat}:aj a=aj b↔a=b:=⟨λh=>by have:=QV (λx:Str=>x.cps.toList) h;exact this,λh=>by rw[h]⟩
theorem mt(l:List Nat):jD (aj l)=l.map λc=>.str (aj [c]):=rfl
theorem xZ(ds:List D)(i j:Option Int):qU ds i j=(ds.drop (nZ ds.length i)).take (rP ds.length j-nZ ds.length i):=by
 unfold qU
 have:sliceRange (sliceBounds i j none ds.length).1 (sliceBounds i j none ds.length).2.1 (sliceBounds i j none ds.length).2.2=(List.range (rP ds.length j-nZ ds.length i)).map (λk=>nZ ds.length i+k):=by rw[<-lg,<-z4,<-zq];cases i<;>cases j<;>rfl
 rw[this];have h1:=uh ds.length j;have h2:=ui ds.length i;exact StrLaws.picks ds _ _ (by omega)
theorem eI(n k:Nat):kX n (k:Int)=min k n:=by
 unfold kX;rw[Q5 (Int.not_lt.mpr (Rv k)),Int.max_eq_right (Int.le_min.mpr ⟨Rv k,Rv n⟩)];rcases Nat.le_total k n with h|h
 ·rw[Int.min_eq_left (Int.ofNat_le.mpr h),Tb h,RO]
 ·rw[Int.min_eq_right (Int.ofNat_le.mpr h),Nat.min_eq_right h,RO]
theorem SV.app{os os':List Nv}{vs vs':List Value}{new new':List Addr}(H:SV w h ms os vs new)(H':SV w h ms os' vs' new'):SV w h ms (os++os') (vs++vs') (new++new'):=
 H.ind (P:=λos vs new=>SV w h ms (os++os') (vs++vs') (new++new')) H' (λU U U U U r ih U=>⟨r,ih⟩) (λU U U U U mr ih U=>⟨⟨rfl,rfl⟩,mr,ih⟩) λU U U U U mr ih U=>SV.gh_ mr ih
theorem SV.rev{os:List Nv}(H:SV w h ms os vs new):SV w h ms os.reverse vs.reverse new.reverse:=by
 refine H.ind (P:=λos vs new=>SV w h ms os.reverse vs.reverse new.reverse) ⟨rfl,rfl⟩ (λd v os vs new r ih U=>?_) (λa o os vs new mr ih U=>?_) λa o os vs new mr ih U=>?_
 ·have z:=ih.app (os':=[.val d]) (vs':=[v]) (new':=[]) ⟨r,rfl,rfl⟩
  rw[QN]at z;rw[Sk,Sk];exact z
 ·rw[Sk,Sk,Sk]
  exact ih.app (os':=[.own a o]) (vs':=[.ref a]) (new':=[a]) ⟨⟨rfl,rfl⟩,mr,rfl,rfl⟩
 ·have z:=ih.app (os':=[.gh a o]) (vs':=[]) (new':=[a]) ⟨rfl,mr,rfl,rfl⟩
  rw[QN]at z;rw[Sk,Sk];exact z
section
variable(c:Cx)
structure Dj(O:St)(ts:List Str)(os:List Nv)(Wj:St):Prop where
 run:∀(w:World)(A:Around)(ZV:Env)(Hy:Heap)(H as new:List Addr)(s:Shared)(vs:List Value)(m:Str->Option Value)(Q:Unit->Shared->Prop)(E:Ω),
  aD c ZV->oJ c.wr ZV Hy s.heap m->ar w s.heap H m c.names O as->SV w s.heap H os vs new->as.Nodup->new.Nodup->(∀a∈new,a∉as)->
  (∀a,a∈as\/a∈new->a≠ZV.locals/\∀x cl,ZV.kindOf x=some .cell->ZV.cells.lookup x=some cl->cl≠a)->
  (∀s' m' as',oJ c.wr ZV Hy s'.heap m'->ar w s'.heap H m' c.names Wj as'->bP s s'->as'.Nodup->(∀a,a∈as'↔a∈as\/a∈new)->Q () s')->wpAny (model P0 w) A (assignInOrder (ts.map λn=>bindName ZV n) vs) Q E s
end
theorem ix:Dj c O [] [] O:=by constructor;intro w A ZV Hy H as new s vs m Q E ok F S sv nd Ke dj lo q;refine xA sv λU Mp=>?_;subst U;subst Mp;exact assignInOrder_nil (q s m as F S (bP.refl s) nd λa=>by simp)
theorem lJ(i:Nat){ts:List Str}{os:List Nv}{o:Slot}(hx:c.names[i]? = some x)(ho:O[i]? = some o)(hm:o.ZW=false)(hk:b8 c x=true)(h:Dj c (O.set i (.val d)) ts os Wj):Dj c O (x::ts) (.val d::os) Wj:=by
 constructor;intro w A ZV Hy H as new s vs m Q E ok F S sv nd Ke dj lo q;rcases vs with _|⟨v,vs⟩
 ·exact sv.elim
 ·refine xA sv λrv sv=>?_
  refine assignInOrder_cons (bindName_ (fQ ok F hk λHX UA sm k ka=>?_));exact h.run w A ZV Hy H as new HX vs _ Q E ok UA (S.put k.less (rv.mono k.less) (λa ha=>ka a (lo a (.inl ha)).1 (lo a (.inl ha)).2) ok.nodup hx ho hm) (SV.keep k.less (λa ha=>ka a (lo a (.inr ha)).1 (lo a (.inr ha)).2) sv) nd Ke dj lo
   λs' m' as' F' S' Mn n' hh=>q s' m' as' F' S' (sm.trans Mn) n' hh
theorem dW(i:Nat){ts:List Str}{os:List Nv}{o:Slot}(hx:c.names[i]? = some x)(ho:O[i]? = some o)(hm:o.ZW=false)(hk:b8 c x=true)(h:Dj c (O.set i (.mu a ob)) ts os Wj):Dj c O (x::ts) (.own a ob::os) Wj:=by
 constructor;intro w A ZV Hy H as new s vs m Q E ok F S sv nd Ke dj lo q;rcases vs with _|⟨v,vs⟩
 ·exact sv.elim
 ·rcases new with _|⟨a',new⟩
  ·exact sv.elim
  ·obtain⟨⟨rfl,rfl⟩,mr,sv⟩:=sv
   refine assignInOrder_cons (bindName_ (fQ ok F hk λHX UA sm k ka=>?_));have kn:∀b,b∈as\/b∈a'::new->∀o,s.heap.get? b=some o->HX.heap.get? b=some o:=λb hb=>ka b (lo b hb).1 (lo b hb).2;refine dE (ar.toMu k.less (mr.keep k.less (kn a' (.inr (QH)))) (λb hb=>kn b (.inl hb)) ok.nodup hx ho hm S) λl r e UG=>?_;have pm:=RZ (l₁:=l) (a:=a') (l₂:=r);have L3:=QY.mp Ke;have M6:a'∉l++r:=e▸dj a' (QH);refine h.run w A ZV Hy H (l++a'::r) new HX vs _ Q E ok UA UG (SV.keep k.less (λb hb=>kn b (.inr (QA _ hb))) sv) (pm.nodup_iff.mpr (QY.mpr ⟨M6,e▸nd⟩)) L3.2 (λb hb z=>?_) (λb hb=>lo b ((iL e b).mp hb)) λs' m' as' F' S' Mn n' hh=>q s' m' as' F' S' (sm.trans Mn) n' λb=>(hh b).trans (iL e b);rcases Qw.mp (pm.mem_iff.mp z)with z|z
   ·exact L3.1 (z▸hb)
   ·exact dj b (QA _ hb) (e▸z)
theorem fX(i:Nat){ts:List Str}{os:List Nv}{o:Slot}(hx:c.names[i]? = some x)(ho:O[i]? = some o)(hm:o.ZW=false)(hk:c.sc.names.lookup x=none)(h:Dj c (O.set i (.mu a ob)) ts os Wj):
  Dj c O ts (.gh a ob::os) Wj:=by
 constructor;intro w A ZV Hy H as new s vs m Q E ok F S sv nd Ke dj lo q;rcases new with _|⟨a',new⟩
 ·exact sv.elim
 ·refine jd sv λU=>?_;subst U;intro mr sv
  refine dE (ar.toMu (am.refl _) mr (λb hb o e=>e) ok.nodup hx ho hm S) λl r e UG=>?_;have pm:=RZ (l₁:=l) (a:=a') (l₂:=r);have L3:=QY.mp Ke;have M6:a'∉l++r:=e▸dj a' (QH);refine h.run w A ZV Hy H (l++a'::r) new s vs _ Q E ok (F.ghost (v:=some (.ref a')) ((ok.kindOf x).trans hk)) UG sv (pm.nodup_iff.mpr (QY.mpr ⟨M6,e▸nd⟩)) L3.2 (λb hb z=>?_) (λb hb=>lo b ((iL e b).mp hb)) λs' m' as' F' S' Mn n' hh=>q s' m' as' F' S' Mn n' λb=>(hh b).trans (iL e b);rcases Qw.mp (pm.mem_iff.mp z)with z|z
  ·exact L3.1 (z▸hb)
  ·exact dj b (QA _ hb) (e▸z)
theorem bz(h:yl T c O es (λos=>wd os=n/\∃Wj,Dj c O ns.reverse os.reverse Wj/\P .next Wj))(hl:ns.length=n)(hz:n<=sizeLine)(hs:∀ZV,swapsWithSole [.Tuple elts k tp] (.Tuple es k2 tp2) p.line ZV=pure false)(hw:∀ZV,aD c ZV->swappedStores [.Tuple elts k tp] (.Tuple es k2 tp2) ZV=pure (some ns)):W1 T c O (.Assign [.Tuple elts k tp] (.Tuple es k2 tp2) p) P:=by
 constructor;intro w A ZV Hy ms₀ as s Q E ok Kv R JE q;refine Assign_Tuple_swapped (names:=ns) (PyProof.Rows.Tuple_ (h.run ok Kv R JE (λvs HX new os hk Uf nd fr sv=>?_) tp2)) (hs ZV) (hw ZV ok);obtain⟨hnv,Wj,ht,hp⟩:=hk;have JF:=sv.len.trans hnv;refine RK ?_ (by show vs.toArray.size<=sizeLine;rw[QJ,JF];exact hz);have hsz:ns.length=vs.toArray.size:=by rw[hl,QJ];exact JF.symm
 rw[hsz];refine wpAny_unpackItems_tuple R.handled ⟨_,dC rfl,rfl,0,rfl⟩ λh' hx=>?_;have Uj:=Uf.trans ((az (s:=HX) (o:={ cls:=.type "tuple",dict:=none,data:=.seq vs.toArray }) (t:=HX.toks)).trans (cD hx));have Vh:∀b o,HX.heap.get? b=some o->h'.get? b=some o:=(az.trans (cD hx)).keep;refine b9.el JE.ex λm F S=>?_;refine ht.run w A ZV Hy (ms₀++as++new) as new.reverse _ _ m _ E ok (F.grow Uj.keep) (ar.off (λb o qs z=>?_) (λb U o e=>Uj.keep _ _ e) (Z 5) S) (SV.keep (ai Vh) (λa U o e=>Vh _ _ e) sv).rev JE.nd ((List.reverse_perm new).nodup_iff.mpr nd) (λa ha z=>?_) (λa ha=>?_) λs' m' as' F' S' sm n' hh=>?_
 ·rw[ab]at z ⊢
  refine⟨λy=>?_,Uj.keep _ _ z.2⟩;rcases Qz.mp y with y|y
  ·exact z.1 y
  ·rw[fr b y]at z;cases z.2
 ·refine xE (JE.have _ (Qy _ z)) λo e=>?_
  rw[fr a (Tl.mp ha)]at e;exact nS e
 ·rcases ha with ha|ha
  ·exact JE.loc a ha
  ·exact(dY F (fr a (Tl.mp ha))).2
 ·refine q .next .next Wj as' s' hp ⟨⟨m',F',ar.off (aT λa ha=>?_) (λU U U e=>e) (Z 5) S'⟩,n',λa ha=>?_,JE.old,λa ha=>?_⟩ (Uj.same.trans sm) trivial
  ·rcases Qz.mp ha with ha|ha
   ·exact QM _ (QM _ ha)
   ·rcases(hh a).mp ha with ha|ha
    ·exact QM _ (Qy _ ha)
    ·exact Qy _ (Tl.mp ha)
  ·rcases(hh a).mp ha with ha|ha
   ·exact JE.new a ha
   ·exact(dY F (fr a (Tl.mp ha))).1
  ·rcases(hh a).mp ha with ha|ha
   ·exact JE.loc a ha
   ·exact(dY F (fr a (Tl.mp ha))).2
theorem bo{v:PySem.Expr}{ZV:Env}(ok:aD c ZV):swappedStores ts v ZV=swappedStores ts v { (default:Env)with scope:=c.sc }:=by unfold swappedStores Env.blockKind Env.kindOf;rw[ok.scope]
theorem cw(a b:Nat):((a:Int)).fmod (b:Int)=((a%b:Nat):Int):=by rw[Int.fmod_eq_emod_of_nonneg _ (Rv b)];rfl
theorem sA(a b:Nat):((a:Int)).fdiv (b:Int)=((a / b:Nat):Int):=by rw[Int.fdiv_eq_ediv_of_nonneg _ (Rv b)];rfl
theorem WT.mono{t:Env->Sem Flow}{P':dL}(h:WT T c O t P)(k:∀fl Wj,P fl Wj->P' fl Wj):WT T c O t P':=
 ⟨@λw A ZV Hy ms₀ as s Q E ok tp R JE q=>h.run ok tp R JE λfl f Wj as' s' p JY sm fr=>q fl f Wj as' s' (k _ _ p) JY sm fr⟩
theorem gp(I:Nat->St->Prop)(MA:∀O,I items.length O->P .next O)(step:∀i d O,items[i]? = some d->I i O->∃UB,Tg c O JU d UB/\W T c UB body (λfl Wj=>match fl with
   |.next=>I (i+1) Wj
   |.cont=>I (i+1) Wj
   |.brk=>P .next Wj
   |.ret r=>P (.ret r) Wj))(h0:I 0 O):jf T c JU body P items O:=by
 have key:∀(k:Nat)(ds:List D)(O:St),items.drop k=ds->k<=items.length->I k O->jf T c JU body P ds O:=by
  intro k ds;induction ds generalizing k with
  |nil=>
   intro O hd hk hI
   have:k=items.length:=by
    have:=QV List.length hd
    simp at this;lia
   subst this;exact MA O hI
  |cons d ds ih=>
   intro O hd hk hI;have hi:items[k]? = some d:=by
    have:=QV (·[0]?) hd
    simpa using this
   refine ay (step k d O hi hI) λUB ht hw=>?_;have Ki:k<items.length:=(Q0.mp hi).1;have JX:items.drop (k+1)=ds:=by rw[<-List.drop_drop,hd];rfl
   refine⟨UB,ht,hw.mono λfl Wj p=>?_⟩;cases fl with
   |next=>exact ih (k+1) Wj JX Ki p
   |cont=>exact ih (k+1) Wj JX Ki p
   |brk=>exact p
   |ret r=>exact p
 exact key 0 items O rfl (Rh _) h0
theorem pZ{st:Stmt}{rest:List Stmt}(M:St->Prop)(h:W1 T c O st (λfl Wj=>fl=.next/\M Wj))(h':∀Wj,M Wj->W T c Wj rest P):W T c O (st::rest) P:=
 ac (WT.mono h λfl Wj p=>by refine xA p λU=>?_;subst U;intro p;exact h' Wj p)
theorem di{v:PySem.Expr}{tg:Option PySem.Expr}{ZV:Env}(ok:aD c ZV):swapsWith v tg n ZV=swapsWith v tg n { (default:Env)with scope:=c.sc }:=by unfold swapsWith Env.blockKind Env.kindOf;rw[ok.scope]
theorem Oq(n:Nat):Builtin.Range.rangeSize 2 (2*((n:Int)+1)) 2=(n:Nat):=by unfold Builtin.Range.rangeSize;rw[Rb dk];split<;>lia
theorem vN(i:Int)(h1:-1000<=i)(h2:i<=1000):Builtin.Range.rangeFitsLong i=true:=by unfold Builtin.Range.rangeFitsLong;rw[Q7 (by lia),Q7 (by lia)];rfl
theorem x4(n:Nat)(h:n<=100):Builtin.Range.small 2 (2*((n:Int)+1)) 2=true:=by unfold Builtin.Range.small;rw[Oq,Rb dk,vN _ (by exact Tf 1000 2) (by exact Int.le.intro_sub (1000-Nat.succ 1) rfl),vN _ (by exact Tf 1000 (2*(n+1))) (by lia),vN _ (by exact Int.neg_ofNat_le_natCast 1000 n) (by lia),vN _ (by exact Tf 1000 (2*(n+1)+(2-Nat.succ 0))) (by lia)];simp
theorem yC(n:Nat)(h:n<=0x10FFFF):(decide ((n:Int)<0)||decide ((n:Int)>0x10FFFF))=false:=by rw[Q4 (by exact Int.not_ofNat_neg n),Q4 (by lia)];rfl
theorem oO(l:List Nat)(ch:Nat):Txt.contains (aj l) (aj [ch])=decide (ch∈l):=StrLaws.found_one (aj l) ch
noncomputable def qI:PySem.Expr->Bool|.Starred ..=>false|_=>true
theorem x6{ZV:Env}(h:qI e=true):starEach (e::es) ZV=(false,eval e ZV)::starEach es ZV:=by cases e<;>first|rfl|contradiction
theorem ah(h:Ev T c O e d)(h':rn T c O es ds)(he:qI e=true:=by rfl):rn T c O (e::es) (d::ds):=bC h h' λU=>x6 he
noncomputable def GR:PySem.Expr->Option D|.Constant (.int i) _ _=>some (.int i)|.Constant (.str x) _ _=>some (.str x)|.Constant .none _ _=>some .none|.Constant (.bool b) _ _=>some (.bool b)|_=>none
def Dw:List PySem.Expr->Option (List D)
 |[]=>some []
 |e::es=>(GR e).bind λd=>(Dw es).map (d::·)
theorem D8(h:GR e=some d):Ev T c O e d/\qI e=true:=by
 cases e with
 |Constant c k p=>
  cases c with
  |int i=>obtain rfl:=QG h;exact⟨ag,rfl⟩
  |str i=>obtain rfl:=QG h;exact⟨aA,rfl⟩
  |none=>obtain rfl:=QG h;exact⟨fB,rfl⟩
  |bool b=>obtain rfl:=QG h;exact⟨cR,rfl⟩
  |_=>contradiction
 |_=>contradiction
set_option tactic.hygienic true in
theorem aF:∀{es:List PySem.Expr}{ds:List D},Dw es=some ds->rn T c O es ds:=by
 intro X_;induction X_ with
 |nil=>intro _ h;obtain rfl:=QG h;exact ad
 |cons e es IH=>intro ds h;refine ay (Option.bind_eq_some_iff.mp h) λd h1 h2=>?_;refine ay (RF.mp h2) λr h3 h4=>?_;subst h4;have hl:=D8 (T:=T) (c:=c) (O:=O) h1;exact ah hl.1 (IH h3) hl.2
def st(i:Nat):Stmt:=((behindTheImports P0)[i]?).getD (.Pass ⟨0,0,0,0⟩)
def bF(i:Nat):List Stmt:=match st i with|.FunctionDef _ _ b _ _ _ _ _ _ _=>b|_=>[]
def fh(i:Nat):Scope:=match st i with|.FunctionDef _ _ _ _ _ _ sc _ _ _=>sc|_=>default
def bA(T:a6)(x:Str)(d:D):Prop:=∀w h,T.Tp w h->∃v,T.mg w x=some v/\∀g,RV g d v
theorem uG(hf:cf T "ISTERMINAL" ["x"] (fh 64) (bF 64))(hN:bA T "NT_OFFSET" (.int 256))(x:Int):Fn T 3 "ISTERMINAL" [.int x] (.bool (decide (x<256))):=by refine eU (rest:=[]) (wr:=[]) hf rfl ?_;refine ac (bf (dM (aa 0) (bX hN) kq rfl) (.inl rfl))
theorem f5(hf:cf T "ISNONTERMINAL" ["x"] (fh 65) (bF 65))(hN:bA T "NT_OFFSET" (.int 256))(x:Int):Fn T 3 "ISNONTERMINAL" [.int x] (.bool (decide (256<=x))):=by refine eU (rest:=[]) (wr:=[]) hf rfl ?_;refine ac (bf (dM (aa 0) (bX hN) DT rfl) (.inl rfl))
theorem GG(hf:cf T "ISEOF" ["x"] (fh 66) (bF 66))(hN:bA T "ENDMARKER" (.int 0))(x:Int):Fn T 3 "ISEOF" [.int x] (.bool (x==0)):=by refine eU (rest:=[]) (wr:=[]) hf rfl ?_;refine ac (bf (dM (aa 0) (bX hN) gC rfl) (.inl rfl))
noncomputable def jZ(a b:Str):Int:=if a==b then 0 else if Txt.lower a==Txt.lower b then 1 else 2
theorem j0(hf:cf T "_substitution_cost" ["ch_a","ch_b"] (fh 71) (bF 71))(h1:bA T "_CASE_COST" (.int 1))(h2:bA T "_MOVE_COST" (.int 2))(a b:Str)(ha:Builtin.Str.tooLong (Txt.lower a).length=false)(hb:Builtin.Str.tooLong (Txt.lower b).length=false):Fn T 3 "_substitution_cost" [.str a,.str b] (.int (jZ a b)):=by
 refine eU (rest:=[]) (wr:=[]) hf rfl ?_;refine ac (bM (aE (aa 0) (aa 1) fu) (λe=>?_) (λe=>aL ?_))
 ·exact ac (bf ag (.inl (by simp[jZ,e])))
 exact ac (bM (aE (eT (aa 0) (Z 6) ha) (eT (aa 1) (Z 6) hb) fu) (λe'=>(ac (bf (bX h1) (.inl (by simp[jZ,e,e']))))) (λe'=>aL (ac (bf (bX h2) (.inl (by simp[jZ,e,e']))))))
theorem Ev.to(h:Ev T c O e d)(hd:d=d'):Ev T c O e d':=hd▸h
theorem qq{t x y:PySem.Expr}{b:Bool}(ht:Tr T c O t b)(hb:b=true)(hx:Ev T c O x d):Ev T c O (.IfExp t x y p) d:=by subst hb;exact fx (d':=d) ht (λU=>hx) (λz=>by exact fT z)
theorem qp{t x y:PySem.Expr}{b:Bool}(ht:Tr T c O t b)(hb:b=false)(hy:Ev T c O y d):Ev T c O (.IfExp t x y p) d:=by subst hb;exact fx (d:=d) ht (λz=>by exact fF z) (λU=>hy)
theorem Ii(h:i<n):seqIndex? (i:Int) n=some i:=by
 unfold seqIndex?;have h1:¬((i:Int)<0):=by exact Int.not_ofNat_neg i
 simp only[h1,TV];rw[Rb (by simp;exact Nat.lt_of_succ_le h)];simp
noncomputable def GS(e:PySem.Expr):Int:=match e with|.Constant (.int i) _ _=>i|_=>0
def GT(e:PySem.Expr):Str:=match e with|.Constant (.str x) _ _=>x|_=>aj []
def DU(x:Str):Int:=match(behindTheImports P0).find? (λs=>match s with|.Assign [.Name y _] _ _=>y==x|_=>false)with|some (.Assign _ e _)=>GS e|_=>0
def G2(e:PySem.Expr):Int:=match e with|.Name x _=>DU x|_=>0
def Dm(i:Nat):List (PySem.Expr×PySem.Expr):=match st i with|.Assign _ (.Dict ks vs _) _=>(ks.map λk=>k.getD (.Constant .none 0 ⟨0,0,0,0⟩)).zip vs|_=>[]
def b3:List (Int×D):=(Dm 10).map λp=>(GS p.1,.str (GT p.2))
def ua:List (Str×D):=(Dm 63).map λp=>(GT p.1,.int (G2 p.2))
def rH(ch:Nat):Str:=match cM b3 (ch:Int)with|some (.str x)=>x|_=>Txt.lower (aj [ch])
theorem rZ{K:Type}[DecidableEq K]{es:List (K×D)}{k:K}(h:cM es k=some d):∃e∈es,e.2=d:=by
 unfold cM at h;rcases q:es.find? (λe=>e.1=k)with _|e
 ·rw[q]at h;contradiction
 ·rw[q]at h;obtain rfl:=QG h;exact⟨e,SI q,rfl⟩
theorem sG{S:Int->Bool}(hf:cf T "in_table_b1" ["code"] (fh 9) (bF 9))(hb:yn T "b1_set" S)(hO:Bl T "ord" (.builtin "ord"))(ch:Nat):Fn T 4 "in_table_b1" [.str (aj [ch])] (.bool (S ch)):=by exact eU (rest:=[]) (wr:=[]) hf rfl (ac (bf (Gu (Fc hb (Z 1) rfl (bh hO rfl mo (bC (aa 0) ad (Z 2)))) rfl) (.inl rfl)))
theorem qE(hf:cf T "map_table_b3" ["code"] (fh 11) (bF 11))(hb:yi T (λw=>PySem.intKind P0 w) "b3_exceptions" b3)(hO:Bl T "ord" (.builtin "ord"))(ch:Nat)(hl:Builtin.Str.tooLong (Txt.lower (aj [ch])).length=false):Fn T 4 "map_table_b3" [.str (aj [ch])] (.str (rH ch)):=by
 refine eU (rest:=["r"]) (wr:=[]) hf rfl ?_;refine ac (ak 1 (CV zK hb (Z 1) rfl (bh hO rfl mo (bC (aa 0) ad (Z 2))) (Z 6) (Z 2)) rfl rfl ?_);have WU:∃o,(cM b3 (ch:Int))=o/\(o=none\/∃x,o=some (.str x)):=by
  rcases q:cM b3 (ch:Int)with _|d
  ·exact⟨_,rfl,.inl rfl⟩
  ·refine ay (rZ q) λe he hd=>?_
   refine ay (QR.mp he) λp U U=>?_;subst U;exact⟨_,rfl,.inr ⟨_,by rw[<-hd]⟩⟩
 refine ay WU λo ho hc=>?_;rw[ho];rcases hc with rfl|⟨x,rfl⟩
 ·exact ac (bM (aE (aa 1) fB dw) (λe=>by contradiction) (λU=>aL (ac (bf (eT (aa 0) (Z 6) hl) (.inl (by simp[rH,ho]))))))
 ·exact ac (bM (aE (aa 1) fB dw) (λe=>(ac (bf (aa 1) (.inl (by simp[rH,ho]))))) (λe=>by contradiction))
theorem gk{ZV:Env}(ok:aD c ZV):interactive ZV=false:=by unfold interactive;rw[ok.scope,ok.kind];rfl
theorem yV:ua.all (λe=>match e.2 with|.int _=>true|_=>false)=true:=by decide +kernel
def oF(p:List Nat):Option D:=cM ua (aj p)
theorem tM{p:List Nat}(h:oF p=some d):∃i,d=.int i:=by
 refine ay (rZ h) λe he hd=>?_
 have:=QL.mp yV e he
 subst hd;cases q:e.2 with
 |int i=>exact⟨i,rfl⟩
 |_=>rw[q]at this;exact fF this
def gw(p:List Nat):Option Int:=match oF p with|some (.int i)=>some i|_=>none
theorem yc{p:List Nat}{i:Int}(h:gw p=some i):oF p=some (.int i):=by
 unfold gw at h;cases q:oF p with
 |none=>rw[q]at h;exact nS h
 |some d=>refine xE (tM q) λj e=>?_;subst e;rw[q]at h;exact QV (λi=>some (D.int i)) (QG h)
theorem ir(p:List Nat):(oF p).isSome=(gw p).isSome:=by
 unfold gw;rcases q:oF p with _|d
 ·rfl
 ·refine xE (tM q) λi U=>?_;subst U;rfl
def cut:Nat->List Nat->List Nat
 |0,p=>p
 |n+1,p=>if 1<p.length/\(gw p).isSome=false then cut n p.dropLast else p
theorem Gn{p:List Nat}:cut (n+1) p=if 1<p.length/\(gw p).isSome=false then cut n p.dropLast else p:=rfl
def gv(p:List Nat):Int:=match gw p with|some i=>i|none=>256+(p.headD 0:Nat)
def j1:Nat->List Nat->List Int
 |0,_=>[]
 |n+1,t=>if t=[]then[]else gv (cut 2 (t.take 3))::j1 n (t.drop (cut 2 (t.take 3)).length)
theorem gU(n:Nat)(t:List Nat):j1 (n+1) t=if t=[]then[]else gv (cut 2 (t.take 3))::j1 n (t.drop (cut 2 (t.take 3)).length):=rfl
def fm(t:List Nat):List Int:=j1 t.length t
noncomputable def rM:Stmt->List Stmt|.For _ _ b _ _=>b|.While _ b _ _=>b|.If _ b _ _=>b|_=>[]
def jc(ss:List Stmt)(k:Nat):Stmt:=match ss[k]? with|some st=>st|none=>.Pass ⟨0,0,0,0⟩
def c8(ss:List Stmt)(k:Nat):List Stmt:=rM (jc ss k)
theorem rW(n:Nat):∀(p:List Nat),p.length<=n+1->1<=p.length->1<=(cut n p).length/\(cut n p).length<=p.length/\((cut n p).length=1\/(gw (cut n p)).isSome=true):=by
 induction n with
 |zero=>exact λp h h1=>⟨h1,QO _,.inl (Uc h h1)⟩
 |succ n ih=>
  intro p h h1;rw[Gn];by_cases hc:1<p.length/\(gw p).isSome=false
  ·rw[Rb hc]
   have hl:p.dropLast.length=p.length-1:=List.length_dropLast;exact jd (ih p.dropLast (hl▸SS h) (hl▸Nat.le_sub_of_add_le hc.1)) λg1 g2 g3=>⟨g1,QC g2 (hl▸Nat.sub_le _ _),g3⟩
  ·rw[Q5 hc]
   refine⟨h1,QO _,?_⟩;cases e:(gw p).isSome with
   |true=>exact .inr rfl
   |false=>exact .inl (Uc (Sg.mp λq=>hc ⟨q,e⟩) h1)
theorem Cu(h:0<k):-(k:Int)<0:=Int.neg_neg_of_pos (Sy.mpr h)
theorem rS(h:0<k)(hk:k<=n):kX n (-(k:Int))=n-k:=by unfold kX;rw[Rb (Cu h),Sz,<-Int.sub_eq_add_neg,<-Int.ofNat_sub hk,Int.min_eq_left (Int.ofNat_le.mpr (Nat.sub_le _ _)),Int.max_eq_right (Rv _)];rfl
theorem tF(h:k<=t.length):Txt.slice (aj t) (some (k:Int)) (some ((k+n:Nat):Int))=aj ((t.drop k).take n):=by rw[fb];have e1:nZ t.length (some (k:Int))=k:=(eI _ _).trans (Tb h);have e2:rP t.length (some ((k+n:Nat):Int))=min (k+n) t.length:=eI _ _;rw[e1,e2,<-Nat.sub_min_sub_right,Nat.add_sub_cancel_left,<-Rg,<-List.take_eq_take_min]
theorem u9{p:List Nat}(h:0<p.length):Txt.slice (aj p) none (some (-1))=aj p.dropLast:=by rw[fb];have e2:rP p.length (some (-1))=p.length-1:=rS (k:=1) (Tt 0) h;rw[e2,List.dropLast_eq_take];rfl
theorem BS(h:n<=1000)(e:k=n):¬(k:Int)>=2^63:=by lia
theorem Bj{x:List Nat}(h:x.length<=1000):(aj x).length<=sizeLine:=by rw[aM];exact QC h dk
theorem gF{x:List Nat}{y:Str}{p p' p'':Pos}(hL:Bl T "len" (.builtin "len"))(hk:c.sc.names.lookup ("len" : Str)=some .globalImplicit)(ex:Ev T c O (.Name y p'') (.str (aj x)))(hz:x.length<=1000):Ev T c O (.Call (.Name "len" p) [.Name y p''] [] p') (.int x.length):=
 Ev.to (bh hL rfl (mn (BS hz (aM x))) (bC ex ad (Z 2)) hk) (QV (λn:Nat=>D.int n) (aM x))
theorem mQ{a b:Nat}:decide ((a:Int)<b)=decide (a<b):=decide_eq_decide.mpr Sy
theorem rX(p:List Nat):(decide ((1:Int)<p.length)&&(!(cM ua (aj p)).isSome&&true))=decide (1<p.length/\(gw p).isSome=false):=by rw[<-ir,Bool.decide_and,So];refine congr (QV and (mQ (a:=1))) ?_;unfold oF;cases (cM ua (aj p)).isSome<;>rfl
abbrev cS:Cx:=⟨4,fh 77,["text","symbols","at","piece"],[]⟩
def sS(t:List Nat)(a:Addr)(ds:List D)(k:Nat)(o:Slot):St:=[.val (.str (aj t)),.mu a (.list ds),.val (.int k),o]
inductive N0(q:List Nat)(s:Slot->St)(m:Nat)(O:St):Prop
 |mk (p:List Nat) (e:O=s (.val (.str (aj p)))) (h1:1<=p.length) (h2:p.length<=m+1) (h3:p.length<=1000) (h4:cut m p=q):N0 q s m O
theorem Fd(hE:yi T (λw=>PySem.strKind P0 w) "EXACT_TOKEN_TYPES" ua)(hL:Bl T "len" (.builtin "len"))(t:List Nat)(a:Addr)(ds:List D)(k:Nat)(p0:List Nat)(h1:1<=p0.length)(h3:p0.length<=3):
  W1 T cS (sS t a ds k (.val (.str (aj p0)))) (jc (c8 (bF 77) 1) 1) (λfl Wj=>fl=.next/\Wj=sS t a ds k (.val (.str (aj (cut 2 p0))))):=by
 refine gA (N0 (cut 2 p0) (sS t a ds k)) 2 ⟨p0,rfl,h1,h3,QC h3 dk,rfl⟩ ?_;generalize cut 2 p0=q;rintro m O ⟨p,rfl,h1,h2,h3,rfl⟩;refine⟨_,dZ (bc (aE (gF hL (Z 1) (aa 3) h3) ag jk) (λU=>bc (nU (ya jq hE (Z 1) rfl (aa 3)) rfl) λU=>eM)),λhc=>?_,λhc=>?_⟩
 ·rw[rX]at hc
  have hc:=QS hc;rcases m with _|m
  ·exact absurd hc.1 (Sg.mpr h2)
  ·have hl:p.dropLast.length=p.length-1:=List.length_dropLast
   exact ac (ak 3 (Ev.to (bK (aa 3) .no (.int (mJ rfl)) (Bj h3)) (QV D.str (u9 h1))) rfl rfl (aL ⟨m,Rf _,p.dropLast,rfl,hl▸Nat.le_sub_of_add_le hc.1,hl▸SS h2,hl▸QC (Nat.sub_le _ _) h3,(Rb hc).symm⟩))
 ·rw[rX]at hc
  have hc:=RT hc;have e:cut m p=p:=by
   rcases m with _|m
   ·rfl
   ·exact Q5 hc
  rw[e];exact⟨rfl,rfl⟩
theorem Fe(hE:yi T (λw=>PySem.strKind P0 w) "EXACT_TOKEN_TYPES" ua)(hO:Bl T "ord" (.builtin "ord"))(t:List Nat)(a:Addr)(ds:List D)(k:Nat)(p:List Nat)(g:p.length=1\/(gw p).isSome=true)(hd:ds.length<=sizeLine)(hp:P .next (sS t a (ds++[.int (gv p)]) k (.val (.str (aj p))))):W1 T cS (sS t a ds k (.val (.str (aj p)))) (jc (c8 (bF 77) 1) 2) P:=by
 refine eN 1 (d:=.int (gv p)) (bV 1 rfl rfl) (bC ?_ ad (Z 2)) rfl rfl (Z 6) (Z 2) hd (λU ok=>gk ok) (Z 2) hp;unfold gv;cases q:gw p with
 |some i=>exact qq (nU (AX jq hE (Z 1) rfl (aa 3)) rfl) (by show(oF p).isSome=true;rw[ir,q];rfl) (AY jq hE (Z 1) rfl (aa 3) (yc q) (Z 5))
 |none=>rw[q]at g;refine xE (List.length_eq_one_iff.mp (g.resolve_right Rc)) λch U=>?_;subst U;exact qp (nU (AX jq hE (Z 1) rfl (aa 3)) rfl) (by show(oF [ch]).isSome=false;rw[ir,q];rfl) (bH ag (bh hO rfl (mo (ch:=ch)) (bC (aa 3) ad (Z 2))))
theorem CU(hE:yi T (λw=>PySem.strKind P0 w) "EXACT_TOKEN_TYPES" ua)(hL:Bl T "len" (.builtin "len"))(hO:Bl T "ord" (.builtin "ord"))(t:List Nat)(a:Addr)(ds:List D)(k:Nat)(o:Slot)(ht:t.length<=1000)(hk:k<t.length)(ho:o.ZW=false)(hd:ds.length<=sizeLine)(hp:1<=(cut 2 ((t.drop k).take 3)).length->(cut 2 ((t.drop k).take 3)).length<=(t.drop k).length->P .next (sS t a (ds++[.int (gv (cut 2 ((t.drop k).take 3)))]) (k+(cut 2 ((t.drop k).take 3)).length) (.val (.str (aj (cut 2 ((t.drop k).take 3))))))):W T cS (sS t a ds k o) (c8 (bF 77) 1) P:=by
 have hl:((t.drop k).take 3).length=min 3 (t.drop k).length:=Ru;have h1:1<=((t.drop k).take 3).length:=hl▸Nat.le_min.mpr ⟨by decide,by rw[Rg];exact T4 hk⟩;have h3:((t.drop k).take 3).length<=3:=hl▸TD _ _;have h4:((t.drop k).take 3).length<=(t.drop k).length:=hl▸T8 _ _;refine ac (ak 3 (Ev.to (bK (aa 0 rfl) (.int (aa 2 rfl)) (.int (bH (aa 2 rfl) ag)) (Bj ht)) (QV D.str (tF (n:=3) (RE hk)))) rfl ho ?_);refine pZ (λWj=>Wj=_) (Fd hE hL t a ds k _ h1 h3) ?_;rintro O rfl;refine jd (rW 2 _ h3 h1) λg1 g2 g3=>?_;replace hp:=hp g1 (QC g2 h4);have g4:=QC g2 (QC h3 (by decide:3<=1000));generalize cut 2 ((t.drop k).take 3)=p at g3 g4 hp ⊢;exact ac (Fe hE hO t a ds k p g3 hd (ac (ak 2 (bH (aa 2 rfl) (gF hL (Z 1) (aa 3) g4)) rfl rfl (aL hp))))
inductive NZ(t:List Nat)(a:Addr)(n:Nat)(O:St):Prop
 |mk (done:List Int) (k:Nat) (o:Slot) (h0:O=sS t a (done.map .int) k o) (h1:o.ZW=false) (h2:k<=t.length) (h3:(t.drop k).length<=n) (h4:done.length<=k) (h5:done++j1 n (t.drop k)=fm t):NZ t a n O
theorem sT(hf:cf T "_law_symbols" ["text"] (fh 77) (bF 77))(hE:yi T (λw=>PySem.strKind P0 w) "EXACT_TOKEN_TYPES" ua)(hL:Bl T "len" (.builtin "len"))(hO:Bl T "ord" (.builtin "ord"))(t:List Nat)(ht:t.length<=1000):
  Fn T 5 "_law_symbols" [.str (aj t)] (.list ((fm t++[0]).map .int)):=by
 refine eU (rest:=["symbols","at","piece"]) (wr:=[]) hf rfl ?_;refine ac (bz (n:=2) (ns:=["symbols","at"]) (fE (dB ad dk) (λa=>jJ ag (gJ ⟨rfl,_,lJ 2 rfl rfl rfl (Z 1) (dW 1 rfl rfl rfl (Z 1) ix),?_⟩) (Z 2)) (Z 2)) rfl dk (Z 2) (λU ok=>(bo ok).trans (Z 1)));refine ac (gA (λn O=>NZ t a n O) t.length ⟨[],0,.no,rfl,rfl,Rh _,QO _,QO _,rfl⟩ ?_);rintro n O ⟨done,k,o,rfl,ho,hk,hr,hd,hs⟩;have JX:(done.map D.int).length<=1000:=by rw[Qs];exact QC hd (QC hk ht)
 refine⟨_,aE (aa 2) (gF hL (Z 1) (aa 0) ht) kq,λhb=>?_,λhb=>?_⟩
 ·rw[mQ]at hb
  have hb:=QS hb;have JF:0<(t.drop k).length:=by rw[Rg];exact T4 hb
  have JO:t.drop k≠[]:=List.ne_nil_of_length_pos JF;rcases n with _|n
  ·exact absurd JF (Sg.mpr hr)
  ·refine CU hE hL hO t a _ k o ht hb ho (QC JX dk) λg1 g2=>?_
   rw[gU,Q5 JO,List.drop_drop]at hs;generalize cut 2 ((t.drop k).take 3)=p at g1 g2 hs ⊢;rw[Rg]at g2 hr;refine⟨n,Rf _,done++[gv p],k+p.length,.val (.str (aj p)),by rw[QU];rfl,rfl,?_,?_,?_,?_⟩
   ·rw[Sh];exact Nat.add_le_of_le_sub hk g2
   ·rw[Rg,<-Nat.sub_sub];exact SS (QC hr (TM g1 n))
   ·rw[Qu];exact R8 hd g1
   ·rw[QQ];exact hs
 ·rw[mQ]at hb
  have YB:t.drop k=[]:=List.drop_eq_nil_of_le (Sg.mp (RT hb));obtain rfl:done=fm t:=by
   rw[<-hs,YB];rcases n with _|n
   ·exact(QN _).symm
   ·exact(QN _).symm
  refine cH 1 rfl rfl (ac (bf (cZ (aa 1) (av (bC ag ad (Z 2))) (QC (R8 JX (QO 1)) dk)) (.inl (by rw[QU];rfl))))
theorem q7:(2:Nat)<=sizeLine:=by decide
noncomputable def jv:List Nat->List Nat->Nat
 |x::a,y::b=>if x=y then jv a b+1 else 0
 |_,_=>0
def iX(x y:Nat):Int:=jZ (aj [x]) (aj [y])
structure lj where
 dist:Int
 res:Int
 mini:Int
 done:List Int
noncomputable def qK(a b:Int):Int:=if b<a then b else a
def lj.step(ch:Nat)(s:lj)(q:Nat×Int):lj:=
 let sub:=s.dist+iX ch q.1
 let r:=qK (qK s.res q.2+2) sub
 ⟨q.2,r,if r<s.mini then r else s.mini,s.done++[r]⟩
noncomputable def gW(ch:Nat)(a:List Nat)(row:List Int)(i:Nat):lj:=(a.zip row).foldl (lj.step ch) ⟨i*2,i*2,9223372036854775807,[]⟩
def wG(a b:List Nat):List Nat×List Nat:=(a.take (a.length-jv a.reverse b.reverse),b.take (b.length-jv a.reverse b.reverse))
section
variable(sub:Nat->Nat->Int)
def pM(ch:Nat)(s:lj)(q:Nat×Int):lj:=
 let sb:=s.dist+sub ch q.1
 let r:=qK (qK s.res q.2+2) sb
 ⟨q.2,r,if r<s.mini then r else s.mini,s.done++[r]⟩
def kC(ch:Nat)(a:List Nat)(row:List Int)(i:Nat):lj:=(a.zip row).foldl (pM sub ch) ⟨i*2,i*2,9223372036854775807,[]⟩
def ii(a:List Nat)(m:Int):List (Nat×Nat)->List Int->Int->Int
 |[],_,res=>res
 |(ch,i)::bs,row,_=>let r:=kC sub ch a row i;if m<r.mini then m+1 else ii a m bs r.done r.res
theorem tc{a:List Nat}{m:Int}{bs:List (Nat×Nat)}{row:List Int}{res:Int}:ii sub a m ((ch,i)::bs) row res=if m<(kC sub ch a row i).mini then m+1 else ii sub a m bs (kC sub ch a row i).done (kC sub ch a row i).res:=rfl
def gn(a b:List Nat)(m:Int):Int:=
 if a=[]\/b=[]then 2*(a.length+b.length:Nat)
 else if 40<a.length\/40<b.length then m+1
 else if b.length<a.length then(if m<((a.length:Int)-b.length)*2 then m+1 else ii sub b m a.zipIdx ((List.range b.length).map λ(i:Nat)=>2+(i:Int)*2) 0)
 else(if m<((b.length:Int)-a.length)*2 then m+1 else ii sub a m b.zipIdx ((List.range a.length).map λ(i:Nat)=>2+(i:Int)*2) 0)
def js(a b:List Nat)(m:Int):Int:=
 if a=b then 0 else
 let a1:=a.drop (jv a b)
 let b1:=b.drop (jv a b)
 gn sub (wG a1 b1).1 (wG a1 b1).2 m
end
def ta:=ii iX
def qA:=gn iX
def lev:=js iX
theorem qM{x y:Nat}{a b:List Nat}:jv (x::a) (y::b)=if x=y then jv a b+1 else 0:=rfl
theorem qO:∀(a b:List Nat),jv a b<=a.length/\jv a b<=b.length:=λa=>by
 induction a with
 |nil=>exact λU=>⟨Rh _,Rh _⟩
 |cons x a ih=>
  intro b;rcases b with _|⟨y,b⟩
  ·exact⟨Rh _,Rh _⟩
  have:=ih b
  rw[qM];split
  ·exact⟨T7 this.1,T7 this.2⟩
  ·exact⟨Rh _,Rh _⟩
theorem th:∀(a b:List Nat)(k:Nat),k<=jv a b->(k<jv a b↔(k<a.length/\k<b.length/\a.getD k 0=b.getD k 0)):=λa=>by
 induction a with
 |nil=>exact λb k h=>⟨λz=>absurd z (Nat.not_lt_zero _),λz=>absurd z.1 (Nat.not_lt_zero _)⟩
 |cons x a ih=>
  intro b k h;rcases b with _|⟨y,b⟩
  ·exact⟨λz=>absurd z (Nat.not_lt_zero _),λz=>absurd z.2.1 (Nat.not_lt_zero _)⟩
  rw[qM]at h ⊢;split at h
  ·rename_i e
   rw[Rb e];rcases k with _|k
   ·simp[e]
   ·have:=ih b k (by exact Nat.le_of_lt_succ h)
    simp at this ⊢;exact iff_comm.mp (id (Iff.symm this))
  ·rename_i e
   rw[Q5 e]
   have:k=0:=by exact Nat.eq_zero_of_le_zero h
   subst this;simp[e]
theorem AF(a b:List Nat)(k:Nat)(h:k<=jv a.reverse b.reverse):k<jv a.reverse b.reverse↔(k<a.length/\k<b.length/\a.getD (a.length-k-1) 0=b.getD (b.length-k-1) 0):=by
 have:=th a.reverse b.reverse k h
 rw[this];simp only[TN];constructor
 ·rintro⟨h1,h2,h3⟩
  refine⟨h1,h2,?_⟩;rw[Qv,Qv,TZ h1,TZ h2]at h3;rw[Qv,Qv];rw[Nat.sub_right_comm a.length,Nat.sub_right_comm b.length];exact h3
 ·rintro⟨h1,h2,h3⟩
  refine⟨h1,h2,?_⟩;rw[Qv,Qv,TZ h1,TZ h2];rw[Qv,Qv]at h3;rw[Nat.sub_right_comm a.length,Nat.sub_right_comm b.length]at h3;exact h3
theorem gE{e po:PySem.Expr}{x:List Nat}{kk:Nat}(ex:Ev T c O e (.str (aj x)))(ep:Ev T c O po (.int (-(k:Int))))(hk:k<=x.length)(hz:x.length<=sizeLine):
  Ev T c O (.Subscript e (.Slice none (some (.BoolOp .Or [po,.Constant .none kk pp] p1)) none p2) p3) (.str (aj (x.take (x.length-k)))):=by
 by_cases h0:k=0
 ·subst h0
  refine Ev.to (bK ex .no (.none (Ev.to (Do ep qZ (λU=>fB)) rfl)) (by rw[aM];exact hz)) ?_;rw[fb];simp[nZ,rP]
 ·refine Ev.to (bK ex .no (.int (i:=-(k:Int)) (Ev.to (Do ep qZ (λU=>fB)) ?_)) (by rw[aM];exact hz)) ?_
  ·have:(-(k:Int) != 0)=true:=bne_iff_ne.mpr λe=>h0 (Int.ofNat_inj.mp (Int.neg_eq_zero.mp e))
   rw[this];rfl
  ·rw[fb]
   rw[show rP x.length (some (-(k:Int)))=x.length-k from rS (Nat.pos_of_ne_zero h0) hk];simp[nZ]
theorem CY(x:List Nat):(((aj x).length:Int) != 0)=decide (0<x.length):=by
 rw[aM];by_cases h:0<x.length
 ·rw[Q7 h];simp;intro e;subst e;exact absurd h dk
 ·have:x.length=0:=by exact Nat.eq_zero_of_not_pos h
  rw[this];rfl
theorem Ge(x y:Nat):(aj [x]==aj [y])=decide (x=y):=by
 by_cases h:x=y
 ·subst h;simp
 ·rw[Q4 h,beq_eq_false_iff_ne]
  intro e;exact h (by simpa using gR.mp e)
theorem cO(k n:Nat)(h:k<n):seqIndex? (k:Int) n=some k:=Ii h
theorem EM:-(k:Int)-1<0:=by lia
theorem Ct(h:k<n):-(k:Int)-1+n=((n-k-1:Nat):Int):=by lia
theorem AE(k n:Nat)(h:k<n):seqIndex? (-(k:Int)-1) n=some (n-k-1):=by
 unfold seqIndex?;rw[Rb EM,Ct h];have h1:n-k-1<n:=by rw[Nat.sub_sub];exact Nat.sub_lt (Nat.zero_lt_of_lt h) (Tt k)
 dsimp only;rw[Q7 (Rv _),Q7 (Sy.mpr h1)];rfl
theorem uH{e i:PySem.Expr}{x:List Nat}{k:Int}(ex:Ev T c O e (.str (aj x)))(ei:Ev T c O i (.int k))(hj:seqIndex? k x.length=some j)(h1:-(2^63)<=k)(h2:k<2^63)(hs:∀o i',subscripted i false o i'=operate [o,i'] (getItem o i')):Ev T c O (.Subscript e i p) (.str (aj [x.getD j 0])):=by refine aI ex ei (lW (j:=j) (by rw[aM];exact hj) ?_ h1 h2) hs;refine jd (CM hj) λU U h3=>?_;show x.toArray[j]? = _;rw[Q6,Qv,QE h3];rfl
noncomputable abbrev O1:List Str:=["a","b","max_cost","pre","post","row","result","bindex","bchar","distance","minimum","index","substitute","insert_delete"]
abbrev cL:Cx:=⟨4,fh 72,O1,[]⟩
noncomputable abbrev PL(R:Int):dL:=λfl U=>fl=.ret (.int R)\/(fl=.next/\D.int R=.none)
noncomputable def Bo(ss:List Stmt)(k:Nat):List Stmt:=ss.drop k
def sL(a b:List Nat)(m:Int)(o3 o4:Slot):St:=[.val (.str (aj a)),.val (.str (aj b)),.val (.int m),o3,o4,.no,.no,.no,.no,.no,.no,.no,.no,.no]
def sR(a b:List Nat)(m:Int)(p q:Nat)(A:Addr)(ds:List D)(r:Int)(l:St):St:=.val (.str (aj a))::.val (.str (aj b))::.val (.int m)::.val (.int p)::.val (.int (-(q:Int)))::.mu A (.list ds)::.val (.int r)::l
theorem Dq(h:n<=60)(e:k=n):¬(k:Int)>=2^63:=by lia
theorem Oa(h:n<=60):(n:Int)<2^62:=by lia
theorem FO:-(2^62)<=(k:Int):=by exact Int.neg_ofNat_le_natCast (2^62) k
theorem s6:-(2^63)<=(k:Int):=by exact Int.neg_ofNat_le_natCast (2^63) k
theorem Jy(h:k<n)(g:n<=60):(k:Int)<2^63:=by lia
theorem G3(h:k<n)(g:n<=60):-(2^63)<=-(k:Int)-1:=by lia
theorem EL:-(k:Int)-1<2^63:=by lia
theorem Qr{x:List Nat}(h:x.length<=60):(aj x).length<=sizeLine:=by rw[aM];exact QC h dk
theorem EN:-((k:Int))-1=-((k+1:Nat):Int):=by lia
theorem Gp(h:k+n=N)(g:k<N):n-1<n/\k+1+(n-1)=N:=by
 rcases n with _|n
 ·exact absurd g (h▸Ts k)
 ·exact⟨Rf n,(Rw k 1 n).trans h⟩
theorem q6{x:List Nat}{b:Bool}(h:x.length<=60)(e:decide (0<x.length)=b):cC (.str (aj x)) b:=by rw[<-e,<-CY];exact CX (Dq h (aM x))
theorem vE{n x y:Nat}:bj n .Eq (.str (aj [x])) (.str (aj [y])) (decide (x=y)):=by rw[<-Ge];exact fu
theorem zO{x:List Nat}(h:x.length<=60):(x.drop k).length<=60:=by rw[Rg];exact QC (Nat.sub_le _ _) h
theorem uK{x:List Nat}(h:x.length<=60):(x.take k).length<=60:=by rw[Ru];exact QC (T8 _ _) h
theorem tO{x:List Nat}(h:x.length<=60):cC (.str (aj (x.drop k))) (decide (k<x.length)):=
 q6 (zO h) (decide_eq_decide.mpr (by rw[Rg];exact Nat.sub_pos_iff_lt))
theorem tP{x:List Nat}(h:x.length<=60):cC (.str (aj (x.take (x.length-k)))) (decide (k<x.length)):=
 q6 (uK h) (decide_eq_decide.mpr (by rw[Ru,Tb (Nat.sub_le _ _)];exact Nat.sub_pos_iff_lt))
theorem BA{x:List Nat}(h':k<=x.length):Txt.slice (aj x) (some (k:Int)) none=aj (x.drop k):=by
 rw[fb]
 have:nZ x.length (some (k:Int))=k:=(eI _ _).trans (Tb h')
 rw[this];rw[Te (by rw[Rg];exact QO _)]
section
variable{c:Cx}{O:St}{e i:PySem.Expr}{p p':Pos}{x:List Nat}{k:Nat}
theorem qu(ex:Ev T c O e (.str (aj x)))(ep:Ev T c O i (.int k))(hk:k<=x.length)(hz:x.length<=60):Ev T c O (.Subscript e (.Slice (some i) none none p) p') (.str (aj (x.drop k))):=
 Ev.to (bK ex (.int ep) .no (Qr hz)) (QV D.str (BA hk))
theorem kF(ex:Ev T c O e (.str (aj x)))(ei:Ev T c O i (.int k))(h:k<x.length)(hz:x.length<=60)(hs:∀o i',subscripted i false o i'=operate [o,i'] (getItem o i')):Ev T c O (.Subscript e i p) (.str (aj [x.getD k 0])):=
 uH ex ei (cO k _ h) s6 (Jy h hz) hs
theorem zG(ex:Ev T c O e (.str (aj x)))(ei:Ev T c O i (.int (-(k:Int)-1)))(h:k<x.length)(hz:x.length<=60)(hs:∀o i',subscripted i false o i'=operate [o,i'] (getItem o i')):Ev T c O (.Subscript e i p) (.str (aj [x.getD (x.length-k-1) 0])):=
 uH ex ei (AE k _ h) (G3 h hz) EL hs
theorem eS{y:Str}(hL:Bl T "len" (.builtin "len"))(ex:Ev T cL O (.Name y p'') (.str (aj x)))(hz:x.length<=60):Ev T cL O (.Call (.Name "len" p) [.Name y p''] [] p') (.int x.length):=
 Ev.to (bh hL rfl (mn (Dq hz (aM x))) (ah ex ad)) (QV (λn:Nat=>D.int n) (aM x))
end
theorem Br{p q r:Prop}[Decidable p][Decidable q][Decidable r]:(decide p&&(decide q&&(decide r&&true)))=decide (p/\q/\r):=by by_cases hp:p<;>by_cases hq:q<;>by_cases hr:r<;>simp[hp,hq,hr]
theorem IJ{p q:Prop}[Decidable p][Decidable q]:(decide p||(decide q||false))=decide (p\/q):=by by_cases hp:p<;>by_cases hq:q<;>simp[hp,hq]
theorem wv{P:Prop}[Decidable P]{b:Bool}(e:b=decide P)(q:b=false)(hk:k+n=N)(h:k<N↔P):k=N:=by exact Uc (hk▸TR k n) (Sg.mp λg=>by rw[e,Q7 (h.mp g)]at q;exact fT q)
theorem Ds{P:Prop}[Decidable P]{b:Bool}(e:b=decide P)(q:b=true)(h:k<N↔P):k<N:=h.mpr (QS (e▸q))
inductive IP(N:Nat)(s:Nat->St)(n:Nat)(O:St):Prop
 |mk (k:Nat) (hk:k+n=N) (e:O=s k):IP N s n O
theorem Ca(a b:List Nat)(m:Int)(ha:a.length<=60)(hb:b.length<=60):
  W1 T cL (sL a b m (.val (.int 0)) .no) (jc (bF 72) 2) (λfl Wj=>fl=.next/\Wj=sL a b m (.val (.int (jv a b))) .no):=by
 refine gA (IP (jv a b) λk=>sL a b m (.val (.int k)) .no) (jv a b) ⟨0,RP _,rfl⟩ ?_;rintro n O ⟨k,hk,rfl⟩;have J0:=qO a b;have Mq:k<=jv a b:=hk▸TR k n;have h1:=QC Mq J0.1;have h2:=QC Mq J0.2;have PV:=th a b k Mq;refine⟨_,dZ (bc (cP (qu (aa 0) (aa 3) h1 ha) (tO ha)) (λq1=>bc (cP (qu (aa 1) (aa 3) h2 hb) (tO hb)) (λq2=>bc (aE (kF (aa 0) (aa 3) (QS q1) ha (Z 5)) (kF (aa 1) (aa 3) (QS q2) hb (Z 5)) vE) (λU=>eM)))),λq=>?_,λq=>?_⟩
 ·exact xA (Gp hk (Ds Br q PV)) λg1 g2=>ac (vp 3 ag rfl rfl (Z 1) rfl (aL ⟨n-1,g1,k+1,g2,rfl⟩))
 ·rw[wv Br q hk PV]
  exact⟨rfl,rfl⟩
theorem zS(a b:List Nat)(m:Int)(o:Slot)(ha:a.length<=60)(hb:b.length<=60):
  W1 T cL (sL a b m o (.val (.int 0))) (jc (bF 72) 6) (λfl Wj=>fl=.next/\Wj=sL a b m o (.val (.int (-((jv a.reverse b.reverse:Nat):Int))))):=by
 refine gA (IP (jv a.reverse b.reverse) λk=>sL a b m o (.val (.int (-(k:Int))))) (jv a.reverse b.reverse) ⟨0,RP _,rfl⟩ ?_;rintro n O ⟨k,hk,rfl⟩;have J0:=qO a.reverse b.reverse;rw[TN,TN]at J0;have Mq:k<=jv a.reverse b.reverse:=hk▸TR k n;have h1:=QC Mq J0.1;have h2:=QC Mq J0.2;have PV:=AF a b k Mq;have hz:∀{x:List Nat},x.length<=60->x.length<=sizeLine:=λh=>QC h dk;generalize jv a.reverse b.reverse=N at hk PV ⊢;refine⟨_,dZ (bc (cP (gE (aa 0) (aa 4) h1 (hz ha)) (tP ha)) (λq1=>bc (cP (gE (aa 1) (aa 4) h2 (hz hb)) (tP hb)) (λq2=>bc (aE (zG (aa 0) (bu (aa 4) ag) (QS q1) ha (Z 5)) (zG (aa 1) (bu (aa 4) ag) (QS q2) hb (Z 5)) vE) (λU=>eM)))),λq=>?_,λq=>?_⟩
 ·refine xA (Gp hk (Ds Br q PV)) λg1 g2=>?_
  exact ac (vq 4 ag rfl rfl (Z 1) rfl (aL ⟨n-1,g1,k+1,g2,by rw[<-EN];rfl⟩))
 ·rw[wv Br q hk PV]
  exact⟨rfl,rfl⟩
inductive NY(u v:List Nat)(m:Int)(p q:Nat)(A:Addr)(R:Int)(i:Nat)(O:St):Prop
 |mk (row:List Int) (res:Int) (o7 o8 o9 we kK gX gY:Slot) (YX:O=sR u v m p q A (row.map .int) res [o7,o8,o9,we,kK,gX,gY]) (h1_:o7.ZW=false) (YY:o8.ZW=false) (YZ:o9.ZW=false) (Y0:we.ZW=false) (Y1:kK.ZW=false) (Y3:gX.ZW=false) (h7_:gY.ZW=false) (h8_:row.length=u.length) (h9_:ta u m (v.zipIdx.drop i) row res=R):NY u v m p q A R i O
def FT(u v:List Nat)(m:Int)(p q:Nat)(A:Addr)(ch i:Nat)(KT:lj)(rest:List Int)(kK gX gY:Slot):St:=sR u v m p q A ((KT.done++rest).map .int) KT.res [.val (.int i),.val (.str (aj [ch])),.val (.int KT.dist),.val (.int KT.mini),kK,gX,gY]
inductive IG(u v:List Nat)(m:Int)(p q:Nat)(A:Addr)(ch i:Nat)(KT:lj)(rest:List Int)(O:St):Prop
 |mk (kK gX gY:Slot) (e:O=FT u v m p q A ch i KT rest kK gX gY) (h1:kK.ZW=false) (h2:gX.ZW=false) (h3:gY.ZW=false):IG u v m p q A ch i KT rest O
noncomputable def zA(i:Nat):lj:=⟨i*2,i*2,9223372036854775807,[]⟩
theorem r6(ch:Nat):∀(l:List (Nat×Int))(s:lj),(l.foldl (lj.step ch) s).done.length=s.done.length+l.length:=λl=>by
 induction l with
 |nil=>exact λs=>rfl
 |cons x l ih=>intro s;rw[List.foldl_cons,ih,QK];unfold lj.step;rw[Qu,Nat.add_assoc,Sh l.length];rfl
theorem wm(h:(rng 0 (n:Int))[i]? = some d):i<n/\d=.int (i:Int):=by unfold rng at h;rw[QX]at h;refine ay (RF.mp h) λk hk e=>?_;obtain⟨g,e'⟩:=Q0.mp hk;rw[SN]at e';rw[RI]at g;exact⟨by simpa using g,by rw[<-e,<-e',Int.zero_add]⟩
theorem qP:(rng 0 (n:Int)).length=n:=by unfold rng;simp
theorem CN(l:List Int)(row:List Int)(j:Nat)(r:Int)(hl:l.length=j)(hj:j<row.length):((l++row.drop j).map D.int).set j (.int r)=((l++[r])++row.drop (j+1)).map D.int:=by rw[Ty hj,QU,QW,List.set_append_right _ _ (by rw[Qs,hl];exact QO _),Qs,hl,Nat.sub_self,List.set_cons_zero,QQ,QU];rfl
theorem BV(l:List Int)(row:List Int)(j:Nat)(hl:l.length=j)(hj:j<row.length):((l++row.drop j).map D.int)[j]? = some (.int (row.getD j 0))/\j<((l++row.drop j).map D.int).length:=by
 subst hl;refine⟨?_,?_⟩
 ·rw[QX,List.getElem?_append_right (QO _),Nat.sub_self,List.getElem?_drop,Nat.add_zero,Qv,QE hj];rfl
 ·rw[Qs,Qu,Rg];exact Nat.lt_add_of_pos_right (T4 hj)
theorem x7(ch:Nat)(u:List Nat)(row:List Int)(s:lj)(j:Nat)(hj:j<u.length)(Ms:j<row.length):((u.zip row).take (j+1)).foldl (lj.step ch) s=lj.step ch (((u.zip row).take j).foldl (lj.step ch) s) (u.getD j 0,row.getD j 0):=by rw[Sj,List.foldl_append,QE (by rw[TE];exact Nat.lt_min.mpr ⟨hj,Ms⟩),List.getElem_zip,Qv,Qv,QE hj,QE Ms];rfl
abbrev Ωb(T:a6):Prop:=∀x y:Nat,x<128->y<128->Fn T 3 "_substitution_cost" [.str (aj [x]),.str (aj [y])] (.int (iX x y))
theorem zR(hM:Bl T "min" (.builtin "min"))(h2:bA T "_MOVE_COST" (.int 2))(hS:Ωb T)(u v:List Nat)(m:Int)(p q:Nat)(A:Addr)(ch i j:Nat)(KT:lj)(row:List Int)(gX gY:Slot)(hu:u.length<=60)(cu:u.getD j 0<128)(Mc:ch<128)(hj:j<u.length)(Ms:j<row.length)(MB:KT.done.length=j)(KF:gX.ZW=false)(KG:gY.ZW=false){Q:dL}(hQ:∀gX gY,gX.ZW=false->gY.ZW=false->Q .next (FT u v m p q A ch i (lj.step ch KT (u.getD j 0,row.getD j 0)) (row.drop (j+1)) (.val (.int j)) gX gY)):
  W T cL (FT u v m p q A ch i KT (row.drop j) (.val (.int j)) gX gY) (c8 (c8 (bF 72) 15) 3) Q:=by
 refine xA (BV KT.done row j MB Ms) λg1 g2=>?_;have M7:=λr=>CN KT.done row j r MB Ms;have hk:=Jy hj hu;unfold FT at hQ ⊢;generalize WH:(KT.done++row.drop j).map D.int=ds at g1 g2 M7 ⊢;refine ac (ak 12 (bH (aa 9) (bk (hS ch _ Mc cu) (ah (aa 8) (ah (kF (aa 0) (aa 11) hj hu (Z 5)) ad)))) rfl KF ?_);generalize u.getD j 0=cj at hQ ⊢;refine ac (ak 9 (cg 5 (bV 5 rfl rfl) rfl rfl (aa 11) (cO j _ g2) g1 s6 hk (Z 5)) rfl rfl ?_);generalize row.getD j 0=rj at hQ ⊢;refine ac (ak 13 (d:=.int (qK KT.res rj+2)) (bH (bh hM rfl vA (ah (aa 6) (ah (aa 9) ad))) (bX h2)) rfl KG ?_);refine ac (ak 6 (d:=.int (qK (qK KT.res rj+2) (KT.dist+iX ch cj))) (bh hM rfl vA (ah (aa 13) (ah (aa 12) ad))) rfl rfl ?_);unfold lj.step at hQ;dsimp only at hQ;generalize qK (qK KT.res rj+2) (KT.dist+iX ch cj)=r at hQ ⊢;rw[<-M7 r]at hQ;refine ac (jx 5 (d:=.int r) (aa 6) (bV 5 rfl rfl) rfl rfl (aa 11) (cO j _ g2) s6 hk (Z 2) ?_);refine ac (bM (aE (aa 6) (aa 10) kq) (λk=>?_) (λk=>aL (aL ?_)))
 ·rw[Rb (QS k)]at hQ
  exact ac (ak 10 (aa 6) rfl rfl (aL (aL (hQ _ _ rfl rfl))))
 ·rw[Q5 (RT k)]at hQ
  exact hQ _ _ rfl rfl
theorem Cb(hL:Bl T "len" (.builtin "len"))(hR:Ω8 T)(hM:Bl T "min" (.builtin "min"))(h2:bA T "_MOVE_COST" (.int 2))(hS:Ωb T)(u v:List Nat)(m:Int)(p q:Nat)(A:Addr)(ch i:Nat)(row:List Int)(kK gX gY:Slot)(hu:u.length<=60)(cu:∀x∈u,x<128)(Mc:ch<128)(L4:row.length=u.length)(Kt:kK.ZW=false)(KF:gX.ZW=false)(KG:gY.ZW=false):
  W1 T cL (FT u v m p q A ch i (zA i) row kK gX gY) (jc (c8 (bF 72) 15) 3) (λfl Wj=>fl=.next/\IG u v m p q A ch i (gW ch u row i) [] Wj):=by
 refine eA (dO hR (eS hL (aa 0) hu) rfl FO (Oa hu))
  (gp (λj O=>IG u v m p q A ch i (((u.zip row).take j).foldl (lj.step ch) (zA i)) (row.drop j) O) ?_ ?_ ⟨kK,gX,gY,rfl,Kt,KF,KG⟩) (Z 5)
 ·intro O h
  rw[qP,Te (by rw[TE];exact TD _ _),List.drop_of_length_le (by rw[L4];exact QO _)]at h;exact⟨rfl,h⟩
 ·rintro j d O hd ⟨kK,gX,gY,rfl,Kt,KF,KG⟩
  refine xA (wm hd) λhj U=>?_;subst U;have Ms:=L4.symm▸hj;rw[x7 ch u row (zA i) j hj Ms];have MB:(((u.zip row).take j).foldl (lj.step ch) (zA i)).done.length=j:=by rw[r6,Ru,TE,Tb (Nat.le_min.mpr ⟨RE hj,RE Ms⟩)];exact RP _
  generalize ((u.zip row).take j).foldl (lj.step ch) (zA i)=KT at MB ⊢;have hcu:u.getD j 0<128:=by rw[Qv,QE hj];exact cu _ (RH hj)
  exact⟨_,ae 11 rfl rfl Kt,zR hM h2 hS u v m p q A ch i j KT row gX gY hu hcu Mc hj Ms MB KF KG λgX gY KF KG=>⟨_,gX,gY,rfl,rfl,KF,KG⟩⟩
theorem zT(hL:Bl T "len" (.builtin "len"))(hM:Bl T "min" (.builtin "min"))(hR:Ω8 T)(Wo:Bl T "list" (.type "list"))(h2:bA T "_MOVE_COST" (.int 2))(hS:Ωb T)(u v:List Nat)(m R:Int)(p q:Nat)(hu:u.length<=60)(hv:v.length<=60)(cu:∀x∈u,x<128)(cv:∀x∈v,x<128)(Kg:(if m<((v.length:Int)-u.length)*2 then m+1 else ta u m v.zipIdx ((List.range u.length).map λ(i:Nat)=>2+(i:Int)*2) 0)=R):
  W T cL (sL u v m (.val (.int p)) (.val (.int (-(q:Int))))) (Bo (bF 72) 12) (PL R):=by
 refine ac (bM (aE (eu (bu (eS hL (aa 1) hv) (eS hL (aa 0) hu)) (bX h2) (IntMulOk.of_right dk)) (aa 2) jk) (λk=>?_) (λk=>aL ?_))
 ·rw[Rb (QS k)]at Kg
  exact ac (bf (bH (aa 2) ag) (.inl (by rw[Kg])))
 rw[Q5 (RT k)]at Kg;refine ac (q8 5 (ln (n:=u.length) Wo hR (ah (bX h2) (ah (eu (bX h2) (bH (eS hL (aa 0) hu) ag) (Sa dk)) (ah (bX h2) ad))) dk (x4 _ (QC hu dk)) (Oq _) (QC hu dk) (RG dk) (Z 1) (Z 1) (Z 2) (Z 2) (Z 2) (Z 2) (Z 2) (Z 2)) rfl rfl rfl (Z 1) (Z 2) λA=>?_);refine ac (ak 6 ag rfl rfl ?_);refine ac (eA (dO hR (eS hL (aa 1) hv) rfl FO (Oa hv))
  (gp (λi O=>NY u v m p q A R i O) ?_ ?_
   ⟨(List.range u.length).map λ(i:Nat)=>2+(i:Int)*2,0,.no,.no,.no,.no,.no,.no,.no,by rw[QZ];rfl,rfl,rfl,rfl,rfl,rfl,rfl,rfl,by rw[Qs,RI],Kg⟩) (Z 5))
 ·rintro O ⟨row,res,o7,o8,o9,we,kK,gX,gY,rfl,h7,h8,h9,KL,Kt,KF,KG,L4,ho⟩
  rw[qP,List.drop_of_length_le (by rw[Tu];exact QO _)]at ho;exact ac (bf (aa 6) (.inl (by rw[<-ho];rfl)))
 rintro i d O hd ⟨row,res,o7,o8,o9,we,kK,gX,gY,rfl,h7,h8,h9,KL,Kt,KF,KG,L4,ho⟩;refine xA (wm hd) λhi U=>?_;subst U;refine⟨_,ae 7 rfl rfl h7,?_⟩;refine ac (ak 8 (kF (aa 1) (aa 7) hi hv (Z 5)) rfl h8 ?_);have hvi:v.zipIdx.drop i=(v.getD i 0,i)::v.zipIdx.drop (i+1):=by rw[Ty (by rw[Tu];exact hi)];simp[Qv,QE hi]
 have Mc:v.getD i 0<128:=by rw[Qv,QE hi];exact cv _ (RH hi)
 rw[hvi]at ho;replace ho:(if m<(gW (v.getD i 0) u row i).mini then m+1 else ta u m (v.zipIdx.drop (i+1)) (gW (v.getD i 0) u row i).done (gW (v.getD i 0) u row i).res)=_:=ho;generalize v.getD i 0=ch at ho Mc ⊢;refine ac (vo 9 6 (eu (aa 7) (bX h2) (IntMulOk.of_right dk)) rfl rfl h9 (Z 1) rfl rfl rfl (Z 1) (Z 2) (Z 5) ?_);refine ac (ak 10 ag rfl KL ?_);refine pZ (IG u v m p q A ch i (gW ch u row i) []) (Cb hL hR hM h2 hS u v m p q A ch i row kK gX gY hu cu Mc L4 Kt KF KG) ?_;rintro O ⟨kK,gX,gY,rfl,Kt,KF,KG⟩;have MB:(gW ch u row i).done.length=u.length:=by unfold gW;rw[r6,TE,L4,Nat.min_self];exact RP _
 generalize gW ch u row i=KT at ho MB ⊢;unfold FT;rw[QN];refine ac (bM (aE (aa 10) (aa 2) jk) (λk=>?_) (λk=>aL (aL ?_)))
 ·rw[Rb (QS k)]at ho
  exact ac (bf (bH (aa 2) ag) (.inl (by rw[ho])))
 ·rw[Q5 (RT k)]at ho
  exact⟨KT.done,KT.res,_,_,_,_,kK,gX,gY,rfl,rfl,rfl,rfl,rfl,Kt,KF,KG,MB,ho⟩
inductive NX(m:Int)(p q:Nat)(R:Int)(Wj:St):Prop
 |mk (u v:List Nat) (YX:Wj=sL u v m (.val (.int p)) (.val (.int (-(q:Int))))) (YY:u.length<=60) (YZ:v.length<=60) (Y0:∀z∈u,z<128) (Y1:∀z∈v,z<128) (Y3:(if m<((v.length:Int)-u.length)*2 then m+1 else ta u m v.zipIdx ((List.range u.length).map λ(i:Nat)=>2+(i:Int)*2) 0)=R):NX m p q R Wj
theorem wH{x:List Nat}(h:x.length<=60):cC (.str (aj x)) (!decide (x=[])):=
 q6 h (by cases x<;>rfl)
theorem B9(hL:Bl T "len" (.builtin "len"))(hM:Bl T "min" (.builtin "min"))(hR:Ω8 T)(Wo:Bl T "list" (.type "list"))(h2:bA T "_MOVE_COST" (.int 2))(Xk:bA T "_MAX_STRING_SIZE" (.int 40))(hS:Ωb T)(x y:List Nat)(m:Int)(p q:Nat)(hx:x.length<=60)(hy:y.length<=60)(cx:∀z∈x,z<128)(cy:∀z∈y,z<128):
  W T cL (sL x y m (.val (.int p)) (.val (.int (-(q:Int))))) (Bo (bF 72) 9) (PL (qA x y m)):=by
 generalize Kg:qA x y m=R;unfold qA gn at Kg;refine ac (bM (dZ (cn (vj (cP (aa 0) (wH hx))) (λU=>cn (vj (cP (aa 1) (wH hy))) (λU=>j4)))) (λh=>?_) (λh=>aL ?_))
 ·rw[Bool.not_not,Bool.not_not,IJ]at h
  rw[Rb (QS h)]at Kg;exact ac (bf (eu (bX h2) (bH (eS hL (aa 0) hx) (eS hL (aa 1) hy)) (Sa dk)) (.inl (by rw[<-Kg];rfl)))
 rw[Bool.not_not,Bool.not_not,IJ]at h;rw[Q5 (RT h)]at Kg;refine ac (bM (dZ (cn (aE (eS hL (aa 0) hx) (bX Xk) jk) (λU=>cn (aE (eS hL (aa 1) hy) (bX Xk) jk) (λU=>j4)))) (λg=>?_) (λg=>aL ?_))
 ·rw[IJ]at g
  rw[Rb ((QS g).imp Sy.mp Sy.mp)]at Kg;exact ac (bf (bH (aa 2) ag) (.inl (by rw[Kg])))
 rw[IJ]at g;rw[Q5 (λz=>RT g (z.imp Sy.mpr Sy.mpr))]at Kg;refine pZ (NX m p q R)
  (bM (aE (eS hL (aa 1) hy) (eS hL (aa 0) hx) kq) (λk=>?_) (λk=>?_)) ?_
 ·rw[Rb (Sy.mp (QS k))]at Kg
  exact ac (kc (ns:=["a","b"]) (aV (ah (aa 1) (ah (aa 0) ad)) q7) rfl (jB 1 rfl rfl rfl (Z 1) (jB 0 rfl rfl rfl (Z 1) vB)) (Z 2) (λU ok=>(bo ok).trans (Z 1)) (aL ⟨rfl,y,x,rfl,hy,hx,cy,cx,Kg⟩))
 ·rw[Q5 λz=>RT k (Sy.mpr z)]at Kg
  exact aL ⟨rfl,x,y,rfl,hx,hy,cx,cy,Kg⟩
 rintro O ⟨u,v,rfl,hu,hv,cu,cv,Kg⟩;exact zT hL hM hR Wo h2 hS u v m R p q hu hv cu cv Kg
theorem sW(hf:cf T "_levenshtein_distance" ["a","b","max_cost"] (fh 72) (bF 72))(hL:Bl T "len" (.builtin "len"))(hM:Bl T "min" (.builtin "min"))(hR:Ω8 T)(Wo:Bl T "list" (.type "list"))(h2:bA T "_MOVE_COST" (.int 2))(Xk:bA T "_MAX_STRING_SIZE" (.int 40))(hS:Ωb T)(a b:List Nat)(m:Int)(ha:a.length<=60)(hb:b.length<=60)(ca:∀x∈a,x<128)(cb:∀x∈b,x<128):Fn T 5 "_levenshtein_distance" [.str (aj a),.str (aj b),.int m] (.int (lev a b m)):=by
 refine eU (rest:=["pre","post","row","result","bindex","bchar","distance","minimum","index","substitute","insert_delete"]) (wr:=[]) hf rfl ?_;refine ac (bM (aE (aa 0) (aa 1) fu) (λe=>?_) (λe=>aL ?_))
 ·have e:a=b:=gR.mp (beq_iff_eq.mp e)
  exact ac (bf ag (.inl (by unfold lev js;rw[Rb e])))
 have e:a≠b:=λz=>by rw[z,beq_self_eq_true]at e;exact fT e
 unfold lev js;rw[Q5 e];have J0:=qO a b;refine ac (ak 3 ag rfl rfl ?_);refine pZ (λWj=>Wj=sL a b m (.val (.int (jv a b))) .no) (Ca a b m ha hb) ?_;rintro O rfl;dsimp only;generalize jv a b=p at J0 ⊢;refine ac (ak 0 (qu (aa 0) (aa 3) J0.1 ha) rfl rfl ?_);refine ac (ak 1 (qu (aa 1) (aa 3) J0.2 hb) rfl rfl ?_);refine ac (ak 4 ag rfl rfl ?_);have ca:=λx hx=>ca x (Su (i:=p) hx);have cb:=λx hx=>cb x (Su (i:=p) hx);have ha:=zO (k:=p) ha;have hb:=zO (k:=p) hb;generalize a.drop p=a1 at ca ha ⊢;generalize b.drop p=b1 at cb hb ⊢;refine pZ (λWj=>Wj=sL a1 b1 m (.val (.int p)) (.val (.int (-((jv a1.reverse b1.reverse:Nat):Int))))) (zS a1 b1 m _ ha hb) ?_;rintro O rfl;have J0:=qO a1.reverse b1.reverse;rw[TN,TN]at J0;unfold wG;generalize jv a1.reverse b1.reverse=q at J0 ⊢;refine ac (ak 0 (gE (aa 0) (aa 4) J0.1 (QC ha dk)) rfl rfl ?_);exact ac (ak 1 (gE (aa 1) (aa 4) J0.2 (QC hb dk)) rfl rfl (B9 hL hM hR Wo h2 Xk hS _ _ m p q (uK ha) (uK hb) (λx hx=>ca x (RQ hx)) (λx hx=>cb x (RQ hx))))
noncomputable def GX(x:Nat):Nat:=if 65<=x/\x<=90 then x+32 else x
def lE(x y:Nat):Int:=if x=y then 0 else if GX x=GX y then 1 else 2
theorem Du(a b:List Nat)(m:Int):lev a b m=js iX a b m:=rfl
section
variable{sub sub':Nat->Nat->Int}{α α' β β':Nat->Nat}
theorem xj{row:List Int}:∀{B:List Nat}{s:lj}(row:List Int),(∀j∈B,sub i (β j)=sub' i' (β' j))->((B.map β).zip row).foldl (pM sub i) s=((B.map β').zip row).foldl (pM sub' i') s:=by
 intro B;induction B with
 |nil=>intro s row h;rfl
 |cons j B ih=>
  intro s row h;rcases row with _|⟨r,row⟩
  ·rfl
  ·rw[QW,QW,TT,TT,List.foldl_cons,List.foldl_cons]
   have e:pM sub i s (β j,r)=pM sub' i' s (β' j,r):=by unfold pM;rw[h j QH]
   rw[e];exact ih row λk hk=>h k (QA _ hk)
theorem pF{m:Int}:∀(L:List (Nat×Nat))(row:List Int)(res:Int),(∀q∈L,∀j∈B,sub (α q.1) (β j)=sub' (α' q.1) (β' j))->ii sub (B.map β) m (L.map λq=>(α q.1,q.2)) row res=ii sub' (B.map β') m (L.map λq=>(α' q.1,q.2)) row res:=by
 intro X_;induction X_ with
 |nil=>intro _ _ _;exact rfl
 |cons q L IH=>
  intro row res h;have e:kC sub (α q.1) (B.map β) row q.2=kC sub' (α' q.1) (B.map β') row q.2:=xj (row:=row) row (h q QH);rw[QW,QW,tc,tc,e];split
  ·rfl
  ·exact IH _ _ λq' hq=>h q' (QA _ hq)
theorem wi:∀{A B:List Nat},(∀i∈A,∀j∈B,(α i=β j↔α' i=β' j))->jv (A.map α) (B.map β)=jv (A.map α') (B.map β'):=by
 intro A;induction A with
 |nil=>exact λU=>rfl
 |cons i A ih=>
  intro B h;rcases B with _|⟨j,B⟩
  ·rfl
  rw[QW,QW,QW,QW,qM,qM];have e:=h i QH j QH;have r:=ih (B:=B) λx hx y hy=>h x (QA _ hx) y (QA _ hy);by_cases c:α i=β j
  ·rw[Rb c,Rb (e.mp c),r]
  ·rw[Q5 c,Q5 (λz=>c (e.mpr z))]
theorem uy:∀{A B:List Nat},(∀i∈A,∀j∈B,(α i=β j↔α' i=β' j))->(A.map α=B.map β↔A.map α'=B.map β')
 |[],[],_=>by simp
 |[],_::_,_=>by simp
 |_::_,[],_=>by simp
 |i::A,j::B,h=>by simp only[QW,TY];rw[h i QH j QH,uy (A:=A) (B:=B) λx hx y hy=>h x (QA _ hx) y (QA _ hy)]
theorem Di(A:List Nat):(A.map α).zipIdx=A.zipIdx.map λq=>(α q.1,q.2):=by rw[List.zipIdx_map];rfl
theorem yH{A B:List Nat}(h1:∀i∈A,∀j∈B,sub (β j) (α i)=sub' (β' j) (α' i))(h2:∀i∈A,∀j∈B,sub (α i) (β j)=sub' (α' i) (β' j))(m:Int):gn sub (A.map α) (B.map β) m=gn sub' (A.map α') (B.map β') m:=by unfold gn;simp only[List.map_eq_nil_iff,Qs,Di];rw[pF (α:=α) (α':=α') A.zipIdx _ _ λq hq j hj=>h2 q.1 (mem1 hq) j hj,pF (α:=β) (α':=β') (β:=α) (β':=α') B.zipIdx _ _ λq hq j hj=>h1 j hj q.1 (mem1 hq)]
where
 mem1 {A:List Nat} {q:Nat×Nat} (h:q∈A.zipIdx):q.1∈A:=by
  have:=List.mem_zipIdx h
  simp at this;rw[this.2];exact RH _
theorem v4{A B:List Nat}(he:∀i∈A,∀j∈B,(α i=β j↔α' i=β' j))(h1:∀i∈A,∀j∈B,sub (β j) (α i)=sub' (β' j) (α' i))(h2:∀i∈A,∀j∈B,sub (α i) (β j)=sub' (α' i) (β' j))(m:Int):js sub (A.map α) (B.map β) m=js sub' (A.map α') (B.map β') m:=by
 unfold js;rw[wi he];by_cases c:A.map α=B.map β
 ·rw[Rb c,Rb ((uy he).mp c)]
 ·rw[Q5 c,Q5 λz=>c ((uy he).mpr z)]
  generalize jv (A.map α') (B.map β')=k;simp only[<-List.map_drop];have hA:∀i∈A.drop k,i∈A:=λi hi=>Su hi;have hB:∀i∈B.drop k,i∈B:=λi hi=>Su hi;have hp:jv ((A.drop k).map α).reverse ((B.drop k).map β).reverse=jv ((A.drop k).map α').reverse ((B.drop k).map β').reverse:=by simp only[<-List.map_reverse];exact wi λi hi j hj=>he i (hA i (Tl.mp hi)) j (hB j (Tl.mp hj))
  unfold wG;rw[hp];simp only[Qs,<-List.map_take];exact yH (λi hi j hj=>h1 i (hA i (RQ hi)) j (hB j (RQ hj))) (λi hi j hj=>h2 i (hA i (RQ hi)) j (hB j (RQ hj))) m
end
inductive NT|leaf (k m:Nat)|node (a b:NT) (m:Nat)
noncomputable def Dn:List (List Nat):=[[102,102],[102,105],[102,108],[115,115],[115,116]]
def dp(k:Nat):List Nat:=Dn.getD k []
noncomputable def eJ(m:Nat):List Nat:=([[],[58],[58,61]]:List (List Nat)).getD m []
noncomputable def v9(m:Nat):List Int:=([[],[11],[53]]:List (List Int)).getD m []
noncomputable def kR(l:List Nat):List Int:=l.map λc=>((256+c:Nat):Int)
def NT.txt:NT->List Nat
 |.leaf k m=>dp k++eJ m
 |.node a b m=>40::(a.txt++44::(b.txt++41::eJ m))
def NT.Z6:NT->List Int
 |.leaf k m=>kR (dp k)++v9 m
 |.node a b m=>7::(a.Z6++12::(b.Z6++8::v9 m))
noncomputable def NT.part:NT->List Nat|.leaf k _=>[k]|.node a b _=>a.part++b.part
noncomputable def k7(p:List Nat)(m:Nat):List (List Nat×Nat):=if m=0 then[]else[(p,m)]
def NT.ZY:NT->List (List Nat×Nat)
 |.leaf k m=>k7 [k] m
 |.node a b m=>a.ZY++(b.ZY++(a.part++b.part,0)::k7 (a.part++b.part) m)
noncomputable def NT.ok:NT->Prop|.leaf k m=>k<5/\m<3|.node a b m=>a.ok/\b.ok/\m<3
structure be where
 x:NT
 y:NT
 z:NT
noncomputable def be.txt(t:be):List Nat:=40::(t.x.txt++44::(t.y.txt++44::(t.z.txt++[41,59])))
noncomputable def be.Z6(t:be):List Int:=7::(t.x.Z6++12::(t.y.Z6++12::(t.z.Z6++[8,13])))
noncomputable def be.part(t:be):List Nat:=t.x.part++(t.y.part++t.z.part)
noncomputable def be.ZY(t:be):List (List Nat×Nat):=t.x.ZY++(t.y.ZY++(t.z.ZY++[(t.part,0)]))
def be.ok(t:be):Prop:=t.x.ok/\t.y.ok/\t.z.ok
theorem iP:∀n,j1 n []=[]:=by
 intro X_;induction X_ with
 |zero=>exact rfl
 |succ n IH=>exact rfl
theorem By(h:t≠[]):1<=(cut 2 (t.take 3)).length:=by
 have h1:1<=t.length:=List.length_pos_iff.mpr h;refine(rW 2 (t.take 3) ?_ ?_).1
 ·rw[Ru];exact TD _ _
 ·rw[Ru];exact Nat.le_min.mpr ⟨by decide,h1⟩
theorem nQ:∀(m n:Nat)(t:List Nat),t.length<=n->t.length<=m->j1 n t=j1 m t:=by
 intro m;induction m with
 |zero=>intro n t _ h;rw[Ri.mp (Nat.le_zero.mp h),iP,iP]
 |succ m ih=>
  intro n t h1 h2;by_cases c:t=[]
  ·rw[c,iP,iP]
  ·rcases n with _|n
   ·exact absurd (Ri.mp (Nat.le_zero.mp h1)) c
   ·have hp:=By c
    rw[gU,gU,Q5 c,Q5 c,ih n _ ?_ ?_]
    ·rw[Rg];exact SS (QC h1 (TM hp n))
    ·rw[Rg];exact SS (QC h2 (TM hp m))
theorem kN{p rest:List Nat}(hp:p≠[])(hc:cut 2 ((p++rest).take 3)=p):fm (p++rest)=gv p::fm rest:=by have JO:p++rest≠[]:=List.append_ne_nil_of_left_ne_nil hp _;show j1 (p++rest).length (p++rest)=_;have h1:1<=p.length:=List.length_pos_iff.mpr hp;rw[nQ ((p++rest).length+1) _ _ (QO _) (SF _),gU,Q5 JO,hc,List.drop_left];rw[nQ rest.length _ rest (by rw[Qu];exact TW _ _) (QO _)];rfl
theorem wF{p:List Nat}(h:cM ua (aj p)=none):gw p=none:=by unfold gw oF;rw[h]
def z5(c:Nat):Bool:=ua.all λe=>match e.1.cps.toList with|a::_::_=>a != c|_=>true
theorem nR{a b:Nat}{r:List Nat}(h:z5 a=true):gw (a::b::r)=none:=by
 refine wF ?_;unfold cM;cases q:ua.find? (λe=>e.1=aj (a::b::r))with
 |none=>rfl
 |some e=>have h1:=SI q;have h2:e.1=aj (a::b::r):=QS (List.find?_some (p:=λe:Str×D=>decide (e.1=aj (a::b::r))) q);have z:=QL.mp h e h1;rw[h2]at z;exact absurd rfl (bne_iff_ne.mp (show(a != a)=true from z))
theorem gD{p:List Nat}(h:gw p=none)(hl:1<p.length):cut (n+1) p=cut n p.dropLast:=
 Rb ⟨hl,by rw[h];rfl⟩
theorem hH(n a:Nat):cut n [a]=[a]:=by
 rcases n with _|n
 ·rfl
 ·exact Q5 λh=>absurd h.1 (Ts 1)
theorem yJ{a:Nat}(h:z5 a=true):∀r:List Nat,cut 2 ((a::r).take 3)=[a]
 |[]=>hH 2 a
 |[b]=>(gD (p:=[a,b]) (nR h) (Rf 1)).trans (hH 1 a)
 |b::c::r=>(gD (p:=[a,b,c]) (nR h) (RN (Rf 1))).trans ((gD (p:=[a,b]) (nR h) (Rf 1)).trans (hH 0 a))
theorem pP{a:Nat}{x:Int}(h:(z5 a&&gv [a]==x)=true)(r:List Nat):fm (a::r)=x::fm r:=by refine xA (QI.mp h) λh1 h2=>?_;rw[<-beq_iff_eq.mp h2];exact kN (p:=[a]) (SQ _ _) (yJ h1 r)
theorem sX:([102,105,108,115,116].all (λc=>z5 c&&gv [c]==((256+c:Nat):Int))&&([(40,7),(41,8),(44,12),(59,13)]:List (Nat×Int)).all (λq=>z5 q.1&&gv [q.1]==q.2))=true:=by decide +kernel
theorem AW{a:Nat}(h:a∈[102,105,108,115,116])(r:List Nat):fm (a::r)=((256+a:Nat):Int)::fm r:=
 pP (QL.mp (QI.mp sX).1 a h) r
theorem fR{a:Nat}{x:Int}(h:(a,x)∈([(40,7),(41,8),(44,12),(59,13)]:List (Nat×Int)))(r:List Nat):fm (a::r)=x::fm r:=
 pP (QL.mp (QI.mp sX).2 (a,x) h) r
theorem yT:∀k<5,∀c∈dp k,c∈[102,105,108,115,116]:=by decide +kernel
theorem x9:∀(l r:List Nat),(∀c∈l,c∈[102,105,108,115,116])->fm (l++r)=kR l++fm r:=λl=>by
 induction l with
 |nil=>exact λr h=>rfl
 |cons a l ih=>intro r h;rw[RY,AW (h a QH),ih r λc hc=>h c (QA _ hc)];rfl
theorem tN{p:List Nat}{q:List Nat->Bool}(hq:ua.all (λe=>q e.1.cps.toList)=true)(hp:q p=false):gw p=none:=by
 refine wF ?_;unfold cM;cases g:ua.find? (λe=>e.1=aj p)with
 |none=>rfl
 |some e=>have h2:e.1=aj p:=QS (List.find?_some (p:=λe:Str×D=>decide (e.1=aj p)) g);have z:=QL.mp hq e (SI g);rw[h2]at z;exact absurd (hp.symm.trans z) Rc
theorem Bx:([44,41].all λb=>ua.all λe=>!(e.1.cps.toList.take 2==[58,b]))=true:=by decide +kernel
theorem A9:ua.all (λe=>!(e.1.cps.toList.take 2==[58,61]&&e.1.cps.toList.length==3))=true:=by decide +kernel
theorem kO{b:Nat}(h:b∈[44,41])(r:List Nat):gw (58::b::r)=none:=
 tN (q:=λl=>!(l.take 2==[58,b])) (QL.mp Bx b h) (by rw[show(58::b::r).take 2=[58,b]from rfl,beq_self_eq_true];rfl)
theorem pQ{m b:Nat}(hm:m<3)(hb:b∈[44,41])(r:List Nat):fm (eJ m++b::r)=v9 m++fm (b::r):=by
 refine IT (P:=λm=>fm (eJ m++b::r)=v9 m++fm (b::r)) m hm rfl ?_ ?_
 ·have hc:cut 2 ((58::b::r).take 3)=[58]:=by
   rcases r with _|⟨c,r⟩
   ·exact(gD (p:=[58,b]) (kO hb []) (Rf 1)).trans (hH 1 58)
   ·exact(gD (p:=[58,b,c]) (kO hb [c]) (RN (Rf 1))).trans ((gD (p:=[58,b]) (kO hb []) (Rf 1)).trans (hH 0 58))
  exact(kN (p:=[58]) (SQ _ _) hc).trans (QV (·::_) (show gv [58]=11 by decide +kernel))
 ·have h3:gw [58,61,b]=none:=tN (q:=λl=>!(l.take 2==[58,61]&&l.length==3)) A9 rfl
  have hc:cut 2 ((58::61::b::r).take 3)=[58,61]:=(gD (p:=[58,61,b]) h3 (RN (Rf 1))).trans (show cut 1 [58,61]=[58,61] by decide +kernel);exact(kN (p:=[58,61]) (SQ _ _) hc).trans (QV (·::_) (show gv [58,61]=53 by decide +kernel))
theorem NT.syms_of:∀(t:NT)(b:Nat)(r:List Nat),t.ok->b∈[44,41]->fm (t.txt++b::r)=t.Z6++fm (b::r):=λt=>by
 induction t with
 |leaf k m=>intro b r h hb;show fm ((dp k++eJ m)++b::r)=(kR (dp k)++v9 m)++_;rw[QQ,x9 _ _ (yT k h.1),pQ h.2 hb,QQ]
 |node x y m ihx ihy=>intro b r h hb;show fm (40::((x.txt++44::(y.txt++41::eJ m))++b::r))=_;rw[fR (x:=7) dk,QQ,RY,ihx 44 _ h.1 dk,fR (x:=12) dk,QQ,RY,ihy 41 _ h.2.1 dk,fR (x:=8) dk,pQ h.2.2 hb];show 7::_=(7::(x.Z6++12::(y.Z6++8::v9 m)))++_;simp only[RY,QQ]
theorem be.syms_of{t:be}(h:t.ok):fm t.txt=t.Z6:=by unfold be.txt be.Z6;rw[fR (x:=7) dk,t.x.syms_of 44 _ h.1 dk,fR (x:=12) dk,t.y.syms_of 44 _ h.2.1 dk,fR (x:=12) dk,t.z.syms_of 41 _ h.2.2 dk,fR (x:=8) dk,fR (x:=13) dk];rfl
noncomputable def fg(M:List (List Int))(a b:Nat):Int:=(M.getD a []).getD b 0
noncomputable def qV(M:List (List Int))(a:Nat):Int:=(M.getD a []).sum
def qN(many:Nat)(M:List (List Int))(a b:Nat):Int:=((many:Int)-2)*fg M a b-qV M a-qV M b
def eO(many:Nat)(M:List (List Int)):List (Int×Nat×Nat):=(List.range many).flatMap λa=>((List.range many).drop (a+1)).map λb=>(qN many M a b,a,b)
noncomputable def gM(x y:Int×Nat×Nat):Bool:=if x.1=y.1 then(if x.2.1=y.2.1 then decide (x.2.2<y.2.2)else decide (x.2.1<y.2.1))else decide (x.1<y.1)
def jQ(l:List (Int×Nat×Nat))(c:Int×Nat×Nat):Int×Nat×Nat:=l.foldl (λWE x=>if gM x WE then x else WE) c
def aq(many:Nat)(M:List (List Int)):Int×Nat×Nat:=match eO many M with|[]=>(0,0,0)|c::l=>jQ l c
theorem Cc{x y:Int×Nat×Nat}(h:gM x y=true):x.1<=y.1:=by
 unfold gM at h;split at h
 ·next e=>exact e▸Tw _
 ·exact Int.le_of_lt (QS h)
theorem zV{x y:Int×Nat×Nat}(h:¬gM x y=true):y.1<=x.1:=by
 unfold gM at h;split at h
 ·next e=>exact e▸Tw _
 ·exact Int.not_lt.mp λz=>h (Q7 z)
theorem xG:∀(l:List (Int×Nat×Nat))(c:Int×Nat×Nat),(jQ l c∈c::l)/\∀x∈c::l,(jQ l c).1<=x.1:=λl=>by
 induction l with
 |nil=>exact λc=>⟨QH,λx hx=>by rw[QB.mp hx];exact Tw _⟩
 |cons y l ih=>
  intro c;refine xA (ih (if gM y c then y else c)) λh1 h2=>?_;have e:jQ (y::l) c=jQ l (if gM y c then y else c):=rfl;rw[e];by_cases hb:gM y c=true
  ·rw[Rb hb]at h1 h2 ⊢
   refine⟨QA _ h1,λx hx=>?_⟩;rcases Qw.mp hx with rfl|hx
   ·exact Int.le_trans (h2 y QH) (Cc hb)
   ·exact h2 x hx
  ·rw[Q5 hb]at h1 h2 ⊢
   refine⟨?_,λx hx=>?_⟩
   ·rcases Qw.mp h1 with h|h
    ·rw[h];exact QH
    ·exact QA _ (QA _ h)
   ·rcases Qw.mp hx with rfl|hx
    ·exact h2 x QH
    rcases Qw.mp hx with rfl|hx
    ·exact Int.le_trans (h2 c QH) (zV hb)
    ·exact h2 x (QA _ hx)
theorem kI{M:List (List Int)}{x:Int×Nat×Nat}:x∈eO many M↔x.2.1<x.2.2/\x.2.2<many/\x.1=qN many M x.2.1 x.2.2:=by
 unfold eO;rw[SA];constructor
 ·rintro⟨a,ha,hx⟩
  refine ay (QR.mp hx) λb hb U=>?_;subst U;rw[List.mem_drop_iff_getElem]at hb;obtain⟨j,hj,e⟩:=hb;rw[SN]at e;rw[RI]at hj;subst e;exact⟨show a<a+1+j by lia,show a+1+j<many by lia,rfl⟩
 ·obtain⟨q,a,b⟩:=x
  rintro⟨h1,h2,h3⟩;have h1:a<b:=h1;have h2:b<many:=h2;refine⟨a,Q1.mpr (TK h1 h2),QR.mpr ⟨b,?_,by rw[<-h3]⟩⟩;rw[List.mem_drop_iff_getElem];exact⟨b-(a+1),by rw[RI];lia,by rw[SN];lia⟩
theorem dR{M:List (List Int)}(h:2<=many):(aq many M).2.1<(aq many M).2.2/\(aq many M).2.2<many/\∀i j,i<j->j<many->qN many M (aq many M).2.1 (aq many M).2.2<=qN many M i j:=by
 have h0:(qN many M 0 1,0,1)∈eO many M:=kI.mpr ⟨Rf 0,h,rfl⟩;have key:aq many M∈eO many M/\∀x∈eO many M,(aq many M).1<=x.1:=by
  unfold aq;rcases e:eO many M with _|⟨c,l⟩
  ·rw[e]at h0;contradiction
  ·exact xG l c
 exact jd (kI.mp key.1) λk1 k2 k3=>⟨k1,k2,λi j hi hj=>k3▸key.2 (qN many M i j,i,j) (kI.mpr ⟨hi,hj,rfl⟩)⟩
noncomputable def aJ(many a b:Nat):List Nat:=(List.range many).filter λk=>k != a&&k != b
def fH(M:List (List Int))(a b k:Nat):Int:=fg M a k+fg M b k-fg M a b
def jR(M:List (List Int))(rest:List Nat)(a b:Nat):List (List Int):=(rest.map λj=>(rest.map λk=>2*fg M j k)++[fH M a b j])++[(rest.map λk=>fH M a b k)++[0]]
def eE(many:Nat)(M:List (List Int))(JT a b:Nat):Int:=Int.fdiv (((many:Int)-2)*fg M a b+qV M a-qV M b) (2*JT*(many-2))
def iY(many:Nat)(M:List (List Int))(JT a b:Nat):Int:=Int.fdiv (fg M a b) JT-eE many M JT a b
def bQ(M:List (List Int))(JT k:Nat):Int:=Int.fdiv (fg M k ((k+2)%3)+fg M k ((k+1)%3)-fg M ((k+2)%3) ((k+1)%3)) (2*JT)
noncomputable def bn(D:Nat->Nat->Int)(ls:List Nat):List (List Int):=ls.map λx=>ls.map λy=>D x y
noncomputable def lb(ls:List Nat)(a:Nat):Nat:=ls.getD a 0
theorem cU{a:Nat}(h:a<ls.length):ls[a]? = some (lb ls a):=by unfold lb;rw[Qv,QE h];rfl
theorem jY{D:Nat->Nat->Int}{a:Nat}(h:a<ls.length):(bn D ls).getD a []=ls.map λy=>D (lb ls a) y:=by unfold bn;rw[Qv,QX,cU h];rfl
theorem dX{D:Nat->Nat->Int}{a b:Nat}(h:a<ls.length)(g:b<ls.length):fg (bn D ls) a b=D (lb ls a) (lb ls b):=by unfold fg;rw[jY h,Qv,QX,cU g];rfl
noncomputable def cG(D:Nat->Nat->Int)(ls:List Nat)(x:Nat):Int:=(ls.map λy=>D x y).sum
def qL(D:Nat->Nat->Int)(ls:List Nat)(x y:Nat):Int:=((ls.length:Int)-2)*D x y-cG D ls x-cG D ls y
theorem Au{D:Nat->Nat->Int}{a b:Nat}(h:a<ls.length)(g:b<ls.length):qN ls.length (bn D ls) a b=qL D ls (lb ls a) (lb ls b):=by unfold qN qL cG qV;rw[dX h g,jY h,jY g]
theorem ip{f:Nat->Int}{l l':List Nat}(h:l.Perm l'):(l.map f).sum=(l'.map f).sum:=by
 induction h with
 |nil=>rfl
 |cons x _ ih=>rw[QW,Ry,ih,QW,Ry]
 |swap x y l=>simp only[QW,Ry];exact Int.add_left_comm (f y) (f x) (List.map f l).sum
 |trans _ _ h1 h2=>exact h1.trans h2
theorem aO{D:Nat->Nat->Int}{l l':List Nat}(h:l.Perm l')(x y:Nat):qL D l x y=qL D l' x y:=by unfold qL cG;rw[ip h,ip h,h.length_eq]
theorem Ao{D:Nat->Nat->Int}(hs:∀x y,D x y=D y x)(hp:ls.Perm cl)(nd:cl.Nodup)(h2:2<=ls.length):∃a b,(aq ls.length (bn D ls)).2=(a,b)/\a<b/\b<ls.length/\lb ls a∈cl/\lb ls b∈cl/\lb ls a≠lb ls b/\∀u∈cl,∀v∈cl,u≠v->qL D cl (lb ls a) (lb ls b)<=qL D cl u v:=by
 refine jd (dR (M:=bn D ls) h2) λh3 h4 h5=>?_;refine⟨_,_,rfl,h3,h4,?_⟩;generalize (aq ls.length (bn D ls)).2.1=a at h3 h4 h5 ⊢;generalize (aq ls.length (bn D ls)).2.2=b at h3 h4 h5 ⊢;have ha:=TK h3 h4;have hq:∀x y,qL D cl x y=qL D cl y x:=λx y=>by unfold qL;rw[hs x y];exact AQ _ _ _
 have nl:ls.Nodup:=hp.nodup_iff.mpr nd;refine⟨hp.mem_iff.mp (Rj (cU ha)),hp.mem_iff.mp (Rj (cU h4)),?_,λu hu v hv MY=>?_⟩
 ·intro e
  have:=(List.getElem?_inj ha nl).mp ((cU ha).trans ((QV some e).trans (cU h4).symm))
  lia
 ·obtain⟨i,hi⟩:=Tz (hp.mem_iff.mpr hu)
  obtain⟨j,hj⟩:=Tz (hp.mem_iff.mpr hv);have PW:=(Q0.mp hi).1;have M8:=(Q0.mp hj).1;have ei:lb ls i=u:=QG ((cU PW).symm.trans hi);have ej:lb ls j=v:=QG ((cU M8).symm.trans hj);rw[<-aO hp,<-aO hp,<-Au ha h4];rcases Nat.lt_trichotomy i j with c|c|c
  ·rw[<-ei,<-ej,<-Au PW M8];exact h5 i j c M8
  ·subst c;exact absurd (ei.symm.trans ej) MY
  ·have:=h5 j i c PW
   rw[Au M8 PW,ej,ei,aO hp,hq]at this;rw[aO hp];exact this
structure fe(D:Nat->Nat->Int)(p q c r s:Nat)(n a ε:Int)(l:Nat->Int):Prop where
 pq:l p+l q-ε<=D p q/\D p q<=l p+l q
 pc:l p+l c+n-ε<=D p c/\D p c<=l p+l c+n
 qc:l q+l c+n-ε<=D q c/\D q c<=l q+l c+n
 P0:l p+l r+n+a-ε<=D p r/\D p r<=l p+l r+n+a
 ps:l p+l s+n+a-ε<=D p s/\D p s<=l p+l s+n+a
 qr:l q+l r+n+a-ε<=D q r/\D q r<=l q+l r+n+a
 qs:l q+l s+n+a-ε<=D q s/\D q s<=l q+l s+n+a
 cr:l c+l r+a-ε<=D c r/\D c r<=l c+l r+a
 cs:l c+l s+a-ε<=D c s/\D c s<=l c+l s+a
 rs:l r+l s-ε<=D r s/\D r s<=l r+l s
structure uf(n a ε:Int):Prop where
 e0:0<=ε
 en:1+ε<=n
 ea:1+ε<=a
section
variable{D:Nat->Nat->Int}{p q c r s:Nat}{n a ε:Int}{l:Nat->Int}
theorem fe.pqS(hs:∀x y,D x y=D y x)(h:fe D p q c r s n a ε l):fe D q p c r s n a ε l:=
 ⟨by rw[hs q p,Sz (l q)];exact h.pq,h.qc,h.pc,h.qr,h.qs,h.P0,h.ps,h.cr,h.cs,h.rs⟩
theorem fe.rsS(hs:∀x y,D x y=D y x)(h:fe D p q c r s n a ε l):fe D p q c s r n a ε l:=
 ⟨h.pq,h.pc,h.qc,h.ps,h.P0,h.qs,h.qr,h.cs,h.cr,by rw[hs s r,Sz (l s)];exact h.rs⟩
theorem fe.turn(hs:∀x y,D x y=D y x)(h:fe D p q c r s n a ε l):fe D r s c p q a n ε l:=by
 have f:∀{x y:Nat}{d:Int},l x+l y+d-ε<=D x y/\D x y<=l x+l y+d->l y+l x+d-ε<=D y x/\D y x<=l y+l x+d:=λ{x y d}g=>by rw[hs y x,Sz (l y)];exact g
 have f2:∀{x y:Nat},l x+l y+n+a-ε<=D x y/\D x y<=l x+l y+n+a->l y+l x+a+n-ε<=D y x/\D y x<=l y+l x+a+n:=λ{x y}g=>by rw[hs y x];exact⟨by have:=g.1;lia,by have:=g.2;lia⟩
 exact⟨h.rs,f h.cr,f h.cs,f2 h.P0,f2 h.qr,f2 h.ps,f2 h.qs,f h.pc,f h.qc,h.pq⟩
theorem nP(x:Nat):cG D [p,q,c,r,s] x=D x p+D x q+D x c+D x r+D x s:=by show D x p+(D x q+(D x c+(D x r+(D x s+0))))=_;lia
theorem wb(hs:∀x y,D x y=D y x)(hd:∀x,D x x=0)(h:fe D p q c r s n a ε l)(E:uf n a ε)(h1:qL D [p,q,c,r,s] p c<=qL D [p,q,c,r,s] p q):False:=by unfold qL at h1;rw[nP,nP,nP,hd,hd,hd,hs q p,hs c p,hs c q]at h1;have e:((([p,q,c,r,s]:List Nat).length:Int)-2)=3:=rfl;rw[e]at h1;obtain⟨⟨_,_⟩,⟨_,_⟩,⟨_,_⟩,⟨_,_⟩,⟨_,_⟩,⟨_,_⟩,⟨_,_⟩,⟨_,_⟩,⟨_,_⟩,⟨_,_⟩⟩:=h;obtain⟨_,_,_⟩:=E;lia
theorem wc(hs:∀x y,D x y=D y x)(hd:∀x,D x x=0)(h:fe D p q c r s n a ε l)(E:uf n a ε)(h1:qL D [p,q,c,r,s] p r<=qL D [p,q,c,r,s] p q)(h2:qL D [p,q,c,r,s] p r<=qL D [p,q,c,r,s] r s):False:=by unfold qL at h1 h2;rw[nP,nP,nP,hd,hd,hd,hs q p,hs r p,hs r q,hs r c]at h1;rw[nP,nP,nP,hd,hd,hd,hs r p,hs r q,hs r c,hs s p,hs s q,hs s c,hs s r]at h2;have e:((([p,q,c,r,s]:List Nat).length:Int)-2)=3:=rfl;rw[e]at h1 h2;obtain⟨⟨_,_⟩,⟨_,_⟩,⟨_,_⟩,⟨_,_⟩,⟨_,_⟩,⟨_,_⟩,⟨_,_⟩,⟨_,_⟩,⟨_,_⟩,⟨_,_⟩⟩:=h;obtain⟨_,_,_⟩:=E;lia
end
section
variable{D:Nat->Nat->Int}{p q c r s:Nat}{n a ε:Int}{l:Nat->Int}
theorem H4(hs:∀x y,D x y=D y x)(hd:∀x,D x x=0)(h:fe D p q c r s n a ε l)(E:uf n a ε)(nd:[p,q,c,r,s].Nodup){x y:Nat}(hx:x∈[p,q,c,r,s])(hy:y∈[p,q,c,r,s])(Kj:x≠y)(hq:∀u∈[p,q,c,r,s],∀v∈[p,q,c,r,s],u≠v->qL D [p,q,c,r,s] x y<=qL D [p,q,c,r,s] u v):
  (x=p/\y=q)\/(x=q/\y=p)\/(x=r/\y=s)\/(x=s/\y=r):=by
 have E':uf a n ε:=⟨E.e0,E.ea,E.en⟩;have k1:=hq p (by simp) q (by simp) (by simp at nd;exact nd.1.1);have k2:=hq r (by simp) s (by simp) (by simp at nd;exact nd.2.2.2);have sy:∀u v,qL D [p,q,c,r,s] u v=qL D [p,q,c,r,s] v u:=λu v=>by unfold qL;rw[hs u v];exact AQ _ _ _
 have P1:[p,q,c,r,s].Perm [q,p,c,r,s]:=.swap _ _ _;have P2:[p,q,c,r,s].Perm [p,q,c,s,r]:=.cons _ (.cons _ (.cons _ (.swap _ _ _)));have P3:[p,q,c,r,s].Perm [r,s,c,p,q]:=(SL (l₁:=[p,q]) (l₂:=[c,r,s])).trans ((SL (l₁:=[c]) (l₂:=[r,s])).append_right [p,q]);have pc:∀{x y},(x=p/\y=c)->qL D [p,q,c,r,s] x y<=qL D [p,q,c,r,s] p q->False:=λe k=>wb hs hd h E (by rw[e.1,e.2]at k;exact k);have qc:∀{x y},(x=q/\y=c)->qL D [p,q,c,r,s] x y<=qL D [p,q,c,r,s] p q->False:=λe k=>wb hs hd (h.pqS hs) E (by rw[e.1,e.2,aO P1,aO P1 p q]at k;rw[show qL D [q,p,c,r,s] q p=qL D [q,p,c,r,s] p q by rw[<-aO P1,<-aO P1,sy]];exact k);have rc:∀{x y},(x=r/\y=c)->qL D [p,q,c,r,s] x y<=qL D [p,q,c,r,s] r s->False:=λe k=>wb hs hd (h.turn hs) E' (by rw[e.1,e.2,aO P3,aO P3 r s]at k;exact k);have P4:[p,q,c,r,s].Perm [s,r,c,p,q]:=P3.trans (.swap _ _ _);have sc:∀{x y},(x=s/\y=c)->qL D [p,q,c,r,s] x y<=qL D [p,q,c,r,s] r s->False:=λe k=>wb hs hd ((h.turn hs).pqS hs) E' (by rw[e.1,e.2,sy r s,aO P4,aO P4 s r]at k;exact k);have P0:∀{x y},(x=p/\y=r)->qL D [p,q,c,r,s] x y<=qL D [p,q,c,r,s] p q->qL D [p,q,c,r,s] x y<=qL D [p,q,c,r,s] r s->False:=λe k k'=>wc hs hd h E (by rw[e.1,e.2]at k;exact k) (by rw[e.1,e.2]at k';exact k');have qr:∀{x y},(x=q/\y=r)->qL D [p,q,c,r,s] x y<=qL D [p,q,c,r,s] p q->qL D [p,q,c,r,s] x y<=qL D [p,q,c,r,s] r s->False:=λe k k'=>wc hs hd (h.pqS hs) E (by rw[e.1,e.2,sy p q,aO P1,aO P1 q p]at k;exact k) (by rw[e.1,e.2,aO P1,aO P1 r s]at k';exact k');have ps:∀{x y},(x=p/\y=s)->qL D [p,q,c,r,s] x y<=qL D [p,q,c,r,s] p q->qL D [p,q,c,r,s] x y<=qL D [p,q,c,r,s] r s->False:=λe k k'=>wc hs hd (h.rsS hs) E (by rw[e.1,e.2,aO P2,aO P2 p q]at k;exact k) (by rw[e.1,e.2,sy r s,aO P2,aO P2 s r]at k';exact k');have P5:[p,q,c,r,s].Perm [q,p,c,s,r]:=P1.trans (.cons _ (.cons _ (.cons _ (.swap _ _ _))));have qs:∀{x y},(x=q/\y=s)->qL D [p,q,c,r,s] x y<=qL D [p,q,c,r,s] p q->qL D [p,q,c,r,s] x y<=qL D [p,q,c,r,s] r s->False:=λe k k'=>wc hs hd ((h.pqS hs).rsS hs) E (by rw[e.1,e.2,sy p q,aO P5,aO P5 q p]at k;exact k) (by rw[e.1,e.2,sy r s,aO P5,aO P5 s r]at k';exact k');have l1:qL D [p,q,c,r,s] y x<=qL D [p,q,c,r,s] p q:=sy x y▸k1;have l2:qL D [p,q,c,r,s] y x<=qL D [p,q,c,r,s] r s:=sy x y▸k2;simp only[Qw,Q3,or_false]at hx hy;rcases hx with hx|hx|hx|hx|hx<;>rcases hy with hy|hy|hy|hy|hy
 ·exact absurd (hx.trans hy.symm) Kj
 ·exact .inl ⟨hx,hy⟩
 ·exact(pc ⟨hx,hy⟩ k1).elim
 ·exact(P0 ⟨hx,hy⟩ k1 k2).elim
 ·exact(ps ⟨hx,hy⟩ k1 k2).elim
 ·exact .inr (.inl ⟨hx,hy⟩)
 ·exact absurd (hx.trans hy.symm) Kj
 ·exact(qc ⟨hx,hy⟩ k1).elim
 ·exact(qr ⟨hx,hy⟩ k1 k2).elim
 ·exact(qs ⟨hx,hy⟩ k1 k2).elim
 ·exact(pc ⟨hy,hx⟩ l1).elim
 ·exact(qc ⟨hy,hx⟩ l1).elim
 ·exact absurd (hx.trans hy.symm) Kj
 ·exact(rc ⟨hy,hx⟩ l2).elim
 ·exact(sc ⟨hy,hx⟩ l2).elim
 ·exact(P0 ⟨hy,hx⟩ l1 l2).elim
 ·exact(qr ⟨hy,hx⟩ l1 l2).elim
 ·exact(rc ⟨hx,hy⟩ k2).elim
 ·exact absurd (hx.trans hy.symm) Kj
 ·exact .inr (.inr (.inl ⟨hx,hy⟩))
 ·exact(ps ⟨hy,hx⟩ l1 l2).elim
 ·exact(qs ⟨hy,hx⟩ l1 l2).elim
 ·exact(sc ⟨hx,hy⟩ k2).elim
 ·exact .inr (.inr (.inr ⟨hx,hy⟩))
 ·exact absurd (hx.trans hy.symm) Kj
structure lY(D:Nat->Nat->Int)(c J r s:Nat)(n a ε:Int)(l:Nat->Int):Prop where
 cJ:2*l c+2*n-2*ε<=D c J/\D c J<=2*l c+2*n+ε
 cr:2*l c+2*l r+2*a-2*ε<=D c r/\D c r<=2*l c+2*l r+2*a
 cs:2*l c+2*l s+2*a-2*ε<=D c s/\D c s<=2*l c+2*l s+2*a
 Jr:2*n+2*a+2*l r-2*ε<=D J r/\D J r<=2*n+2*a+2*l r+ε
 Js:2*n+2*a+2*l s-2*ε<=D J s/\D J s<=2*n+2*a+2*l s+ε
 rs:2*l r+2*l s-2*ε<=D r s/\D r s<=2*l r+2*l s
theorem lY.rsS(hs:∀x y,D x y=D y x)(h:lY D c J r s n a ε l):lY D c J s r n a ε l:=
 ⟨h.cJ,h.cs,h.cr,h.Js,h.Jr,by rw[hs s r,Sz (2*l s)];exact h.rs⟩
theorem tI(x:Nat):cG D [c,J,r,s] x=D x c+D x J+D x r+D x s:=by show D x c+(D x J+(D x r+(D x s+0)))=_;lia
theorem DB(hs:∀x y,D x y=D y x)(hd:∀x,D x x=0)(h:lY D c J r s n a ε l)(e1:ε<=1)(E:uf n a ε)(h1:qL D [c,J,r,s] c r<=qL D [c,J,r,s] c J):False:=by unfold qL at h1;rw[tI,tI,tI,hd,hd,hd,hs J c,hs r c,hs r J]at h1;have e:((([c,J,r,s]:List Nat).length:Int)-2)=2:=rfl;rw[e]at h1;obtain⟨⟨_,_⟩,⟨_,_⟩,⟨_,_⟩,⟨_,_⟩,⟨_,_⟩,⟨_,_⟩⟩:=h;obtain⟨_,_,_⟩:=E;lia
theorem DA(hs:∀x y,D x y=D y x)(hd:∀x,D x x=0)(h:lY D c J r s n a ε l)(e1:ε<=1)(E:uf n a ε)(h1:qL D [c,J,r,s] J r<=qL D [c,J,r,s] c J):False:=by unfold qL at h1;rw[tI,tI,tI,hd,hd,hd,hs J c,hs r c,hs r J]at h1;have e:((([c,J,r,s]:List Nat).length:Int)-2)=2:=rfl;rw[e]at h1;obtain⟨⟨_,_⟩,⟨_,_⟩,⟨_,_⟩,⟨_,_⟩,⟨_,_⟩,⟨_,_⟩⟩:=h;obtain⟨_,_,_⟩:=E;lia
theorem H3(hs:∀x y,D x y=D y x)(hd:∀x,D x x=0)(h:lY D c J r s n a ε l)(e1:ε<=1)(E:uf n a ε)(nd:[c,J,r,s].Nodup){x y:Nat}(hx:x∈[c,J,r,s])(hy:y∈[c,J,r,s])(Kj:x≠y)(hq:∀u∈[c,J,r,s],∀v∈[c,J,r,s],u≠v->qL D [c,J,r,s] x y<=qL D [c,J,r,s] u v):
  (x=c/\y=J)\/(x=J/\y=c)\/(x=r/\y=s)\/(x=s/\y=r):=by
 have k1:=hq c (by simp) J (by simp) (by simp at nd;exact nd.1.1);have sy:∀u v,qL D [c,J,r,s] u v=qL D [c,J,r,s] v u:=λu v=>by unfold qL;rw[hs u v];exact AQ _ _ _
 have P2:[c,J,r,s].Perm [c,J,s,r]:=.cons _ (.cons _ (.swap _ _ _));have cr:∀{x y},(x=c/\y=r)->qL D [c,J,r,s] x y<=qL D [c,J,r,s] c J->False:=λe k=>DB hs hd h e1 E (by rw[e.1,e.2]at k;exact k);have Jr:∀{x y},(x=J/\y=r)->qL D [c,J,r,s] x y<=qL D [c,J,r,s] c J->False:=λe k=>DA hs hd h e1 E (by rw[e.1,e.2]at k;exact k);have cs:∀{x y},(x=c/\y=s)->qL D [c,J,r,s] x y<=qL D [c,J,r,s] c J->False:=λe k=>DB hs hd (h.rsS hs) e1 E (by rw[e.1,e.2,aO P2,aO P2 c J]at k;exact k);have Js:∀{x y},(x=J/\y=s)->qL D [c,J,r,s] x y<=qL D [c,J,r,s] c J->False:=λe k=>DA hs hd (h.rsS hs) e1 E (by rw[e.1,e.2,aO P2,aO P2 c J]at k;exact k);have l1:qL D [c,J,r,s] y x<=qL D [c,J,r,s] c J:=sy x y▸k1;simp only[Qw,Q3,or_false]at hx hy;rcases hx with hx|hx|hx|hx<;>rcases hy with hy|hy|hy|hy
 ·exact absurd (hx.trans hy.symm) Kj
 ·exact .inl ⟨hx,hy⟩
 ·exact(cr ⟨hx,hy⟩ k1).elim
 ·exact(cs ⟨hx,hy⟩ k1).elim
 ·exact .inr (.inl ⟨hx,hy⟩)
 ·exact absurd (hx.trans hy.symm) Kj
 ·exact(Jr ⟨hx,hy⟩ k1).elim
 ·exact(Js ⟨hx,hy⟩ k1).elim
 ·exact(cr ⟨hy,hx⟩ l1).elim
 ·exact(Jr ⟨hy,hx⟩ l1).elim
 ·exact absurd (hx.trans hy.symm) Kj
 ·exact .inr (.inr (.inl ⟨hx,hy⟩))
 ·exact(cs ⟨hy,hx⟩ l1).elim
 ·exact(Js ⟨hy,hx⟩ l1).elim
 ·exact .inr (.inr (.inr ⟨hx,hy⟩))
 ·exact absurd (hx.trans hy.symm) Kj
end
noncomputable def b7(D:Nat->Nat->Int)(x y J:Nat)(u v:Nat):Int:=if u=J then(if v=J then 0 else D x v+D y v-D x y)else if v=J then D x u+D y u-D x y else 2*D u v
section
variable{D:Nat->Nat->Int}{p q c r s:Nat}{n a ε:Int}{l:Nat->Int}
theorem ph{x y J:Nat}(hs:∀x y,D x y=D y x)(u v:Nat):b7 D x y J u v=b7 D x y J v u:=by
 unfold b7;by_cases h1:u=J<;>by_cases h2:v=J
 ·rw[Rb h1,Rb h2,Rb h2,Rb h1]
 ·rw[Rb h1,Q5 h2,Q5 h2,Rb h1]
 ·rw[Q5 h1,Rb h2,Rb h2,Q5 h1]
 ·rw[Q5 h1,Q5 h2,Q5 h2,Q5 h1,hs u v]
theorem uI{x y J:Nat}(hd:∀x,D x x=0)(u:Nat):b7 D x y J u u=0:=by
 unfold b7;by_cases h1:u=J
 ·rw[Rb h1,Rb h1]
 ·rw[Q5 h1,Q5 h1,hd];rfl
theorem iH{x y J u:Nat}(h:u≠J):b7 D x y J J u=D x u+D y u-D x y:=by unfold b7;rw[Rb rfl,Q5 h]
theorem gK{x y J u:Nat}(h:u≠J):b7 D x y J u J=D x u+D y u-D x y:=by unfold b7;rw[Q5 h,Rb rfl]
theorem gl{x y J u v:Nat}(h:u≠J)(g:v≠J):b7 D x y J u v=2*D u v:=by unfold b7;rw[Q5 h,Q5 g]
theorem fe.join(hs:∀x y,D x y=D y x)(h:fe D p q c r s n a ε l)(hc:c≠J)(hr:r≠J)(hz:s≠J):lY (b7 D p q J) c J r s n a ε l:=by
 obtain⟨⟨_,_⟩,⟨_,_⟩,⟨_,_⟩,⟨_,_⟩,⟨_,_⟩,⟨_,_⟩,⟨_,_⟩,⟨_,_⟩,⟨_,_⟩,⟨_,_⟩⟩:=h;refine⟨?_,?_,?_,?_,?_,?_⟩
 ·rw[gK hc];lia
 ·rw[gl hc hr];lia
 ·rw[gl hc hz];lia
 ·rw[iH hr];lia
 ·rw[iH hz];lia
 ·rw[gl hr hz];lia
end
inductive LT|leaf (x:Nat)|node (a b:LT) (w:Nat)
noncomputable def LT.ZZ:LT->Nat|.leaf x=>x|.node _ _ w=>w
noncomputable def LT.Z5(who len:Nat->Nat):LT->NT|.leaf x=>.leaf (who x) (len x)|.node a b w=>.node (a.Z5 who len) (b.Z5 who len) (len w)
noncomputable def NT.mark:NT->Nat->NT|.leaf k _,m=>.leaf k m|.node a b _,m=>.node a b m
noncomputable def LT.un(who len:Nat->Nat)(t:LT):NT:=(t.Z5 who len).mark 0
theorem j9{who len:Nat->Nat}{t:LT}:(t.un who len).mark (len t.ZZ)=t.Z5 who len:=by cases t<;>rfl
noncomputable def eK:NT:=.leaf 0 0
noncomputable def aY(exact:Bool)(i:Int):Nat:=if exact then i.toNat else 0
def a9(many:Nat)(M:List (List Int)):List (List Int):=jR M (aJ many (aq many M).2.1 (aq many M).2.2) (aq many M).2.1 (aq many M).2.2
def dJ(many:Nat)(M:List (List Int))(JT:Nat)(exact:Bool)(JI:List NT):List NT:=
 (aJ many (aq many M).2.1 (aq many M).2.2).map (λk=>JI.getD k eK)++[.node ((JI.getD (aq many M).2.1 eK).mark (aY exact (eE many M JT (aq many M).2.1 (aq many M).2.2))) ((JI.getD (aq many M).2.2 eK).mark (aY exact (iY many M JT (aq many M).2.1 (aq many M).2.2))) 0]
noncomputable def eV:List NT:=[.leaf 0 0,.leaf 1 0,.leaf 2 0,.leaf 3 0,.leaf 4 0]
def bN(M:List (List Int))(exact:Bool):be:=
 let M1:=a9 5 M
 let L1:=dJ 5 M 1 exact eV
 let M2:=a9 4 M1
 let L2:=dJ 4 M1 2 exact L1
 ⟨(L2.getD 0 eK).mark (aY exact (bQ M2 4 0)),(L2.getD 1 eK).mark (aY exact (bQ M2 4 1)),(L2.getD 2 eK).mark (aY exact (bQ M2 4 2))⟩
theorem pI{n a b:Nat}(h:a<b)(g:b<n):(List.range n).Perm (a::b::aJ n a b):=by
 have hf:=List.filter_append_perm (λk=>k != a&&k != b) (List.range n);have e:((List.range n).filter λk=>!(k != a&&k != b)).Perm [a,b]:=by refine(List.perm_ext_iff_of_nodup (List.nodup_range.filter _) (by simp;exact RW h)).mpr λk=>?_;rw[Q8,Q1];simp;lia
 exact(hf.symm.trans SL).trans (e.append_right _)
theorem kH{α:Type}{l:List α}{d:α}:(List.range l.length).map (λk=>l.getD k d)=l:=by refine List.ext_getElem (by rw[Qs,RI]) λi h1 h2=>?_;rw[List.getElem_map,SN,Qv,QE h2];rfl
theorem yb{α:Type}{l:List α}{d:α}{a b:Nat}(h:a<b)(g:b<l.length):l.Perm (l.getD a d::l.getD b d::(aJ l.length a b).map (λk=>l.getD k d)):=by
 have:=(pI h g).map (λk=>l.getD k d)
 rw[kH]at this;exact this
theorem jM{α β:Type}{l:List α}{f:α->β}{d:β}{d':α}(h:k<l.length):(l.map f).getD k d=f (l.getD k d'):=by rw[Qv,Qv,QX,QE h];rfl
theorem dD{n a b k:Nat}(h:k∈aJ n a b):k<n:=Q1.mp (Q8.mp h).1
theorem AN{D:Nat->Nat->Int}{a b J:Nat}(hs:∀x y,D x y=D y x)(h:a<b)(g:b<ls.length)(hJ:J∉ls):
  jR (bn D ls) (aJ ls.length a b) a b=bn (b7 D (lb ls a) (lb ls b) J) ((aJ ls.length a b).map (lb ls)++[J]):=by
 have ha:=TK h g;have nJ:∀k,k<ls.length->lb ls k≠J:=λk hk e=>hJ (e▸Rj (cU hk));have hj:∀k∈aJ ls.length a b,fH (bn D ls) a b k=b7 D (lb ls a) (lb ls b) J J (lb ls k):=λk hk=>by have Ki:=dD hk;unfold fH;rw[dX ha Ki,dX g Ki,dX ha g,iH (nJ k Ki)]
 unfold jR bn;rw[QU,QZ];congr 1
 ·refine Ra λj Ms=>?_
  have M8:=dD Ms;show _=List.map _ (List.map (lb ls) _++[J]);rw[QU,QZ];congr 1
  ·refine Ra λk hk=>?_
   have Ki:=dD hk;show 2*fg _ j k=b7 _ _ _ _ _ _;rw[gl (nJ j M8) (nJ k Ki)];exact QV _ (dX M8 Ki)
  ·show[_]=[_]
   refine QV (·::[]) ?_;refine(hj j Ms).trans ?_;rw[iH (nJ j M8)];exact(gK (nJ j M8)).symm
 ·show[_]=[_]
  refine QV (·::[]) ?_;show _++[0]=List.map _ (List.map (lb ls) _++[J]);rw[QU,QZ];congr 1
  ·exact Ra λk hk=>hj k hk
  ·show[(0:Int)]=[b7 _ _ _ _ _ _]
   unfold b7;rw[Rb rfl,Rb rfl]
section
variable{D:Nat->Nat->Int}{p q c r s:Nat}{n a ε:Int}{l:Nat->Int}
theorem GO(hs:∀x y,D x y=D y x)(hd:∀x,D x x=0)(h:fe D p q c r s n a 0 l):Int.fdiv (3*D p q+cG D [p,q,c,r,s] p-cG D [p,q,c,r,s] q) 6=l p/\D p q=l p+l q:=by rw[nP,nP,hd,hd,hs q p];obtain⟨⟨_,_⟩,⟨_,_⟩,⟨_,_⟩,⟨_,_⟩,⟨_,_⟩,⟨_,_⟩,⟨_,_⟩,⟨_,_⟩,⟨_,_⟩,⟨_,_⟩⟩:=h;refine⟨?_,by lia⟩;rw[show 3*D p q+(0+D p q+D p c+D p r+D p s)-(D p q+0+D q c+D q r+D q s)=6*l p by lia,TF _ dk]
structure Qt(D:Nat->Nat->Int)(x y z w:Nat)(v:Int)(l:Nat->Int):Prop where
 xy:D x y=2*(l x+l y)
 xz:D x z=2*(l x+l z+v)
 xw:D x w=2*(l x+l w+v)
 yz:D y z=2*(l y+l z+v)
 yw:D y w=2*(l y+l w+v)
 zw:D z w=2*(l z+l w)
theorem Qt.xyS{x y z w:Nat}(hs:∀x y,D x y=D y x)(h:Qt D x y z w a l):Qt D y x z w a l:=⟨by rw[hs y x,Sz (l y)];exact h.xy,h.yz,h.yw,h.xz,h.xw,h.zw⟩
theorem Qt.turn{x y z w:Nat}(hs:∀x y,D x y=D y x)(h:Qt D x y z w a l):Qt D z w x y a l:=
 ⟨h.zw,by rw[hs z x,Sz (l z)];exact h.xz,by rw[hs z y,Sz (l z)];exact h.yz,by rw[hs w x,Sz (l w)];exact h.xw,by rw[hs w y,Sz (l w)];exact h.yw,h.xy⟩
theorem lY.qt(h:lY D c J r s (l J) a 0 l):Qt D c J r s a l:=by obtain⟨⟨_,_⟩,⟨_,_⟩,⟨_,_⟩,⟨_,_⟩,⟨_,_⟩,⟨_,_⟩⟩:=h;exact⟨by lia,by lia,by lia,by lia,by lia,by lia⟩
theorem GN{x y z w:Nat}(hs:∀x y,D x y=D y x)(hd:∀x,D x x=0)(h:Qt D x y z w a l):Int.fdiv (2*D x y+cG D [x,y,z,w] x-cG D [x,y,z,w] y) 8=l x/\Int.fdiv (D x y) 2=l x+l y:=by rw[tI,tI,hd,hd,hs y x];obtain⟨e1,e2,e3,e4,e5,e6⟩:=h;rw[show 2*D x y+(0+D x y+D x z+D x w)-(D x y+0+D y z+D y w)=8*l x by lia,TF _ dk,e1,TF _ dk];exact⟨rfl,rfl⟩
theorem Jz{x y z w K:Nat}(hs:∀x y,D x y=D y x)(h:Qt D x y z w (l K) l)(hz:z≠K)(hw:w≠K):
  b7 D x y K z w=4*(l z+l w)/\b7 D x y K z K=4*(l z+l K)/\b7 D x y K w K=4*(l w+l K):=by
 rw[gl hz hw,gK hz,gK hw];obtain⟨e1,e2,e3,e4,e5,e6⟩:=h;exact⟨by exact Int.Internal.Linear.mul_eq_kkx 2 (D z w) 2 2 (l z+l w) 4 rfl e6 rfl,by lia,by lia⟩
end
def gQ(i:Int):Prop:=0<=i/\i<3
theorem jX{i:Int}{m:Nat}(h:i=(m:Int))(hm:m<3):gQ i:=by subst h;exact⟨Rv _,by exact Int.lt_toNat.mp hm⟩
structure F4(D:Nat->Nat->Int)(cl:List Nat)(lts:List LT)(who len:Nat->Nat)(n:Nat)(X Y:LT)(rest:List LT):Prop where
 perm:lts.Perm (X::Y::rest)
 x:X.ZZ∈cl
 y:Y.ZZ∈cl
 ne:X.ZZ≠Y.ZZ
 least:∀u∈cl,∀v∈cl,u≠v->qL D cl X.ZZ Y.ZZ<=qL D cl u v
 mat:∀J,J∉cl->a9 n (bn D (lts.map LT.ZZ))=bn (b7 D X.ZZ Y.ZZ J) ((rest++[LT.node X Y J]).map LT.ZZ)
 trees:∀(J JT:Nat)(exact:Bool),aY exact (Int.fdiv (((n:Int)-2)*D X.ZZ Y.ZZ+cG D cl X.ZZ-cG D cl Y.ZZ) (2*JT*(n-2)))=len X.ZZ->
  aY exact (Int.fdiv (D X.ZZ Y.ZZ) JT-Int.fdiv (((n:Int)-2)*D X.ZZ Y.ZZ+cG D cl X.ZZ-cG D cl Y.ZZ) (2*JT*(n-2)))=len Y.ZZ->
  dJ n (bn D (lts.map LT.ZZ)) JT exact (lts.map (LT.un who len))=(rest++[LT.node X Y J]).map (LT.un who len)
 one:∀JT:Nat,eE n (bn D (lts.map LT.ZZ)) JT (aq n (bn D (lts.map LT.ZZ))).2.1 (aq n (bn D (lts.map LT.ZZ))).2.2=Int.fdiv (((n:Int)-2)*D X.ZZ Y.ZZ+cG D cl X.ZZ-cG D cl Y.ZZ) (2*JT*(n-2))
 two:∀JT:Nat,iY n (bn D (lts.map LT.ZZ)) JT (aq n (bn D (lts.map LT.ZZ))).2.1 (aq n (bn D (lts.map LT.ZZ))).2.2=Int.fdiv (D X.ZZ Y.ZZ) JT-Int.fdiv (((n:Int)-2)*D X.ZZ Y.ZZ+cG D cl X.ZZ-cG D cl Y.ZZ) (2*JT*(n-2))
theorem tH{D:Nat->Nat->Int}{lts:List LT}{who len:Nat->Nat}(hs:∀x y,D x y=D y x)(hn:lts.length=n)(h2:2<=n)(hp:(lts.map LT.ZZ).Perm cl)(nd:cl.Nodup):∃X Y rest,F4 D cl lts who len n X Y rest:=by
 subst hn;have hl:(lts.map LT.ZZ).length=lts.length:=Qs _;obtain⟨a,b,he,Mw,hb,hx,hy,JO,hq⟩:=Ao hs hp nd (by rw[hl];exact h2);rw[hl]at he hb;have ha:=TK Mw hb;have ZZ:∀k,k<lts.length->lb (lts.map LT.ZZ) k=(lts.getD k (.leaf 0)).ZZ:=λk hk=>jM hk;have e1:(aq lts.length (bn D (lts.map LT.ZZ))).2.1=a:=by rw[he]
 have e2:(aq lts.length (bn D (lts.map LT.ZZ))).2.2=b:=by rw[he]
 have la:=ZZ a ha;have Zo:=ZZ b hb;have MO:∀JT:Nat,eE lts.length (bn D (lts.map LT.ZZ)) JT a b=Int.fdiv (((lts.length:Int)-2)*D (lb (lts.map LT.ZZ) a) (lb (lts.map LT.ZZ) b)+cG D cl (lb (lts.map LT.ZZ) a)-cG D cl (lb (lts.map LT.ZZ) b)) (2*JT*(lts.length-2)):=λJT=>by unfold eE qV;rw[dX (hl.symm▸ha) (hl.symm▸hb),jY (hl.symm▸ha),jY (hl.symm▸hb),ip hp,ip hp];rfl
 have M9:∀JT:Nat,iY lts.length (bn D (lts.map LT.ZZ)) JT a b=Int.fdiv (D (lb (lts.map LT.ZZ) a) (lb (lts.map LT.ZZ) b)) JT-eE lts.length (bn D (lts.map LT.ZZ)) JT a b:=λJT=>by unfold iY;rw[dX (hl.symm▸ha) (hl.symm▸hb)]
 rw[la]at hx hq JO MO M9;rw[Zo]at hy hq JO MO M9;have L4:(aJ lts.length a b).map (lb (lts.map LT.ZZ))=((aJ lts.length a b).map λk=>lts.getD k (.leaf 0)).map LT.ZZ:=by rw[QZ];exact Ra λk hk=>ZZ k (dD hk)
 refine⟨lts.getD a (.leaf 0),lts.getD b (.leaf 0),(aJ lts.length a b).map λk=>lts.getD k (.leaf 0),yb Mw hb,hx,hy,JO,hq,λJ hJ=>?_,λJ JT exact h1 h2=>?_,λJT=>by rw[e1,e2,MO],λJT=>by rw[e1,e2,M9,MO]⟩
 ·unfold a9
  rw[e1,e2]
  have:=AN (ls:=lts.map LT.ZZ) (J:=J) hs Mw (hl.symm▸hb) λz=>hJ (hp.mem_iff.mp z)
  rw[hl,L4,la,Zo]at this;rw[this,QU];rfl
 ·unfold dJ
  rw[e1,e2,M9,MO,h1,h2,jM ha (d':=.leaf 0),jM hb (d':=.leaf 0),j9,j9,QU,QZ];congr 1;exact Ra λk hk=>jM (dD hk)
theorem yU{D:Nat->Nat->Int}{l:Nat->Int}(hl:ls.length=3)(nd:ls.Nodup)(h:∀u∈ls,∀v∈ls,u≠v->D u v=4*(l u+l v)):∀k<3,bQ (bn D ls) 4 k=l (lb ls k):=by
 intro k hk;have key:∀u v w,u<3->v<3->w<3->u≠v->u≠w->v≠w->Int.fdiv (fg (bn D ls) u v+fg (bn D ls) u w-fg (bn D ls) v w) (2*(4:Nat))=l (lb ls u):=λu v w hu hv hw MY huw hvw=>by rw[<-hl]at hu hv hw;have inj:∀{i j},i<ls.length->j<ls.length->i≠j->lb ls i≠lb ls j:=λ{i j}hi hj Kl e=>Kl ((List.getElem?_inj hi nd).mp ((cU hi).trans ((QV some e).trans (cU hj).symm)));have mm:∀{i},i<ls.length->lb ls i∈ls:=λhi=>Rj (cU hi);rw[dX hu hv,dX hu hw,dX hv hw,h _ (mm hu) _ (mm hv) (inj hu hv MY),h _ (mm hu) _ (mm hw) (inj hu hw huw),h _ (mm hv) _ (mm hw) (inj hv hw hvw)];rw[show 4*(l (lb ls u)+l (lb ls v))+4*(l (lb ls u)+l (lb ls w))-4*(l (lb ls v)+l (lb ls w))=8*l (lb ls u) by lia];exact TF _ dk
 unfold bQ
 match k,hk with
 |0,_=>exact key 0 2 1 dk dk dk dk dk dk
 |1,_=>exact key 1 0 2 dk dk dk dk dk dk
 |2,_=>exact key 2 1 0 dk dk dk dk dk dk
noncomputable def LT.form(x y c r s J K:Nat):List (List LT):=
 [[.leaf r,.leaf s,.node (.leaf c) (.node (.leaf x) (.leaf y) J) K],[.leaf r,.leaf s,.node (.node (.leaf x) (.leaf y) J) (.leaf c) K],
  [.leaf c,.node (.leaf x) (.leaf y) J,.node (.leaf r) (.leaf s) K],[.leaf c,.node (.leaf x) (.leaf y) J,.node (.leaf s) (.leaf r) K]]
noncomputable def tv:List (List Nat):=[[0,1,2,3,4,5,6],[1,0,2,3,4,5,6],[3,4,2,0,1,6,5],[4,3,2,0,1,6,5]]
def jK:List (List LT):=tv.flatMap λq=>match q with|[x,y,c,r,s,J,K]=>LT.form x y c r s J K|_=>[]
theorem jP{i:Int}{m:Nat}(h1:exact=true->i=(m:Int))(h2:exact=false->m=0):aY exact i=m:=by
 unfold aY;cases exact with
 |true=>rw[Rb rfl,h1 rfl];rfl
 |false=>rw[Q5 Rc,h2 rfl]
theorem vX{A B C E X:LT}(h:X∈[A,B,C,E])(nd:[A.ZZ,B.ZZ,C.ZZ,E.ZZ].Nodup)(e:X.ZZ=A.ZZ):X=A:=by
 simp only[QY,Qw,Q3,or_false,not_or]at nd;simp only[Qw,Q3,or_false]at h;rcases h with rfl|rfl|rfl|rfl
 ·rfl
 ·exact absurd e.symm nd.1.1
 ·exact absurd e.symm nd.1.2.1
 ·exact absurd e.symm nd.1.2.2
theorem A5{A B C E X Y:LT}{rest:List LT}(h:(X::Y::rest).Perm [A,B,C,E])(nd:[A.ZZ,B.ZZ,C.ZZ,E.ZZ].Nodup)(hx:X.ZZ=A.ZZ)(hy:Y.ZZ=B.ZZ):X=A/\Y=B/\rest.Perm [C,E]:=by have e1:=vX (h.mem_iff.mp QH) nd hx;have e2:Y=B:=vX (A:=B) (B:=A) (C:=C) (E:=E) ((h.trans (.swap _ _ _)).mem_iff.mp (QA _ QH)) ((List.Perm.swap B.ZZ A.ZZ _).nodup_iff.mp nd) hy;subst e1 e2;exact⟨rfl,rfl,h.cons_inv.cons_inv⟩
structure IQ(D:Nat->Nat->Int)(ε:Int)(l:Nat->Int)(x y c r s J K:Nat):Prop where
 mem:[x,y,c,r,s,J,K]∈tv
 met:fe D x y c r s (l J) (l K) ε l
 eps:uf (l J) (l K) ε
theorem CI{D:Nat->Nat->Int}{l:Nat->Int}(hs:∀x y,D x y=D y x)(hd:∀x,D x x=0)(h:fe D 0 1 2 3 4 (l 5) (l 6) ε l)(E:uf (l 5) (l 6) ε){x y:Nat}(hx:x∈[0,1,2,3,4])(hy:y∈[0,1,2,3,4])(Kj:x≠y)(hq:∀u∈[0,1,2,3,4],∀v∈[0,1,2,3,4],u≠v->qL D [0,1,2,3,4] x y<=qL D [0,1,2,3,4] u v):
  ∃c r s J K,IQ D ε l x y c r s J K:=by
 have E':uf (l 6) (l 5) ε:=⟨E.e0,E.ea,E.en⟩;rcases H4 hs hd h E dk hx hy Kj hq with⟨rfl,rfl⟩|⟨rfl,rfl⟩|⟨rfl,rfl⟩|⟨rfl,rfl⟩
 ·exact⟨2,3,4,5,6,by decide,h,E⟩
 ·exact⟨2,3,4,5,6,by decide,h.pqS hs,E⟩
 ·exact⟨2,0,1,6,5,by decide,h.turn hs,E'⟩
 ·exact⟨2,0,1,6,5,by decide,(h.turn hs).pqS hs,E'⟩
theorem uY{x y c r s J K:Nat}(h:[x,y,c,r,s,J,K]∈tv):[x,y,c,r,s].Perm [0,1,2,3,4]/\J∉[0,1,2,3,4]/\[c,J,r,s].Nodup/\K∉[c,J,r,s]:=by simp only[tv,Qw,TY,and_true,Q3,or_false]at h;rcases h with⟨rfl,rfl,rfl,rfl,rfl,rfl,rfl⟩|⟨rfl,rfl,rfl,rfl,rfl,rfl,rfl⟩|⟨rfl,rfl,rfl,rfl,rfl,rfl,rfl⟩|⟨rfl,rfl,rfl,rfl,rfl,rfl,rfl⟩<;>decide
theorem dh{D:Nat->Nat->Int}{l l':List Nat}(h:l.Perm l')(x:Nat):cG D l x=cG D l' x:=ip h
theorem zb{x y c r s J K:Nat}(h:[x,y,c,r,s,J,K]∈tv){F:List LT}(hF:F∈LT.form x y c r s J K):F∈jK:=SA.mpr ⟨_,h,hF⟩
structure IN(D:Nat->Nat->Int)(l:Nat->Int)(exact:Bool)(x y c r s J K:Nat)(A B C E:LT):Prop where
 perm:[LT.leaf c,.node (.leaf x) (.leaf y) J,.leaf r,.leaf s].Perm [A,B,C,E]
 qt:exact=true->Qt D A.ZZ B.ZZ C.ZZ E.ZZ (l K) l
 form:∃F∈LT.form x y c r s J K,[C,E,.node A B K]=F
theorem BU{D:Nat->Nat->Int}{l:Nat->Int}{x y c r s J K u v:Nat}(hs:∀x y,D x y=D y x)(hd:∀x,D x x=0)(h:lY D c J r s (l J) (l K) ε l)(e1:ε<=1)(E:uf (l J) (l K) ε)(Kz:exact=true->ε=0)(nd:[c,J,r,s].Nodup)(hu:u∈[c,J,r,s])(hv:v∈[c,J,r,s])(MY:u≠v)(hq:∀u'∈[c,J,r,s],∀v'∈[c,J,r,s],u'≠v'->qL D [c,J,r,s] u v<=qL D [c,J,r,s] u' v'):∃A B C E',IN D l exact x y c r s J K A B C E'/\u=A.ZZ/\v=B.ZZ:=by
 have q:exact=true->Qt D c J r s (l K) l:=λz=>lY.qt (Kz z▸h);rcases H3 hs hd h e1 E nd hu hv MY hq with⟨rfl,rfl⟩|⟨rfl,rfl⟩|⟨rfl,rfl⟩|⟨rfl,rfl⟩
 ·exact⟨_,_,_,_,⟨.refl _,q,_,.head _,rfl⟩,rfl,rfl⟩
 ·exact⟨_,_,_,_,⟨.swap _ _ _,λz=>(q z).xyS hs,_,.tail _ (.head _),rfl⟩,rfl,rfl⟩
 ·exact⟨_,_,_,_,⟨SL (l₁:=[_,_]) (l₂:=[_,_]),λz=>(q z).turn hs,_,.tail _ (.tail _ (.head _)),rfl⟩,rfl,rfl⟩
 ·exact⟨_,_,_,_,⟨(SL (l₁:=[_,_]) (l₂:=[_,_])).trans (.swap _ _ _),λz=>((q z).turn hs).xyS hs,_,.tail _ (.tail _ (.tail _ (.head _))),rfl⟩,rfl,rfl⟩
theorem xC{who len:Nat->Nat}(hl:ls.length=5)(hw:∀k<5,who (lb ls k)=k):eV=(ls.map LT.leaf).map (LT.un who len):=by
 have e:(List.range 5).map (lb ls)=ls:=by rw[<-hl];exact kH
 rw[QZ];refine Eq.trans ?_ (QV (List.map (LT.un who len∘LT.leaf)) e);rw[QZ];exact Ra (f:=λk=>NT.leaf k 0) λk hk=>(QV (λz=>NT.leaf z 0) (hw k (Q1.mp hk))).symm
structure gB(M:List (List Int)):Prop where
 one5:gQ (eE 5 M 1 (aq 5 M).2.1 (aq 5 M).2.2)
 two5:gQ (iY 5 M 1 (aq 5 M).2.1 (aq 5 M).2.2)
 one4:gQ (eE 4 (a9 5 M) 2 (aq 4 (a9 5 M)).2.1 (aq 4 (a9 5 M)).2.2)
 two4:gQ (iY 4 (a9 5 M) 2 (aq 4 (a9 5 M)).2.1 (aq 4 (a9 5 M)).2.2)
 ends:∀k<3,gQ (bQ (a9 4 (a9 5 M)) 4 k)
theorem tX{D:Nat->Nat->Int}{l:Nat->Int}{who len:Nat->Nat}(hs:∀x y,D x y=D y x)(hd:∀x,D x x=0)(hp:ls.Perm [0,1,2,3,4])(hw:∀k<5,who (lb ls k)=k)(hM:fe D 0 1 2 3 4 (l 5) (l 6) ε l)(E:uf (l 5) (l 6) ε)(e1:ε<=1)(Kz:exact=true->ε=0/\∀x,l x=(len x:Nat))(JO:exact=false->∀x,len x=0)(h3:∀x,len x<3):
  ∃t0 t1 t2:LT,bN (bn D ls) exact=⟨t0.Z5 who len,t1.Z5 who len,t2.Z5 who len⟩/\(exact=true->gB (bn D ls))/\∃F∈jK,[t0,t1,t2].Perm F:=by
 have JF:ls.length=5:=hp.length_eq;have PE:(ls.map LT.leaf).map LT.ZZ=ls:=by rw[QZ];exact List.map_id' ls
 refine tZ (tH (D:=D) (lts:=ls.map LT.leaf) (cl:=[0,1,2,3,4]) (who:=who) (len:=len) (n:=5) hs (by rw[Qs,JF]) dk (by rw[PE];exact hp) dk) λX Y rest S=>?_;have leaf:∀Z∈X::Y::rest,∃z,Z=.leaf z:=λZ hZ=>ay (QR.mp (S.perm.mem_iff.mpr hZ)) λz U e=>⟨z,e.symm⟩;obtain⟨x,rfl⟩:=leaf X QH;obtain⟨y,rfl⟩:=leaf Y (QA _ QH);clear leaf;refine rg (CI (x:=x) (y:=y) hs hd hM E S.x S.y S.ne S.least) λc r s J K R=>?_;refine Fz (uY R.mem) λf1 f2 f3 f4=>?_;have JQ:=S.mat J f2;have Zp:=S.trees J 1 exact;have MW:=S.one 1;have Py:=S.two 1;have hR:rest.Perm [.leaf c,.leaf r,.leaf s]:=by have h1:(LT.leaf x::LT.leaf y::rest).Perm (([x,y,c,r,s]:List Nat).map LT.leaf):=S.perm.symm.trans ((hp.trans f1.symm).map LT.leaf);exact h1.cons_inv.cons_inv
 rw[PE,<-xC JF hw]at Zp;rw[PE]at JQ MW Py;change _=bn (b7 D x y J) _ at JQ;have hE:=R.eps;have YC:=R.met;have v1:exact=true->Int.fdiv ((((5:Nat):Int)-2)*D x y+cG D [0,1,2,3,4] x-cG D [0,1,2,3,4] y) (2*((1:Nat):Int)*(((5:Nat):Int)-2))=(len x:Nat):=λz=>by refine xA (Kz z) λU hl=>?_;subst U;rw[dh f1.symm,dh f1.symm,<-hl];exact(GO hs hd YC).1
 have v2:exact=true->Int.fdiv (D x y) ((1:Nat):Int)-Int.fdiv ((((5:Nat):Int)-2)*D x y+cG D [0,1,2,3,4] x-cG D [0,1,2,3,4] y) (2*((1:Nat):Int)*(((5:Nat):Int)-2))=(len y:Nat):=λz=>by refine xA (Kz z) λU hl=>?_;subst U;refine xA (GO hs hd YC) λq1 q2=>?_;rw[dh f1.symm,dh f1.symm,<-hl];show Int.fdiv (D x y) 1-Int.fdiv (3*D x y+cG D [x,y,c,r,s] x-cG D [x,y,c,r,s] y) 6=_;rw[q1,Int.fdiv_one,q2];exact Int.sub_eq_iff_eq_add'.mpr rfl
 have ht1:=Zp (jP v1 λz=>JO z _) (jP v2 λz=>JO z _);have g1:exact=true->gQ (eE 5 (bn D ls) 1 (aq 5 (bn D ls)).2.1 (aq 5 (bn D ls)).2.2):=λz=>jX (MW.trans (v1 z)) (h3 _);have g2:exact=true->gQ (iY 5 (bn D ls) 1 (aq 5 (bn D ls)).2.1 (aq 5 (bn D ls)).2.2):=λz=>jX (Py.trans (v2 z)) (h3 _);have nc:c≠J:=λe=>by subst e;exact absurd (QH) (QY.mp f3).1
 have nJ:=(QY.mp (QY.mp f3).2).1;have Zq:=YC.join (J:=J) hs nc (λe=>nJ (e▸QH)) λe=>nJ (e▸QA _ QH);have Km:=ph (x:=x) (y:=y) (J:=J) hs;have Lf:=uI (x:=x) (y:=y) (J:=J) hd;generalize b7 D x y J=D1 at JQ Zq Km Lf;have P1:(rest++[LT.node (.leaf x) (.leaf y) J]).Perm [.leaf c,.node (.leaf x) (.leaf y) J,.leaf r,.leaf s]:=
  (hR.append_right _).trans (List.Perm.cons _ (SL (l₁:=[LT.leaf r,LT.leaf s]) (l₂:=[_])))
 have WV:(rest++[LT.node (.leaf x) (.leaf y) J]).length=4:=P1.length_eq;refine tZ (tH (D:=D1) (cl:=[c,J,r,s]) (who:=who) (len:=len) Km WV dk (P1.map LT.ZZ) f3) λX2 Y2 Av S2=>?_;obtain⟨A,B,C,E4,Q,hA,hB⟩:=BU (exact:=exact) (x:=x) (y:=y) Km Lf Zq e1 hE (λz=>(Kz z).1) f3 S2.x S2.y S2.ne S2.least;have P2:=P1.trans Q.perm;have PL:[c,J,r,s].Perm [A.ZZ,B.ZZ,C.ZZ,E4.ZZ]:=Q.perm.map LT.ZZ;have YD:=PL.nodup_iff.mp f3;refine jd (A5 (S2.perm.symm.trans P2) YD hA hB) λU Mp Yh=>?_;subst U;subst Mp;have hK:K∉[X2.ZZ,Y2.ZZ,C.ZZ,E4.ZZ]:=λz=>f4 (PL.mem_iff.mpr z);have MP:=S2.mat K f4;have v1:exact=true->Int.fdiv ((((4:Nat):Int)-2)*D1 X2.ZZ Y2.ZZ+cG D1 [c,J,r,s] X2.ZZ-cG D1 [c,J,r,s] Y2.ZZ) (2*((2:Nat):Int)*(((4:Nat):Int)-2))=(len X2.ZZ:Nat):=λz=>by rw[dh PL,dh PL,<-(Kz z).2];exact(GN Km Lf (Q.qt z)).1
 have v2:exact=true->Int.fdiv (D1 X2.ZZ Y2.ZZ) ((2:Nat):Int)-Int.fdiv ((((4:Nat):Int)-2)*D1 X2.ZZ Y2.ZZ+cG D1 [c,J,r,s] X2.ZZ-cG D1 [c,J,r,s] Y2.ZZ) (2*((2:Nat):Int)*(((4:Nat):Int)-2))=(len Y2.ZZ:Nat):=λz=>by refine xA (GN Km Lf (Q.qt z)) λq1 q2=>?_;rw[dh PL,dh PL,<-(Kz z).2];show Int.fdiv (D1 X2.ZZ Y2.ZZ) 2-Int.fdiv (2*D1 X2.ZZ Y2.ZZ+cG D1 [X2.ZZ,Y2.ZZ,C.ZZ,E4.ZZ] X2.ZZ-cG D1 [X2.ZZ,Y2.ZZ,C.ZZ,E4.ZZ] Y2.ZZ) 8=_;rw[q1,q2];exact Int.sub_eq_iff_eq_add'.mpr rfl
 have ht2:=S2.trees K 2 exact (jP v1 λz=>JO z _) (jP v2 λz=>JO z _);have g3:exact=true->gQ (eE 4 (a9 5 (bn D ls)) 2 (aq 4 (a9 5 (bn D ls))).2.1 (aq 4 (a9 5 (bn D ls))).2.2):=λz=>by rw[JQ];exact jX ((S2.one 2).trans (v1 z)) (h3 _)
 have g4:exact=true->gQ (iY 4 (a9 5 (bn D ls)) 2 (aq 4 (a9 5 (bn D ls))).2.1 (aq 4 (a9 5 (bn D ls))).2.2):=λz=>by rw[JQ];exact jX ((S2.two 2).trans (v2 z)) (h3 _)
 have Kp:=ph (x:=X2.ZZ) (y:=Y2.ZZ) (J:=K) Km;have nz:C.ZZ≠K:=λe=>hK (by rw[<-e];simp);have nw:E4.ZZ≠K:=λe=>hK (by rw[<-e];simp);have Zr:exact=true->b7 D1 X2.ZZ Y2.ZZ K C.ZZ E4.ZZ=4*(l C.ZZ+l E4.ZZ)/\b7 D1 X2.ZZ Y2.ZZ K C.ZZ K=4*(l C.ZZ+l K)/\b7 D1 X2.ZZ Y2.ZZ K E4.ZZ K=4*(l E4.ZZ+l K):=λz=>Jz Km (Q.qt z) nz nw;obtain⟨t0,t1,rfl⟩:∃t0 t1,Av=[t0,t1]:=by have e:=Yh.length_eq;exact NJ e
 have P3:[t0.ZZ,t1.ZZ,K].Perm [C.ZZ,E4.ZZ,K]:=(Yh.map LT.ZZ).append_right [K];have nd3:[C.ZZ,E4.ZZ,K].Nodup:=by
  have:C.ZZ≠E4.ZZ:=λe=>by rw[e]at YD;simp at YD
  simp[this,nz,nw]
 refine ay Q.form λF hF hFe=>?_;refine⟨t0,t1,.node X2 Y2 K,?_⟩;generalize b7 D1 X2.ZZ Y2.ZZ K=D2 at MP Kp Zr;have WW:exact=true->∀k<3,bQ (bn D2 [t0.ZZ,t1.ZZ,K]) 4 k=(len (lb [t0.ZZ,t1.ZZ,K] k):Nat):=λz k hk=>by
  rw[<-(Kz z).2];refine yU rfl (P3.nodup_iff.mpr nd3) (λu hu v hv MY=>?_) k hk;refine jd (Zr z) λg1 g2 g3=>?_;have hu:=P3.mem_iff.mp hu;have hv:=P3.mem_iff.mp hv;simp only[Qw,Q3,or_false]at hu hv;rcases hu with rfl|rfl|rfl<;>rcases hv with rfl|rfl|rfl
  ·exact absurd rfl MY
  ·exact g1
  ·exact g2
  ·rw[Kp,g1,Sz (l _)]
  ·exact absurd rfl MY
  ·exact g3
  ·rw[Kp,g2,Sz (l _)]
  ·rw[Kp,g3,Sz (l _)]
  ·exact absurd rfl MY
 have MA:∀k<3,aY exact (bQ (bn D2 [t0.ZZ,t1.ZZ,K]) 4 k)=len (lb [t0.ZZ,t1.ZZ,K] k):=λk hk=>jP (λz=>WW z k hk) λz=>JO z _;have g5:exact=true->∀k<3,gQ (bQ (a9 4 (a9 5 (bn D ls))) 4 k):=λz k hk=>by rw[JQ,MP];exact jX (WW z k hk) (h3 _)
 refine⟨?_,λz=>⟨g1 z,g2 z,g3 z,g4 z,g5 z⟩,F,zb R.mem hF,by rw[<-hFe];exact Yh.append_right [.node X2 Y2 K]⟩;unfold bN;dsimp only;rw[JQ,ht1,MP,ht2];have h0:=MA 0 dk;have h1:=MA 1 dk;have h2:=MA 2 dk;show be.mk (NT.mark (t0.un who len) (aY exact (bQ (bn D2 [t0.ZZ,t1.ZZ,K]) 4 0))) (NT.mark (t1.un who len) (aY exact (bQ (bn D2 [t0.ZZ,t1.ZZ,K]) 4 1))) (NT.mark ((LT.node X2 Y2 K).un who len) (aY exact (bQ (bn D2 [t0.ZZ,t1.ZZ,K]) 4 2)))=_;rw[h0,h1,h2];show be.mk (NT.mark (t0.un who len) (len t0.ZZ)) (NT.mark (t1.un who len) (len t1.ZZ)) (NT.mark ((LT.node X2 Y2 K).un who len) (len (LT.node X2 Y2 K).ZZ))=_;rw[j9,j9,j9]
noncomputable def LT.part:LT->List Nat|.leaf x=>[x]|.node a b _=>a.part++b.part
noncomputable def LT.keys:LT->List (List Nat×Option Nat)
 |.leaf x=>[([x],some x)]
 |.node a b w=>a.keys++(b.keys++[(a.part++b.part,none),(a.part++b.part,some w)])
noncomputable def fJ(L:List LT):List (List Nat×Option Nat):=L.flatMap LT.keys++[(L.flatMap LT.part,none)]
noncomputable def i8(z:Nat)(p:List Nat):List Bool:=[0,1,2,3,4].map λk=>p.contains k != p.contains z
def kz(z:Nat)(L:List LT):List (List Bool×Option Nat):=(fJ L).map λq=>(i8 z q.1,q.2)
noncomputable def bY(two:Bool):List LT:=if two then[.leaf 0,.leaf 1,.node (.leaf 2) (.node (.leaf 3) (.leaf 4) 6) 5]else[.node (.leaf 0) (.leaf 1) 5,.leaf 2,.node (.leaf 3) (.leaf 4) 6]
noncomputable def DE{α:Type}[DecidableEq α](a b:List α):Bool:=a.all (λx=>b.contains x)&&b.all (λx=>a.contains x)
theorem AA{α:Type}[DecidableEq α]{a b:List α}(h:DE a b=true)(x:α):x∈a↔x∈b:=by exact xA (QI.mp h) λh1 h2=>⟨λg=>Rd.mp (QL.mp h1 x g),λg=>Rd.mp (QL.mp h2 x g)⟩
theorem xf:[0,1,2,3,4].all (λz=>jK.all λF=>[true,false].all λb=>DE (kz z F) (kz z (bY b))&&(F++bY b).all λt=>t.part.all λx=>decide (x<5))=true:=by decide +kernel
theorem mL(hz:z<5){F:List LT}(hF:F∈jK)(b:Bool):(∀q,q∈kz z F↔q∈kz z (bY b))/\∀t∈F++bY b,∀x∈t.part,x<5:=by have h:=QL.mp (QL.mp (QL.mp xf z (by simp;exact ED hz)) F hF) b (by cases b<;>simp);exact xA (QI.mp h) λh1 h2=>⟨AA h1,λt ht x hx=>QS (QL.mp (QL.mp h2 t ht) x hx)⟩
theorem uO{p q:List Nat}(h:∀x,x∈p↔x∈q):i8 z p=i8 z q:=by
 have e:∀x,p.contains x=q.contains x:=λx=>by rw[Bool.eq_iff_iff,Rd,Rd];exact h x
 unfold i8;rw[e z];exact Ra λk U=>by rw[e k]
theorem B6{L F:List LT}(h:L.Perm F)(q:List Bool×Option Nat):q∈kz z L↔q∈kz z F:=by have e:i8 z (L.flatMap LT.part)=i8 z (F.flatMap LT.part):=uO λx=>(h.flatMap_right LT.part).mem_iff;unfold kz fJ;rw[QU,QU,Qz,Qz,((h.flatMap_right LT.keys).map _).mem_iff];show _\/q∈[(i8 z (L.flatMap LT.part),none)]↔_;rw[e];rfl
noncomputable def ia:List (List Nat)->List Nat|[]=>[]|[a]=>a|a::l=>a++32::ia l
def fP(p:List Nat)(m:Nat):List Nat:=ia (((List.range 5).filter λk=>p.contains k != p.contains 0).map dp)++List.replicate m 58
def bT(t:be):List (List Nat):=(t.ZY.map λq=>fP q.1 q.2).filter λs=>!s.isEmpty
structure rE(who pos:Nat->Nat):Prop where
 wp:∀k<5,who (pos k)=k
 pw:∀x<5,pos (who x)=x
 lt:∀k<5,pos k<5
 lt':∀k<5,who k<5
section
variable{who pos:Nat->Nat}(W:rE who pos)
def fO(pos:Nat->Nat)(b:List Bool)(m:Nat):List Nat:=ia (((List.range 5).filter λk=>b.getD (pos k) false).map dp)++List.replicate m 58
include W
theorem iT{p:List Nat}(hp:∀x∈p,x<5)(hk:k<5):(p.map who).contains k=p.contains (pos k):=by
 rw[Bool.eq_iff_iff,Rd,Rd,QR];constructor
 ·rintro⟨x,hx,e⟩;rw[<-e,W.pw x (hp x hx)];exact hx
 ·exact λh=>⟨_,h,W.wp k hk⟩
theorem lV{p:List Nat}(hp:∀x∈p,x<5)(m:Nat):fP (p.map who) m=fO pos (i8 (pos 0) p) m:=by unfold fP fO;congr 2;congr 1;refine R1 λk hk=>?_;have hk:=Q1.mp hk;rw[iT W hp hk,iT W hp dk];unfold i8;rw[Qv,QX];have hz:=W.lt k hk;generalize pos k=z at hz ⊢;exact OE (P:=λz=>(p.contains z != p.contains (pos 0))=(Option.map (λk=>p.contains k != p.contains (pos 0)) [0,1,2,3,4][z]?).getD false) z hz rfl rfl rfl rfl rfl
end
def BF(who len:Nat->Nat)(q:List Nat×Option Nat):List (List Nat×Nat):=match q.2 with|none=>[(q.1.map who,0)]|some w=>k7 (q.1.map who) (len w)
theorem fN{who len:Nat->Nat}:∀t:LT,(t.Z5 who len).part=t.part.map who:=λt=>by
 induction t with
 |leaf x=>rfl
 |node a b w iha ihb=>show _++_=List.map who (_++_);rw[QU,<-iha,<-ihb]
theorem mF{who len:Nat->Nat}:∀t:LT,(t.Z5 who len).ZY=t.keys.flatMap (BF who len):=λt=>by
 induction t with
 |leaf x=>exact(QN _).symm
 |node a b w iha ihb=>show _++(_++(_++_,0)::k7 _ _)=List.flatMap _ (_++(_++[_,_]));rw[TO,TO,iha,ihb,fN,fN,<-QU];congr 2;show _::k7 _ _=[_]++(k7 _ _++[]);rw[QN];rfl
noncomputable def qY(who len:Nat->Nat)(a b c:LT):be:=⟨a.Z5 who len,b.Z5 who len,c.Z5 who len⟩
theorem kP{who len:Nat->Nat}(a b c:LT):(qY who len a b c).ZY=(fJ [a,b,c]).flatMap (BF who len):=by show(a.Z5 who len).ZY++((b.Z5 who len).ZY++((c.Z5 who len).ZY++[((a.Z5 who len).part++((b.Z5 who len).part++(c.Z5 who len).part),0)]))=(a.keys++(b.keys++(c.keys++[]))++[(a.part++(b.part++(c.part++[])),none)]).flatMap _;rw[QN,QN,mF,mF,mF,fN,fN,fN,<-QU,<-QU];simp only[TO,QQ];rfl
def vn(pos len:Nat->Nat)(q:List Bool×Option Nat)(s:List Nat):Prop:=match q.2 with|none=>s=fO pos q.1 0|some w=>len w≠0/\s=fO pos q.1 (len w)
theorem kJ{who pos len:Nat->Nat}(W:rE who pos){a b c:LT}(hp:∀t∈[a,b,c],∀x∈t.part,x<5)(hk:∀q∈fJ [a,b,c],∀x∈q.1,x<5)(s:List Nat):s∈bT (qY who len a b c)↔s≠[]/\∃q∈kz (pos 0) [a,b,c],vn pos len q s:=by
 unfold bT;rw[Q8,kP];have e:(!s.isEmpty)=true↔s≠[]:=by cases s<;>simp
 rw[e,and_comm];refine and_congr_right λU=>?_;constructor
 ·intro h
  refine ay (QR.mp h) λed hed U=>?_;subst U;refine ay (SA.mp hed) λq hq Le=>?_;refine⟨(i8 (pos 0) q.1,q.2),QR.mpr ⟨q,hq,rfl⟩,?_⟩;have hx:=hk q hq;unfold BF at Le;rcases h2:q.2 with _|w
  ·rw[h2]at Le;rw[QB.mp Le];exact lV W hx 0
  ·rw[h2]at Le
   dsimp only at Le ⊢;unfold k7 at Le;by_cases hw:len w=0
   ·rw[Rb hw]at Le;contradiction
   ·rw[Q5 hw]at Le;rw[QB.mp Le];exact⟨hw,lV W hx _⟩
 ·rintro⟨q',Yt,hv⟩
  refine ay (QR.mp Yt) λq hq U=>?_;subst U;have hx:=hk q hq;rw[QR];rcases h2:q.2 with _|w
  ·rw[h2]at hv;exact⟨(q.1.map who,0),SA.mpr ⟨q,hq,by unfold BF;rw[h2];exact List.mem_singleton_self _⟩,(lV W hx 0).trans hv.symm⟩
  ·rw[h2]at hv
   exact⟨(q.1.map who,len w),SA.mpr ⟨q,hq,by unfold BF k7;rw[h2];dsimp only;rw[Q5 hv.1];exact List.mem_singleton_self _⟩,(lV W hx _).trans hv.2.symm⟩
theorem xp:∀(t:LT)(q:List Nat×Option Nat),q∈t.keys->∀x∈q.1,x∈t.part:=λt=>by
 induction t with
 |leaf x=>intro q hq y hy;rw[QB.mp hq]at hy;exact hy
 |node a b w iha ihb=>
  intro q hq y hy;rcases Qz.mp hq with h|h
  ·exact QM _ (iha q h y hy)
  rcases Qz.mp h with h|h
  ·exact Qy _ (ihb q h y hy)
  simp only[Qw,Q3,or_false]at h;rcases h with rfl|rfl<;>exact hy
theorem ib{L:List LT}(h:∀t∈L,∀x∈t.part,x<5):∀q∈fJ L,∀x∈q.1,x<5:=by
 intro q hq x hx;rcases Qz.mp hq with g|g
 ·exact ay (SA.mp g) λt ht hk=>h t ht x (xp t q hk x hx)
 ·rw[QB.mp g]at hx
  exact ay (SA.mp hx) λt ht hk=>h t ht x hk
def bt(who len:Nat->Nat):Bool->be
 |true=>qY who len (.leaf 0) (.leaf 1) (.node (.leaf 2) (.node (.leaf 3) (.leaf 4) 6) 5)
 |false=>qY who len (.node (.leaf 0) (.leaf 1) 5) (.leaf 2) (.node (.leaf 3) (.leaf 4) 6)
theorem iJ{who pos len:Nat->Nat}(W:rE who pos)(b:Bool)(hp:∀t∈bY b,∀x∈t.part,x<5)(s:List Nat):s∈bT (bt who len b)↔s≠[]/\∃q∈kz (pos 0) (bY b),vn pos len q s:=by
 cases b with
 |true=>exact kJ W hp (ib hp) s
 |false=>exact kJ W hp (ib hp) s
section
variable{who pos len:Nat->Nat}{t0 t1 t2:LT}{F:List LT}
theorem nN(W:rE who pos)(hF:F∈jK)(hp:[t0,t1,t2].Perm F)(b:Bool)(s:List Nat):s∈bT (qY who len t0 t1 t2)↔s∈bT (bt who len b):=by refine xA (mL (W.lt 0 dk) hF b) λh1 h2=>?_;have hx:∀t∈[t0,t1,t2],∀x∈t.part,x<5:=λt ht=>h2 t (QM _ (hp.mem_iff.mp ht));rw[kJ W hx (ib hx),iJ W b λt ht=>h2 t (Qy _ ht)];exact and_congr_right λU=>exists_congr λq=>and_congr_left λU=>(B6 hp q).trans (h1 q)
theorem B2:∀(l:List (List Nat)),(∀a∈l,58∉a)->58∉ia l:=λl=>by
 induction l with
 |nil=>intro _ h;contradiction
 |cons a l ih=>
  intro h;rcases l with _|⟨b,l⟩
  ·exact h a QH
  ·intro g
   rcases Qz.mp (show 58∈a++32::ia (b::l)from g)with g|g
   ·exact h a QH g
   rcases Qw.mp g with g|g
   ·exact absurd g dk
   ·exact ih (λc hc=>h c (QA _ hc)) g
theorem Gr:∀k<5,58∉dp k:=by decide
theorem qT(pos:Nat->Nat)(b:List Bool)(m:Nat):58∈fO pos b m↔m≠0:=by
 unfold fO;have hj:58∉ia (((List.range 5).filter λk=>b.getD (pos k) false).map dp):=B2 _ λa ha=>by refine ay (QR.mp ha) λk hk U=>?_;subst U;exact Gr k (Q1.mp (Q8.mp hk).1)
 rw[Qz,List.mem_replicate];exact⟨λh=>(h.resolve_left hj).1,λh=>.inr ⟨h,rfl⟩⟩
theorem tE(W:rE who pos)(hF:F∈jK)(hp:[t0,t1,t2].Perm F)(b:Bool)(s:List Nat):s∈bT (qY who (λU=>0) t0 t1 t2)↔s∈bT (bt who len b)/\58∉s:=by
 rw[nN W hF hp b];refine xA (mL (W.lt 0 dk) hF b) λh1 h2=>?_;have hx:=λt ht=>h2 t (Qy _ ht);rw[iJ W b hx,iJ W b hx,and_assoc];refine and_congr_right λU=>⟨?_,?_⟩
 ·rintro⟨q,hq,hv⟩
  unfold vn at hv;rcases h:q.2 with _|w
  ·rw[h]at hv
   exact⟨⟨q,hq,by unfold vn;rw[h];exact hv⟩,by rw[hv,qT];exact λz=>z rfl⟩
  ·rw[h]at hv;exact absurd rfl hv.1
 ·rintro⟨⟨q,hq,hv⟩,hn⟩
  unfold vn at hv;rcases h:q.2 with _|w
  ·rw[h]at hv;exact⟨q,hq,by unfold vn;rw[h];exact hv⟩
  ·rw[h]at hv;rw[hv.2,qT]at hn;exact absurd hv.1 hn
end
noncomputable def gN(m i:Nat)(b:Bool):Nat:=if b then([97,98,99,100,101,103,104]:List Nat).getD i 0 else(([[65,66,67,68,69,71,72],[107,108,109,110,111,112,113]]:List (List Nat)).getD (m-1) []).getD i 0
noncomputable def wS(c i:Nat):Nat:=if c=0 then 97+i else if c=1 then 65+i else 107+i
noncomputable def hG(m:Nat)(b b':Bool):Nat:=if b=b' then 0 else m
noncomputable def tR:Nat->Nat->List (List Nat)
 |0,_=>[[]]
 |n+1,0=>(tR n 0).map (0::·)
 |n+1,k+1=>(tR n (k+1)).map (0::·)++((tR n k).map (1::·)++(tR n k).map (2::·))
noncomputable def yy(n:Nat):List Nat:=(List.range n).map λi=>97+i
def Bt(v:List Nat):List Nat:=v.zipIdx.map λq=>wS q.1 q.2
def DJ(v:List Nat):Bool:=
 let A:=yy v.length
 let B:=Bt v
 let w:Nat:=v.sum
 js lE A B 8==(w:Int)&&js lE A B w==(w:Int)&&js lE A B ((w:Int)-1)==(w:Int)&&(let x:=js lE A B ((w:Int)-2);x==(w:Int)||(x==(w:Int)-1&&decide (0<w)))
theorem C5:(List.range 8).all (λn=>(tR n 4).all DJ)=true:=by decide +kernel
def Cq(i j m m':Nat)(b c c':Bool):Bool:=
 decide (gN m i b=gN m' j c'↔97+i=wS (hG m' c c') j)&&iX (gN m' j c') (gN m i b)==lE (wS (hG m' c c') j) (97+i)&&iX (gN m i b) (gN m' j c')==lE (97+i) (wS (hG m' c c') j)
theorem EF:(List.range 7).all (λi=>(List.range 7).all λj=>[1,2].all λm=>[1,2].all λm'=>[true,false].all λb=>[true,false].all λc=>[true,false].all λc'=>(decide (i=j)&&(b != c||m != m'))||Cq i j m m' b c c')=true:=by decide +kernel
theorem GY{i j m m':Nat}(hi:i<7)(hj:j<7)(hm:m∈[1,2])(XS:m'∈[1,2])(b c c':Bool)(h:i=j->b=c/\m=m'):Cq i j m m' b c c'=true:=by
 have hb:∀b:Bool,b∈[true,false]:=λb=>by cases b<;>decide
 have a:=QL.mp (QL.mp (QL.mp (QL.mp (QL.mp (QL.mp (QL.mp EF i (Q1.mpr hi)) j (Q1.mpr hj)) m hm) m' XS) b (hb b)) c (hb c)) c' (hb c');rw[Bool.or_eq_true]at a;rcases a with a|a
 ·rw[R9,TI]at a
  refine xA a λU=>?_;subst U;intro a;refine xA (h rfl) λU Mp=>?_;subst U;subst Mp;simp at a
 ·exact a
noncomputable abbrev Ed:=List Nat×Nat
def au(E:List Ed)(i:Nat):List Nat:=E.zipIdx.map λq=>gN q.1.2 q.2 (q.1.1.contains i)
noncomputable def k6(E:List Ed)(k:Nat):Ed:=E.getD k ([],1)
theorem kS{α β:Type}{l:List α}{d:α}{f:α->Nat->β}:l.zipIdx.map (λq=>f q.1 q.2)=(List.range l.length).map λk=>f (l.getD k d) k:=by
 refine List.ext_getElem (by rw[Qs,Qs,Tu,RI]) λi h1 h2=>?_;have hi:i<l.length:=by rw[Qs,RI]at h2;exact h2
 rw[List.getElem_map,List.getElem_map,List.getElem_zipIdx,SN,Qv,QE hi,RP];rfl
def f9(E:List Ed)(i j:Nat):List Nat:=E.map λq=>hG q.2 (q.1.contains i) (q.1.contains j)
theorem qi{E:List Ed}(hm:∀q∈E,q.2∈[1,2])(hk:k<E.length):(k6 E k).2∈[1,2]:=by unfold k6;rw[Qv,QE hk];exact hm _ (RH hk)
theorem iI{E:List Ed}(hl:E.length<=7)(hm:∀q∈E,q.2∈[1,2])(i j:Nat)(k:Int):lev (au E i) (au E j) k=js lE (yy (f9 E i j).length) (Bt (f9 E i j)) k:=by
 have e1:∀i,au E i=(List.range E.length).map λk=>gN (k6 E k).2 k ((k6 E k).1.contains i):=λi=>kS (f:=λ(q:Ed)k=>gN q.2 k (q.1.contains i));have e2:Bt (f9 E i j)=(List.range E.length).map λk=>wS (hG (k6 E k).2 ((k6 E k).1.contains i) ((k6 E k).1.contains j)) k:=by unfold Bt f9;rw[List.zipIdx_map,QZ];exact kS (l:=E) (d:=([],1)) (f:=λ(q:Ed)k=>wS (hG q.2 (q.1.contains i) (q.1.contains j)) k)
 have e3:(f9 E i j).length=E.length:=Qs _;rw[Du,e1,e1,e2,e3];have key:∀a∈List.range E.length,∀b∈List.range E.length,Cq a b (k6 E a).2 (k6 E b).2 ((k6 E a).1.contains i) ((k6 E b).1.contains i) ((k6 E b).1.contains j)=true:=λa ha b hb=>
  GY (RS (Q1.mp ha) hl) (RS (Q1.mp hb) hl) (qi hm (Q1.mp ha)) (qi hm (Q1.mp hb)) _ _ _ λe=>by subst e;exact⟨rfl,rfl⟩
 refine v4 (λa ha b hb=>?_) (λa ha b hb=>?_) (λa ha b hb=>?_) k <;>
  (have:=key a ha b hb;unfold Cq at this;simp only[R9,TI,beq_iff_eq]at this)
 ·exact this.1.1
 ·exact this.1.2
 ·exact this.2
theorem Aa:∀(n k:Nat)(v:List Nat),v.length=n->(∀x∈v,x<3)->v.countP (λx=>x != 0)<=k->v∈tR n k:=λn=>by
 induction n with
 |zero=>intro k v h _ _;rw[Ri.mp h];exact List.mem_singleton_self _
 |succ n ih=>
  intro k v h hx hc;refine vu (R4 h) λx v U=>?_;subst U
  ·have hv:v.length=n:=Nat.succ.inj h
   have KN:=λy hy=>hx y (QA _ hy);rw[List.countP_cons]at hc;have hz:=hx x QH;revert hc;refine IT (P:=λx=>(v.countP (λx=>x != 0)+if(x != 0)=true then 1 else 0)<=k->x::v∈tR (n+1) k) x hz ?_ ?_ ?_<;>intro hc
   ·have:=ih k v hv KN (by simpa using hc)
    rcases k with _|k
    ·exact QR.mpr ⟨v,this,rfl⟩
    ·exact QM _ (QR.mpr ⟨v,this,rfl⟩)
   ·rcases k with _|k
    ·simp at hc
    ·exact Qy _ (QM _ (QR.mpr ⟨v,ih k v hv KN (by simpa using hc),rfl⟩))
   ·rcases k with _|k
    ·simp at hc
    ·exact Qy _ (Qy _ (QR.mpr ⟨v,ih k v hv KN (by simpa using hc),rfl⟩))
noncomputable def aG(ed:List Ed):List Ed:=ed.filter λq=>decide (0<q.2)
noncomputable def ba(ed:List Ed)(i j:Nat):Nat:=((ed.filter λq=>q.1.contains i != q.1.contains j).map (·.2)).sum
theorem yI(i j:Nat):∀ed:List Ed,(f9 (aG ed) i j).sum=ba ed i j:=λed=>by
 induction ed with
 |nil=>rfl
 |cons q ed ih=>
  unfold aG ba f9 at *;obtain⟨p,m⟩:=q;rw[Sc,Sc];rcases hb:p.contains i != p.contains j with _|_
  ·have e:p.contains i=p.contains j:=by cases h1:p.contains i<;>cases h2:p.contains j<;>rw[h1,h2]at hb<;>first|rfl|exact absurd hb dk
   by_cases hm:0<m
   ·rw[Rb (Q7 hm),Q5 Rc,QW,Ry,ih]
    unfold hG;rw[Rb e,RP]
   ·rw[Q5 (by rw[Q4 hm];exact Rc),Q5 Rc,ih]
  ·have e:p.contains i≠p.contains j:=bne_iff_ne.mp hb
   by_cases hm:0<m
   ·rw[Rb (Q7 hm),Rb rfl,QW,Ry,ih,QW,Ry]
    unfold hG;rw[Q5 e]
   ·rw[Q5 (by rw[Q4 hm];exact Rc),Rb rfl,ih,QW,Ry,Nat.eq_zero_of_not_pos hm,RP]
structure d3(ed:List Ed):Prop where
 len:(aG ed).length<=7
 two:2<=(aG ed).length
 m:∀q∈ed,q.2<3
 four:∀i<5,∀j<5,(f9 (aG ed) i j).countP (λx=>x != 0)<=4
theorem d3.pm{ed:List Ed}(h:d3 ed):∀q∈aG ed,q.2∈[1,2]:=λq hq=>by
 refine xA (Q8.mp hq) λh1 h2=>?_
 have:=h.m q h1
 have:=QS h2
 simp;lia
theorem v5{ed:List Ed}(h:d3 ed)(hi:i<5)(hj:j<5):lev (au (aG ed) i) (au (aG ed) j) 8=(ba ed i j:Nat)/\lev (au (aG ed) i) (au (aG ed) j) (ba ed i j:Nat)=(ba ed i j:Nat)/\lev (au (aG ed) i) (au (aG ed) j) ((ba ed i j:Nat)-1:Int)=(ba ed i j:Nat)/\
  ((ba ed i j:Nat):Int)-1<=lev (au (aG ed) i) (au (aG ed) j) ((ba ed i j:Nat)-2:Int)/\lev (au (aG ed) i) (au (aG ed) j) ((ba ed i j:Nat)-2:Int)<=(ba ed i j:Nat):=by
 have hc:f9 (aG ed) i j∈tR (f9 (aG ed) i j).length 4:=Aa _ _ _ rfl (λx hx=>by
  refine ay (QR.mp hx) λq hq U=>?_;subst U
  have:=h.pm q hq
  unfold hG;simp at this;split<;>lia) (h.four i hi j hj)
 have JF:(f9 (aG ed) i j).length<8:=by unfold f9;rw[Qs];exact Nat.lt_succ_of_le h.len
 have a:=QL.mp (QL.mp C5 _ (Q1.mpr JF)) _ hc;rw[iI h.len h.pm,iI h.len h.pm,iI h.len h.pm,iI h.len h.pm];unfold DJ at a;rw[yI]at a;refine xA (QI.mp a) λa a4=>?_;refine xA (QI.mp a) λa a3=>?_;refine xA (QI.mp a) λa1 a2=>?_;refine⟨beq_iff_eq.mp a1,beq_iff_eq.mp a2,beq_iff_eq.mp a3,?_⟩;rcases Bool.or_eq_true_iff.mp a4 with a4|a4
 ·rw[beq_iff_eq.mp a4];lia
 ·refine xA (QI.mp a4) λa4 U=>?_
  rw[beq_iff_eq.mp a4];lia
noncomputable def KW(K:List (List Nat×Option Nat)):List (List Nat×Nat):=K.filterMap λq=>q.2.map λw=>(q.1,w)
def yg(len:Nat->Nat)(K:List (List Nat×Option Nat))(x y:Nat):Nat:=((KW K).map λr=>if(r.1.contains x != r.1.contains y)=true then len r.2 else 0).sum
section
variable{who pos len:Nat->Nat}
theorem As:∀K:List (List Nat×Option Nat),aG (K.flatMap (BF who len))=((KW K).filter λr=>decide (0<len r.2)).map λr=>(r.1.map who,len r.2):=λK=>by
 induction K with
 |nil=>rfl
 |cons q K ih=>
  obtain⟨p,o⟩:=q;unfold aG KW at *;rw[List.flatMap_cons,SP,ih,List.filterMap_cons];rcases o with _|w
  ·rfl
  ·show List.filter _ (k7 (p.map who) (len w))++_=List.map _ (List.filter _ ((p,w)::_))
   unfold k7;by_cases h:len w=0
   ·rw[Rb h,Sc,Q5 (by simp[h])];rfl
   ·have h0:=Nat.pos_of_ne_zero h
    rw[Q5 h,Sc,Sc,Rb (by simpa using h0),Rb (by simpa using h0)];rfl
theorem Bb(W:rE who pos)(hi:i<5)(hj:j<5):∀K:List (List Nat×Option Nat),(∀q∈K,∀x∈q.1,x<5)->ba (K.flatMap (BF who len)) i j=yg len K (pos i) (pos j):=λK=>by
 induction K with
 |nil=>exact λU=>rfl
 |cons q K ih=>
  intro h;obtain⟨p,o⟩:=q;have hp:=h (p,o) QH;have ih:=ih λq hq=>h q (QA _ hq);unfold ba yg KW at *;rw[List.flatMap_cons,SP,QU,List.sum_append,ih,List.filterMap_cons];rcases o with _|w
  ·show(List.map _ (List.filter _ [(p.map who,0)])).sum+_=_
   rw[Sc];split
   ·show 0+0+_=_;rw[RP];exact RP _
   ·exact RP _
  ·show(List.map _ (List.filter _ (k7 (p.map who) (len w)))).sum+_=(List.map _ ((p,w)::_)).sum
   rw[QW,Ry];congr 1;unfold k7;by_cases hl:len w=0
   ·rw[Rb hl,hl]
    split<;>rfl
   ·rw[Q5 hl,Sc,iT W hp hi,iT W hp hj]
    split
    ·exact Nat.add_zero _
    ·rfl
end
def qz(b:Bool):List (List Nat×Nat):=KW (fJ (bY b))
theorem Es:[true,false].all (λb=>(qz b).length==7&&((qz b).map (·.2)).contains 5&&((qz b).map (·.2)).contains 6&&[0,1,2,3,4].all (λx=>[0,1,2,3,4].all λy=>decide ((qz b).countP (λr=>r.1.contains x != r.1.contains y)<=4))&&(bY b).all λt=>t.part.all λx=>decide (x<5))=true:=by decide +kernel
structure IO(b:Bool):Prop where
 len:(qz b).length=7
 c5:5∈(qz b).map (·.2)
 c6:6∈(qz b).map (·.2)
 four:∀x<5,∀y<5,(qz b).countP (λr=>r.1.contains x != r.1.contains y)<=4
 part:∀t∈bY b,∀x∈t.part,x<5
theorem vW(b:Bool):IO b:=by
 have a:=QL.mp Es b (by cases b<;>simp);refine xA (QI.mp a) λa a5=>?_;refine xA (QI.mp a) λa a4=>?_;refine xA (QI.mp a) λa a3=>?_;refine xA (QI.mp a) λa1 a2=>?_;have r5:∀x<5,x∈[0,1,2,3,4]:=by decide
 exact⟨beq_iff_eq.mp a1,Rd.mp a2,Rd.mp a3,λx hx y hy=>QS (QL.mp (QL.mp a4 x (r5 x hx)) y (r5 y hy)),λt ht x hx=>QS (QL.mp (QL.mp a5 t ht) x hx)⟩
structure wO(len:Nat->Nat):Prop where
 lt:∀w,len w<3
 h5:0<len 5
 h6:0<len 6
section
variable{who pos len:Nat->Nat}{b:Bool}
theorem kZ:(bt who len b).ZY=(fJ (bY b)).flatMap (BF who len):=by
 cases b with
 |true=>exact kP _ _ _
 |false=>exact kP _ _ _
theorem wX(W:rE who pos)(hi:i<5)(hj:j<5):ba (bt who len b).ZY i j=yg len (fJ (bY b)) (pos i) (pos j):=by rw[kZ];exact Bb W hi hj _ (ib (vW b).part)
theorem yL(W:rE who pos)(L:wO len):d3 (bt who len b).ZY:=by
 obtain⟨k1,k2,k3,k4,k5⟩:=vW b;have hK:=ib k5;rw[kZ];have e:=As (who:=who) (len:=len) (fJ (bY b));have Zs:∀r∈qz b,∀x∈r.1,x<5:=λr hr x hx=>by
  refine ay (Rn.mp hr) λq hq Le=>?_;rcases h:q.2 with _|w
  ·rw[h]at Le;contradiction
  ·rw[h]at Le;obtain rfl:=QG Le;exact hK q hq x hx
 refine⟨?_,?_,?_,?_⟩
 ·rw[e,Qs]
  exact k1▸Rp _ _
 ·rw[e,Qs]
  refine ay (QR.mp k2) λr hr e5=>?_;refine ay (QR.mp k3) λr' hr' e6=>?_;refine A4 (x:=r) (y:=r') (Q8.mpr ⟨hr,Q7 (by rw[e5];exact L.h5)⟩) (Q8.mpr ⟨hr',Q7 (by rw[e6];exact L.h6)⟩) λz=>?_;rw[z,e6]at e5;exact absurd e5 dk
 ·intro q hq
  refine ay (SA.mp hq) λk U hk=>?_;unfold BF at hk;rcases h:k.2 with _|w
  ·rw[h]at hk;rw[QB.mp hk];exact Tt 2
  ·rw[h]at hk
   dsimp only at hk;unfold k7 at hk;by_cases hw:len w=0
   ·rw[Rb hw]at hk;contradiction
   ·rw[Q5 hw]at hk;rw[QB.mp hk];exact L.lt w
 ·intro i hi j hj
  unfold f9;rw[e,QZ,List.countP_map];refine QC (List.Sublist.countP_le List.filter_sublist) (QC (List.countP_mono_left λr hr hc=>?_) (k4 (pos i) (W.lt i hi) (pos j) (W.lt j hj)));have hc:(hG (len r.2) ((r.1.map who).contains i) ((r.1.map who).contains j) != 0)=true:=hc;rw[iT W (Zs r hr) hi,iT W (Zs r hr) hj]at hc;unfold hG at hc;by_cases z:r.1.contains (pos i)=r.1.contains (pos j)
  ·rw[Rb z]at hc;exact absurd hc dk
  ·exact bne_iff_ne.mpr z
def yf(len:Nat->Nat)(b:Bool)(x y:Nat):Int:=(yg len (fJ (bY b)) x y:Nat)
def pH(K:List (List Nat×Option Nat))(x y:Nat):List Nat:=((KW K).filter λr=>r.1.contains x != r.1.contains y).map (·.2)
theorem Bd(x y:Nat)(K:List (List Nat×Option Nat)):yg len K x y=((pH K x y).map len).sum:=by
 unfold yg pH;induction KW K with
 |nil=>rfl
 |cons r l ih=>
  rw[QW,Ry,ih,Sc];cases (r.1.contains x != r.1.contains y)
  ·exact RP _
  ·rfl
theorem vt(b:Bool){x y:Nat}{l:List Nat}(h:∀b,(pH (fJ (bY b)) x y).isPerm l=true):yf len b x y=((l.map len).sum:Nat):=by unfold yf;rw[Bd,((List.isPerm_iff.mp (h b)).map len).sum_nat]
theorem ez{a b:Int}(h:b=a):a-0<=b/\b<=a:=by subst h;rw[Int.sub_zero];exact⟨Tw _,Tw _⟩
theorem IB(b:Bool){x y u v:Nat}(h:∀b,(pH (fJ (bY b)) x y).isPerm [u,v]=true):yf len b x y=(len u:Int)+len v:=(vt b h).trans (Sr _ _)
theorem C7(b:Bool){x y u v w:Nat}(h:∀b,(pH (fJ (bY b)) x y).isPerm [u,v,w]=true):yf len b x y=(len u:Int)+len v+len w:=(vt b h).trans (by rw[Int.add_assoc,<-Sr,<-Sr];rfl)
theorem C8(b:Bool){x y u v w z:Nat}(h:∀b,(pH (fJ (bY b)) x y).isPerm [u,v,w,z]=true):yf len b x y=(len u:Int)+len v+len w+len z:=(vt b h).trans (by rw[Int.add_assoc,Int.add_assoc,<-Sr,<-Sr,<-Sr];rfl)
theorem Ba:fe (yf len b) 0 1 2 3 4 (len 5) (len 6) 0 (λx=>(len x:Int)):=
 ⟨ez (IB b dk),ez (C7 b dk),ez (C7 b dk),ez (C8 b dk),ez (C8 b dk),ez (C8 b dk),ez (C8 b dk),ez (C7 b dk),ez (C7 b dk),ez (IB b dk)⟩
theorem fe.near{D D':Nat->Nat->Int}{n a ε:Int}{l:Nat->Int}(h:fe D 0 1 2 3 4 n a 0 l)(hd:∀x<5,∀y<5,x≠y->D x y-ε<=D' x y/\D' x y<=D x y):fe D' 0 1 2 3 4 n a ε l:=by
 have f:∀{x y:Nat}{d:Int},x<5->y<5->x≠y->d-0<=D x y/\D x y<=d->d-ε<=D' x y/\D' x y<=d:=λ{x y d}hx hy Kj g=>by refine xA (hd x hx y hy Kj) λh1 h2=>?_;lia
 exact⟨f dk dk dk h.pq,f dk dk dk h.pc,f dk dk dk h.qc,f dk dk dk h.P0,f dk dk dk h.ps,f dk dk dk h.qr,f dk dk dk h.qs,f dk dk dk h.cr,f dk dk dk h.cs,f dk dk dk h.rs⟩
end
noncomputable def d9(S:Nat->Nat->Int):List (List Int):=(List.range 5).map λi=>(List.range 5).map λj=>S i j
section
variable{who pos len:Nat->Nat}{b:Bool}
theorem At(W:rE who pos):((List.range 5).map pos).Perm [0,1,2,3,4]:=by
 refine(List.perm_ext_iff_of_nodup ?_ dk).mpr λx=>?_
 ·unfold List.Nodup
  rw[List.pairwise_map];refine List.Pairwise.imp_of_mem (λ{x y}hx hy JO e=>JO ?_) (List.nodup_range (n:=5));rw[<-W.wp x (Q1.mp hx),e,W.wp y (Q1.mp hy)]
 ·rw[QR]
  have r5:x∈[0,1,2,3,4]↔x<5:=by simp;lia
  rw[r5];constructor
  ·rintro⟨k,hk,rfl⟩;exact W.lt k (Q1.mp hk)
  ·exact λh=>⟨who x,Q1.mpr (W.lt' x h),W.pw x h⟩
theorem EZ(hk:k<5):lb ((List.range 5).map pos) k=pos k:=by unfold lb;rw[Qv,QX,RX hk];rfl
theorem z9(W:rE who pos)(S:Nat->Nat->Int):d9 S=bn (λx y=>S (who x) (who y)) ((List.range 5).map pos):=by unfold d9 bn;rw[QZ];refine Ra λi hi=>?_;show _=List.map _ _;rw[QZ];refine Ra λj hj=>?_;show _=S (who (pos i)) (who (pos j));rw[W.wp i (Q1.mp hi),W.wp j (Q1.mp hj)]
theorem ik(W:rE who pos)(L:wO len){S:Nat->Nat->Int}{len':Nat->Nat}(hs:∀i j,S i j=S j i)(hd:∀i,S i i=0)(hw:∀i<5,∀j<5,i≠j->(ba (bt who len b).ZY i j:Nat)-ε<=S i j/\S i j<=(ba (bt who len b).ZY i j:Nat))(E:uf (len 5) (len 6) ε)(e1:ε<=1)(Kz:exact=true->ε=0/\len'=len)(JO:exact=false->len'=λU=>0)(h3:∀x,len' x<3):
  ∃t0 t1 t2 F,bN (d9 S) exact=qY who len' t0 t1 t2/\(exact=true->gB (d9 S))/\F∈jK/\[t0,t1,t2].Perm F:=by
 rw[z9 W];obtain⟨t0,t1,t2,h1,hm,F,h2,h3⟩:=tX (D:=λx y=>S (who x) (who y)) (ls:=(List.range 5).map pos) (who:=who) (len:=len') (l:=λx=>(len x:Int)) (ε:=ε) (exact:=exact) (λx y=>hs _ _) (λx=>hd _) (At W) (λk hk=>by rw[EZ hk];exact W.wp k hk)
  (Ba (b:=b) |>.near λx hx y hy Kj=>by
   have:=hw (who x) (W.lt' x hx) (who y) (W.lt' y hy) λe=>Kj (by rw[<-W.pw x hx,e,W.pw y hy])
   rw[wX W (W.lt' x hx) (W.lt' y hy),W.pw x hx,W.pw y hy]at this;exact this) E e1 (λz=>⟨(Kz z).1,λx=>by rw[(Kz z).2]⟩) (λz x=>by rw[JO z]) h3
 exact⟨t0,t1,t2,F,h1,hm,h2,h3⟩
theorem xQ(W:rE who pos)(L:wO len){S:Nat->Nat->Int}(hs:∀i j,S i j=S j i)(hd:∀i,S i i=0)(hw:∀i<5,∀j<5,i≠j->S i j=(ba (bt who len b).ZY i j:Nat))(s:List Nat):
  s∈bT (bN (d9 S) true)↔s∈bT (bt who len b):=by
 obtain⟨t0,t1,t2,F,h1,_,h2,h3⟩:=ik (b:=b) (exact:=true) (len':=len) (ε:=0) W L hs hd (λi hi j hj Kl=>by rw[hw i hi j hj Kl];exact ez rfl) ⟨Tw 0,by have:=L.h5;exact Ub.mp this,by have:=L.h6;exact Ub.mp this⟩ dk (λU=>⟨rfl,rfl⟩) nofun L.lt;rw[h1];exact nN W h2 h3 b s
theorem ti(W:rE who pos)(L:wO len){S:Nat->Nat->Int}(hs:∀i j,S i j=S j i)(hd:∀i,S i i=0)(hw:∀i<5,∀j<5,i≠j->S i j=(ba (bt who len b).ZY i j:Nat)):gB (d9 S):=by obtain⟨t0,t1,t2,F,h1,hm,h2,h3⟩:=ik (b:=b) (exact:=true) (len':=len) (ε:=0) W L hs hd (λi hi j hj Kl=>by rw[hw i hi j hj Kl];exact ez rfl) ⟨Tw 0,by have:=L.h5;exact Ub.mp this,by have:=L.h6;exact Ub.mp this⟩ dk (λU=>⟨rfl,rfl⟩) nofun L.lt;exact hm rfl
theorem tj(W:rE who pos)(L:wO len){S:Nat->Nat->Int}(hs:∀i j,S i j=S j i)(hd:∀i,S i i=0)(hw:∀i<5,∀j<5,i≠j->(ba (bt who len b).ZY i j:Nat)-ε<=S i j/\S i j<=(ba (bt who len b).ZY i j:Nat))(E:uf (len 5) (len 6) ε)(e1:ε<=1)(s:List Nat):s∈bT (bN (d9 S) false)↔s∈bT (bt who len b)/\58∉s:=by
 obtain⟨t0,t1,t2,F,h1,_,h2,h3⟩:=ik (b:=b) (exact:=false) (len':=λU=>0) W L hs hd hw E e1 nofun (Z 2) (λU=>by decide);rw[h1];exact tE W h2 h3 b s
end
theorem Cp:(List.range 7).all (λi=>(List.range 7).all λj=>[1,2].all λm=>[1,2].all λm'=>[true,false].all λb=>[true,false].all λc=>(decide (i=j)&&(b != c||m != m'))||(decide (gN m i b=gN m' j c↔97+i=97+j)&&iX (gN m i b) (gN m' j c)==lE (97+i) (97+j)))=true:=by decide +kernel
theorem A3:(List.range 8).all (λn=>decide (n<2)||(js lE (yy n) (((List.range n).drop 1++(List.range n).take 1).map λi=>97+i) 8==4&&js lE (yy n) (((List.range n).drop 1++(List.range n).take 1).map λi=>97+i) 0==1))=true:=by decide +kernel
theorem zU{ed:List Ed}(h:d3 ed)(i:Nat):lev (au (aG ed) i) ((au (aG ed) i).drop 1++(au (aG ed) i).take 1) 8=4/\lev (au (aG ed) i) ((au (aG ed) i).drop 1++(au (aG ed) i).take 1) 0=1:=by
 have hm:=h.pm;have hl:=h.len;have h2:=h.two;generalize aG ed=E at hm hl h2;have e1:au E i=(List.range E.length).map λk=>gN (k6 E k).2 k ((k6 E k).1.contains i):=kS (f:=λ(q:Ed)k=>gN q.2 k (q.1.contains i));have key:∀a∈List.range E.length,∀b∈List.range E.length,(gN (k6 E a).2 a ((k6 E a).1.contains i)=gN (k6 E b).2 b ((k6 E b).1.contains i)↔97+a=97+b)/\iX (gN (k6 E a).2 a ((k6 E a).1.contains i)) (gN (k6 E b).2 b ((k6 E b).1.contains i))=lE (97+a) (97+b):=λa ha b hb=>by
  have hb':∀b:Bool,b∈[true,false]:=λb=>by cases b<;>decide
  have r7:∀{a},a∈List.range E.length->a∈List.range 7:=λha=>Q1.mpr (RS (Q1.mp ha) hl);have z:=QL.mp (QL.mp (QL.mp (QL.mp (QL.mp (QL.mp Cp a (r7 ha)) b (r7 hb)) (k6 E a).2 (qi hm (Q1.mp ha))) (k6 E b).2 (qi hm (Q1.mp hb))) ((k6 E a).1.contains i) (hb' _)) ((k6 E b).1.contains i) (hb' _);rcases Bool.or_eq_true_iff.mp z with z|z
  ·refine xA (QI.mp z) λz1 z2=>?_
   have z1:=QS z1;subst z1;simp at z2
  ·exact xA (QI.mp z) λz1 z2=>⟨QS z1,beq_iff_eq.mp z2⟩
 have hB:∀{b},b∈(List.range E.length).drop 1++(List.range E.length).take 1->b∈List.range E.length:=λhb=>by
  rcases Qz.mp hb with g|g
  ·exact Su g
  ·exact RQ g
 have t:=QL.mp A3 E.length (Q1.mpr (Nat.lt_succ_of_le hl));rw[Q4 (Sg.mpr h2),Bool.false_or]at t;refine xA (QI.mp t) λt1 t2=>?_;have e3:∀k,lev (au E i) ((au E i).drop 1++(au E i).take 1) k=js lE (yy E.length) (((List.range E.length).drop 1++(List.range E.length).take 1).map λi=>97+i) k:=λk=>by rw[Du,e1,<-List.map_drop,<-List.map_take,<-QU];exact v4 (λa ha b hb=>(key a ha b (hB hb)).1) (λa ha b hb=>(key b (hB hb) a ha).2) (λa ha b hb=>(key a ha b (hB hb)).2) k
 rw[e3,e3];exact⟨beq_iff_eq.mp t1,beq_iff_eq.mp t2⟩
section
set_option backward.match.sparseCases true
structure n8(h:Heap)(f:Addr)(sc:Scope)(body:List Stmt)(fd:FuncData):Prop where
 get:∃o,h.get? f=some o/\o.data=.func fd
 code:h.CodeRec fd.code fd.qualname
 body:fd.body=.stmts body
 scope:fd.scope=sc
 clo:fd.closure=[]
 glob:fd.globals=mainGlobals
 blt:fd.builtins=builtinsNs
theorem n8.keeps{fd:FuncData}(x:n8 h f sc body fd)(k:∀b o,h.get? b=some o->h'.get? b=some o):n8 h' f sc body fd:=by exact ay x.get λo e d=>⟨⟨o,k _ _ e,d⟩,x.code.keeps k,x.body,x.scope,x.clo,x.glob,x.blt⟩
noncomputable abbrev wP:=List (Str×Addr×Mu)
noncomputable def wP.as(gs:wP):List Addr:=gs.map (·.2.1)
noncomputable def wP.slots(gs:wP):St:=gs.map λp=>.mu p.2.1 p.2.2
noncomputable def wP.names(gs:wP):List Str:=gs.map (·.1)
noncomputable def wP.map(gs:wP):List (Str×Value):=List.map (λp=>(p.1,Value.ref p.2.1)) gs
theorem xD{α:Type}{l:List (Str×α)}{p:Str×α}(nd:(l.map (·.1)).Nodup)(h:p∈l):l.lookup p.1=some p.2:=cm nd h
theorem uM{α:Type}:∀{l:List (Str×α)}{y:Str},(∀p∈l,p.1≠y)->l.lookup y=none:=by
 intro X_;induction X_ with
 |nil=>intro _ _;exact rfl
 |cons q l IH=>intro y h;rw[Sx,beq_eq_false_iff_ne.mpr (λe=>h q (.head _) e.symm)];exact IH λp hp=>h p (.tail _ hp)
theorem AI(ys:List Str):∀gs:wP,(∀p∈gs,m p.1=some (.ref p.2.1))->(∀p∈gs,iU w (less h ms) h p.2.1 p.2.2)->
  ar w h ms m (gs.names++ys) (gs.slots++List.replicate ys.length .no) gs.as:=by
 intro X_;induction X_ with
 |nil=>intro _ _;exact tG ys
 |cons p gs IH=>intro h1 h2;exact⟨⟨rfl,h1 p (.head _)⟩,h2 p (.head _),IH (λq hq=>h1 q (.tail _ hq)) λq hq=>h2 q (.tail _ hq)⟩
theorem vd{ms as:List Addr}(xs:List Str)(r:aX (less h ms) ds vs)(hl:xs.length=vs.length)(hm:∀p∈xs.zip vs,m p.1=some p.2)(H:ar w h ms m ys Wj as):ar w h ms m (xs++ys) (ds.map .val++Wj) as:=by
 induction xs generalizing ds vs with
 |nil=>
  cases r with
  |nil=>exact H
  |cons=>contradiction
 |cons x xs ih=>
  cases r with
  |nil=>contradiction
  |cons a r=>exact⟨⟨_,hm (x,_) (.head _),a⟩,ih r (Nat.succ.inj hl) λp hp=>hm p (.tail _ hp)⟩
theorem uD{as:List Addr}(k:∀b o,h.get? b=some o->h'.get? b=some o):∀b o,(hideAll h as).get? b=some o->(hideAll h' as).get? b=some o:=λb o e=>
 RJ _ (k _ _ (TH _ e)) λz=>by rw[Sm _ z]at e;exact nS e
theorem mM{fd:FuncData}{gs:wP}{pos:List Value}{Kk:List (Str×Value)}{Rr:Result->Shared->Prop}(X:Shared->Prop)(FA:n8 s.heap f sc body fd)(nl:s.heap.NoLimit)(R:aZ (n+1) A)(JF:ds.length=ps.length)(hb:∀(Q':List (Str×Value)->Shared->Prop)(E':Ω),(∀vals HX,ao s HX->aX (less HX.heap (ms++gs.as)) ds vals->X HX->Q' (ps.zip vals) HX)->wpAny (model P0 w) A.in1 (bindArgs fd ⟨pos,Kk⟩) Q' E' s)(XU:gs.as.Nodup)(Xl:∀p∈gs,iU w (less s.heap (ms++gs.as)) s.heap p.2.1 p.2.2)(old:∀a∈ms,a∉gs.as/\∃o,s.heap.get? a=some o)(tp:T.Tp w (hideAll s.heap gs.as))(nd:(ps++(gs.names++rest)).Nodup)(hk:sc.kind=.function)(Wp:sc.isCoroutine=false)(MC:sc.isGenerator=false)(hp:∀y∈ps,sc.names.lookup y=some .local\/sc.names.lookup y=some .cell)(XV:∀y∈gs.names,sc.names.lookup y=none)(Wq:∀p∈sc.names,p.2≠.free)(KE:∀y∈wr,sc.names.lookup y=some .cell)(hh:∀y∈ps,y≠("_headers" : Str))(Pj:∀(HX Ug:Shared)ZV,ZV=callEnvC fd HX.heap.objs.size f->ao s HX->X HX->ao HX Ug->aD ⟨n,sc,ps++(gs.names++rest),wr⟩ ZV->T.Tp w (hideAll HX.heap gs.as)->
   aC w wr ZV (ps++(gs.names++rest)) (hideAll HX.heap gs.as) ms gs.as (ds.map .val++(gs.slots++List.replicate rest.length .no)) Ug.heap->
   wpAny (model P0 w) (A.deeper ZV) (execs body ZV) (λf s'=>Rr (.ok (.ret (match f with|.ret v=>v|_=>.none))) s')
    (λe s'=>wpAny (model P0 w) (A.deeper ZV) (leaving ZV e) (λU Ka=>Rr (.error e) Ka) (λe' Ka=>Rr (.error e') Ka) s') Ug):
  codeAny (model P0 w) A (.call (.ref f) ⟨pos,Kk⟩) Rr s:=by
 refine ay FA.get λo ho hd=>?_;refine codeAny_call_function (by have:=R.depth;exact Td this) ho hd (by rw[FA.scope];exact Wp) (by rw[FA.scope];exact MC) FA.body FA.code ?_;refine hb _ _ λvals HX af JL hX=>?_;rw[FA.clo];have hl:vals.length=ps.length:=JL.length.trans JF;have Yv:ps.Nodup:=(TC.mp nd).1;refine wpAny_newFunctionEnv_cells (by rw[FA.scope];exact hk) (λp PT=>?_) λZV he Ug I=>?_
 ·rw[FA.scope]
  rcases hp p.1 (Ta PT).1 with q|q
  ·exact .inl q
  ·exact .inr ⟨q,cK _ _ _ _ q⟩
 have Mb:ZV=callEnvC fd HX.heap.objs.size f:=he;refine⟨(nl.keeps af.keep).keeps I.toInCall.keep,codeAny_func ?_⟩;have WO:aD ⟨n,sc,ps++(gs.names++rest),wr⟩ ZV:=⟨by rw[Mb];exact FA.scope,by rw[Mb];exact FA.glob,by rw[Mb];exact FA.blt,hk,nd,KE⟩;have kd:∀y,ZV.kindOf y=sc.names.lookup y:=WO.kindOf;refine dE I.done λh' tk hs O6=>?_;have VB:ao HX Ug:=by rw[hs];exact⟨λb o e=>O6 b o e,rfl,rfl,rfl⟩
 have gsn:∀y,sc.names.lookup y≠none->(gs.map).lookup y=none:=λy hy=>uM λp Xq e=>by refine ay (QR.mp Xq) λq hq U=>?_;subst U;exact hy (e▸XV _ (Sf hq))
 let mm:Str->Option Value:=λy=>match(gs.map).lookup y with|some v=>some v|none=>i6 (ps.zip vals) (λU=>none) y
 have YE:∀y,sc.names.lookup y≠none->mm y=i6 (ps.zip vals) (λU=>none) y:=λy hy=>by show(match(gs.map).lookup y with|some v=>some v|none=>_)=_;rw[gsn y hy]
 have base:∀b o,(hideAll HX.heap gs.as).get? b=some o->HX.heap.get? b=some o:=λb o e=>TH _ e;have Pb:∀a,HX.heap.objs.size<=a->(hideAll HX.heap gs.as).get? a=none:=λa q=>by
  rcases e:(hideAll HX.heap gs.as).get? a with _|o
  ·rfl
  ·have:=base _ _ e;rw[aK q]at this;exact nS this
 have F:oJ wr ZV (hideAll HX.heap gs.as) Ug.heap mm:=by
  refine⟨⟨_,I.toInCall.ns,λy hy=>(rK hy _ _ _ rfl).trans (YE y (by rw[<-kd,hy];nofun)).symm,oL _ _ _ (λp hp=>hh _ (Ta hp).1) rfl⟩,λy cl hy hc=>?_,λy hy=>?_,I.apart,
   λp hp=>TJ (I.above p.1 p.2 hp),λb o e=>I.toInCall.keep b o (base b o e),?_,λy U cl hc=>?_⟩
  ·have:=I.cell y cl hc
   rw[rJ (m':=λU=>none) _ _ _ rfl]at this
   ·rw[YE y (by rw[<-kd];rcases hy with hy|hy<;>rw[hy]<;>nofun)];exact this
   ·rcases hy with hy|hy<;>rw[hy]<;>decide
  ·rw[kd]at hy
   rcases hy with hy|hy
   ·refine RU.mp ?_
    rw[Mb];show((cellsFrom _ fd.scope.names []).lookup y).isSome=true;rw[FA.scope];exact cK _ _ _ _ hy
   ·exact absurd rfl (Wq _ (mem_of_lookup hy))
  ·rw[Mb];exact Pb _ (QO _)
  ·refine Pb _ (RE ?_)
   have:=I.above y cl (mem_of_lookup hc)
   rw[Mb]at this;exact this
 have hsz:∀a∈gs.as,a<HX.heap.objs.size:=λa ha=>by refine ay (QR.mp ha) λp hp' U=>?_;subst U;exact ay ((Xl p hp').there) λob Pw U=>Rx (af.keep _ _ Pw)
 have JE:aC w wr ZV (ps++(gs.names++rest)) (hideAll HX.heap gs.as) ms gs.as (ds.map .val++(gs.slots++List.replicate rest.length .no)) Ug.heap:=by
  refine⟨⟨mm,F,?_⟩,XU,λa ha=>Sm _ ha,λa ha=>?_,λa ha=>⟨λe=>?_,λx cl U hc e=>?_⟩⟩
  ·refine vd ps (JL.mono (ai VB.keep)) hl.symm (λp PT=>?_) (AI rest gs (λp Yi=>?_) λp Yi=>?_)
   ·rw[YE p.1 (by rcases hp p.1 (Ta PT).1 with q|q<;>rw[q]<;>nofun)]
    exact rL ps vals _ Yv p PT
   ·have WJ:((gs.map).map (·.1)).Nodup:=by
     have:=(TC.mp (TC.mp nd).2.1).1
     have e:(gs.map).map (·.1)=gs.names:=by unfold wP.map wP.names;rw[QZ];rfl
     rw[e];exact this
    have:=xD (p:=(p.1,Value.ref p.2.1)) WJ (Sf (f:=λp:Str×Addr×Mu=>(p.1,Value.ref p.2.1)) Yi)
    show(match(gs.map).lookup p.1 with|some v=>some v|none=>_)=_;rw[this]
   ·have k:=λb o(e:s.heap.get? b=some o)=>VB.keep b o (af.keep b o e)
    exact(Xl p Yi).keep (ai k) (k _)
  ·obtain⟨hn,o,e⟩:=old a ha
   exact⟨o,RJ _ (af.keep _ _ e) hn⟩
  ·have:=hsz a ha
   rw[e,Mb]at this;exact Ts _ this
  ·have h1:=hsz a ha
   have h2:=I.above x cl (mem_of_lookup hc);rw[Mb,e]at h2;exact Ts _ (TK h1 h2)
 have hr:=Pj HX Ug ZV Mb af hX VB WO (T.keeps _ _ _ tp (uD af.keep)) JE;subst he;exact hr
theorem gi{fd:FuncData}{gs:wP}{pos:List Value}{Kk:List (Str×Value)}(X:Shared->Prop)(FA:n8 s.heap f sc body fd)(nl:s.heap.NoLimit)(R:aZ (n+1) A)(JF:ds.length=ps.length)(hb:∀(Q':List (Str×Value)->Shared->Prop)(E':Ω),(∀vals HX,ao s HX->aX (less HX.heap (ms++gs.as)) ds vals->X HX->Q' (ps.zip vals) HX)->wpAny (model P0 w) A.in1 (bindArgs fd ⟨pos,Kk⟩) Q' E' s)(XU:gs.as.Nodup)(Xl:∀p∈gs,iU w (less s.heap (ms++gs.as)) s.heap p.2.1 p.2.2)(old:∀a∈ms,a∉gs.as/\∃o,s.heap.get? a=some o)(tp:T.Tp w (hideAll s.heap gs.as))(nd:(ps++(gs.names++rest)).Nodup)(hk:sc.kind=.function)(Wp:sc.isCoroutine=false)(MC:sc.isGenerator=false)(hp:∀y∈ps,sc.names.lookup y=some .local\/sc.names.lookup y=some .cell)(XV:∀y∈gs.names,sc.names.lookup y=none)(Wq:∀p∈sc.names,p.2≠.free)(KE:∀y∈wr,sc.names.lookup y=some .cell)(hh:∀y∈ps,y≠("_headers" : Str))(Pj:∀(HX Ug:Shared)ZV,ZV=callEnvC fd HX.heap.objs.size f->ao s HX->X HX->ao HX Ug->aD ⟨n,sc,ps++(gs.names++rest),wr⟩ ZV->T.Tp w (hideAll HX.heap gs.as)->
   aC w wr ZV (ps++(gs.names++rest)) (hideAll HX.heap gs.as) ms gs.as (ds.map .val++(gs.slots++List.replicate rest.length .no)) Ug.heap->
   wpAny (model P0 w) (A.deeper ZV) (execs body ZV) (λf s'=>Q (match f with|.ret v=>v|_=>.none) s')
    (λe s'=>wpAny (model P0 w) (A.deeper ZV) (leaving ZV e) (λU Ka=>E e Ka) (λe' Ka=>E e' Ka) s') Ug):
  wpAny (model P0 w) A (call (.ref f) pos Kk) Q E s:=
 wpAny_call (mM X FA nl R JF hb XU Xl old tp nd hk Wp MC hp XV Wq KE hh Pj)
noncomputable def a6.plus(T:a6)(F:Heap->Prop)(hF:∀h h',F h->(∀b o,h.get? b=some o->h'.get? b=some o)->F h'):a6 where
 Tp:=λw h=>T.Tp w h/\F h
 keeps:=λw h h' tp k=>⟨T.keeps w h h' tp.1 k,hF h h' tp.2 k⟩
 mg:=T.mg
 mb:=T.mb
 glob:=λw h tp=>T.glob w h tp.1
 blt:=λw h tp=>T.blt w h tp.1
 nolimit:=λw h tp=>T.nolimit w h tp.1
end
section
variable(T:a6)
structure fU(C:Addr)(name:Str)(f:Addr):Prop where
 fn:∀(w:World)(h:Heap),T.Tp w h->∃o fd,h.get? f=some o/\o.data=.func fd
 get:∀(w:World)(Hy:Heap),T.Tp w Hy->∀(A:Around)(s:Shared)(x d:Addr)(od:Obj)(pl:Sem Bool)(Q:Value×List Value->Shared->Prop)(E:Ω),(∀b o,Hy.get? b=some o->s.heap.get? b=some o)->
  s.heap.get? x=some (instObj C d)->s.heap.get? d=some od->lookIn name od=some none->Q (.ref f,[.ref x]) s->wpAny (model P0 w) A (getMethod (.ref x) name pl) Q E s
structure n9(f:Addr)(sc:Scope)(body:List Stmt)(kn ps:List Str)(dv:List Value)(np:Nat):Prop where
 at_:∀(w:World)(h:Heap),T.Tp w h->∃fd,n8 h f sc body fd/\∀(vals JG:List Value)(s:Shared),vals.length=np->JG.length=kn.length->(∀b o,h.get? b=some o->s.heap.get? b=some o)->
  BindsTo s fd ⟨vals,kn.zip JG⟩ (ps.zip (vals++(dv++JG)))
structure FI(n:Nat)(f:Addr)(kn:List Str)(ds kds:List D)(r:D):Prop where
 run:∀(w:World)(Hy:Heap),T.Tp w Hy->∀(A:Around)(s:Shared)(ms:List Addr)(vals JG:List Value)(Q:Ω)(E:Ω),(∀b o,Hy.get? b=some o->s.heap.get? b=some o)->aZ n A->
  (∀a∈ms,∃o,s.heap.get? a=some o)->aX (less s.heap ms) ds vals->aX (less s.heap ms) kds JG->(∀v s',ao s s'->RV (less s'.heap ms) r v->Q v s')->wpAny (model P0 w) A (call (.ref f) vals (kn.zip JG)) Q E s
structure II(n:Nat)(f:Addr)(kn:List Str)(ds kds:List D)(ob:Mu):Prop where
 run:∀(w:World)(Hy:Heap),T.Tp w Hy->∀(A:Around)(s:Shared)(ms:List Addr)(vals JG:List Value)(Q:Ω)(E:Ω),(∀b o,Hy.get? b=some o->s.heap.get? b=some o)->aZ n A->
  (∀a∈ms,∃o,s.heap.get? a=some o)->aX (less s.heap ms) ds vals->aX (less s.heap ms) kds JG->(∀a s',ao s s'->s.heap.get? a=none->iU w (less s'.heap (a::ms)) s'.heap a ob->Q (.ref a) s')->wpAny (model P0 w) A (call (.ref f) vals (kn.zip JG)) Q E s
structure FH(n:Nat)(f:Addr)(kn:List Str)(ds kds:List D)(b:Addr)(ob Mg:Mu)(r:D):Prop where
 run:∀(w:World)(Hy:Heap),T.Tp w Hy->∀(A:Around)(s:Shared)(ms:List Addr)(vals JG:List Value)(Q:Ω)(E:Ω),(∀a o,Hy.get? a=some o->(hideAll s.heap [b]).get? a=some o)->aZ n A->
  (∀a∈ms,a≠b/\∃o,s.heap.get? a=some o)->aX (less s.heap (ms++[b])) ds vals->aX (less s.heap (ms++[b])) kds JG->iU w (less s.heap (ms++[b])) s.heap b ob->
  (∀v s',bP s s'->(∀a o,a≠b->s.heap.get? a=some o->s'.heap.get? a=some o)->iU w (less s'.heap (ms++[b])) s'.heap b Mg->RV (less s'.heap (ms++[b])) r v->Q v s')->wpAny (model P0 w) A (call (.ref f) vals (kn.zip JG)) Q E s
structure yq(o:PySem.Expr)(name:Str)(J7 pos:Pos)(JZ:List PySem.Expr)(Kk:List Keyword)(kn:List Str):Prop where
 he:∃pl:Env->Sem Bool,∀ZV,eval (.Call (.Attribute o name J7) JZ Kk pos) ZV=(do
   let ov <-eval o ZV
   standAt J7.atName
   let(f,first) <-holding [ov] (getMethod ov name (pl ZV))
   callWith pos f first (backTo pos (starEach JZ ZV)) (backToKw pos (keywordEach Kk ZV)))
 all:∀ZV,(backToKw pos (keywordEach Kk ZV)).all (·.1.isSome)=true
 names:∀ZV,(backToKw pos (keywordEach Kk ZV)).filterMap (·.1)=kn
variable(c:Cx)
structure Dk(O:St)(Kk:List Keyword)(ds:List D):Prop where
 run:∀{w:World}{A:Around}{ZV:Env}{Hy:Heap}{ms₀ as:List Addr}{s:Shared}{Q:List Value->Shared->Prop}{E:Ω},
  ∀(ok:aD c ZV)(tp:T.Tp w Hy)(R:aZ c.n A)(JE:aC w c.wr ZV c.names Hy ms₀ as O s.heap)(q:∀vs s',ao s s'->aX (less s'.heap (ms₀++as)) ds vs->Q vs s'),∀pos,wpAny (model P0 w) A (evalAll ((backToKw pos (keywordEach Kk ZV)).map (·.2))) Q E s
end
inductive DK(T:a6)(c:Cx)(O:St):List PySem.Expr->List D->Prop
 |nil:DK T c O [] []
 |cons {e:PySem.Expr} {es:List PySem.Expr} {ds:List D}:rn T c O (e::es) ds->(∀ZV,starEach (e::es) ZV=(false,eval e ZV)::starEach es ZV)->DK T c O (e::es) ds
def sH(C:Addr)(d:D):Prop:=(∃b,d=.inst C b)\/∃ds,d=.hdr C ds
noncomputable def Dr:D->Bool|.none=>true|.bool _=>true|.int _=>true|.str _=>true|_=>false
theorem RV.flat(hf:Dr d=true)(r:RV g d v):RV g' d v:=by cases d<;>first|(cases hf;done)|(obtain⟨_,rfl⟩:=r.inv;constructor)
theorem RV.isInst(hi:sH C d)(r:RV g d v):∃a b,v=.ref a/\bO g a C b:=by
 rcases hi with⟨b,rfl⟩|⟨ds,rfl⟩
 ·cases r;exact⟨_,_,rfl,by assumption⟩
 ·cases r;exact⟨_,_,rfl,by assumption⟩
theorem cp:Dk T c O [] []:=⟨@λw A ZV Hy ms₀ as s Q E ok tp R JE q pos=>QD (q _ _ (ao.refl s) .nil)⟩
theorem gg{x:Option Str}{r:List Keyword}(h:Ev T c O e d)(h':Dk T c O r ds):Dk T c O (⟨x,e,p⟩::r) (d::ds):=by constructor;intros;exact wpAny_evalAll_cons (GA (h.run ok tp R JE λv HX Uf rv=>GA (Tv (QD (h'.run ok tp R (JE.grow Uf.keep) (λvs Ug Uh JL=>q _ _ (Uf.trans Uh) (.cons (rv.mono (ai Uh.keep)) JL)) pos)))))
theorem v8{ZV:Env}{ms₀ as:List Addr}{Kk:List Keyword}(ho:Ev T c O o KB)(hi:sH C KB)(JO:(name==("_headers" : Str))=false)(hm:fU T C name f)(ha:DK T c O JZ ds)(hk:Dk T c O Kk kds)(tx:yq o name J7 pos JZ Kk kn)(ok:aD c ZV)(tp:T.Tp w Hy)(R:aZ c.n A)(JE:aC w c.wr ZV c.names Hy ms₀ as O s.heap)(q:∀vs kvs s',ao s s'->aX (less s'.heap (ms₀++as)) (KB::ds) vs->aX (less s'.heap (ms₀++as)) kds kvs->wpAny (model P0 w) A (call (.ref f) vs (kn.zip kvs)) Q E s'):
  wpAny (model P0 w) A (eval (.Call (.Attribute o name J7) JZ Kk pos) ZV) Q E s:=by
 refine xE tx.he λpl he=>?_;refine methodCall_KW (pl:=pl ZV) (ho.run ok tp R JE λov HX Uf rv=>?_) (he ZV);have K5:=rv;obtain⟨x,b,rfl,d,od,i1,i2,i3,i4⟩:=rv.isInst hi;refine b9.el JE.ex λm F S=>?_;have kp:∀b o,Hy.get? b=some o->HX.heap.get? b=some o:=λb o e=>Uf.keep _ _ (F.keep _ _ e);refine hm.get w Hy tp A HX x d od (pl ZV) _ E kp (ab.mp i1).2 (ab.mp i2).2 (i4 name (beq_eq_false_iff_ne.mp JO)) ?_;refine dE (hm.fn w Hy tp) λfo fd f1 f2=>?_;refine callWith_function_kw (o:=fo) (fd:=fd) ?_;have last:∀vs Ug,ao HX Ug->aX (less Ug.heap (ms₀++as)) ds vs->wpAny (model P0 w) A (evalAll ((backToKw pos (keywordEach Kk ZV)).map (·.2))) (λks Ui=>(Ui.heap.get? f=some fo/\fo.data=.func fd)/\wpAny (model P0 w) A (call (.ref f) ([.ref x]++vs) (((backToKw pos (keywordEach Kk ZV)).filterMap (·.1)).zip ks)) Q E Ui) E Ug:=λvs Ug Uh JL=>
  hk.run ok tp R (JE.grow λb o e=>Uh.keep _ _ (Uf.keep _ _ e)) (λks Ui Uj krs=>⟨⟨Uj.keep _ _ (Uh.keep _ _ (kp _ _ f1)),f2⟩,by rw[tx.names ZV];exact q _ _ _ (Uf.trans (Uh.trans Uj)) (.cons (K5.mono ((ai Uh.keep).trans (ai Uj.keep))) (JL.mono (ai Uj.keep))) krs⟩) pos
 cases ha with
 |nil=>exact evalArgs_kw_nil (tx.all ZV) (last [] HX (ao.refl _) .nil)
 |cons ha hx=>
  have:=ha.run (E:=E) ok tp R (JE.grow Uf.keep) last pos
  rw[hx ZV]at this ⊢;exact evalArgs_kw (tx.all ZV) this
theorem gf{Kk:List Keyword}(hf:FI T n f kn (KB::ds) kds r)(ho:Ev T c O o KB)(hi:sH C KB)(JO:(name==("_headers" : Str))=false)(hm:fU T C name f)(ha:DK T c O JZ ds)(hk:Dk T c O Kk kds)(tx:yq o name J7 pos JZ Kk kn)(hn:n<=c.n):Ev T c O (.Call (.Attribute o name J7) JZ Kk pos) r:=by
 constructor;intros;refine v8 ho hi JO hm ha hk tx ok tp R JE λvs kvs HX Uf r1 r2=>?_;exact b9.el JE.ex λm F S=>hf.run w Hy tp A HX (ms₀++as) vs kvs Q E (λb o e=>Uf.keep _ _ (F.keep _ _ e)) (R.less hn) (JE.grow Uf.keep).have r1 r2 λv s' a' rv=>q _ _ (Uf.trans a') rv
theorem JA{ZV:Env}{ms₀ as:List Addr}{C b:Addr}{es ds:List D}(JE:aC w c.wr ZV c.names Hy ms₀ as O s.heap)(hx:c.names[i]? = some x)(hd:O[i]? = some (.mu b (.list es)))(r:aX (less s.heap (ms₀++as)) (.inst C b::ds) vs):aX (less s.heap ((ms₀++as).filter λa=>decide (a≠b))) (.hdr C es::ds) vs:=by
 refine nY.el (cV JE hx hd) λws n hb rb=>?_;have sk:am (less s.heap (ms₀++as)) (less s.heap ((ms₀++as).filter λa=>decide (a≠b))):=aT λa ha=>(Q8.mp ha).1;refine aX.Z9 r λU U zE a r=>RV.instK a λU zF hi=>?_;subst zE;subst zF;clear r;exact .cons (.hdr (hi.mono sk) (ab.mpr ⟨λz=>(QS (Q8.mp z).2) rfl,hb⟩) (rb.mono sk)) (r.mono sk)
theorem gG(i:Nat){Kk:List Keyword}{C f b:Addr}{ds kds es:List D}(hf:FI T n f kn (.hdr C es::ds) kds r)(K4:Dr r=true)(ho:Ev T c O o (.inst C b))(hx:c.names[i]? = some x)(hd:O[i]? = some (.mu b (.list es)))(JO:(name==("_headers" : Str))=false)(hm:fU T C name f)(ha:DK T c O JZ ds)(hk:Dk T c O Kk kds)(tx:yq o name J7 pos JZ Kk kn)(hn:n<=c.n):Ev T c O (.Call (.Attribute o name J7) JZ Kk pos) r:=by
 constructor;intros;refine v8 ho (.inl ⟨b,rfl⟩) JO hm ha hk tx ok tp R JE λvs kvs HX Uf r1 r2=>?_;refine b9.el JE.ex λm F S=>?_;have Uk:=JE.grow Uf.keep;exact hf.run w Hy tp A HX _ vs kvs Q E (λb o e=>Uf.keep _ _ (F.keep _ _ e)) (R.less hn) (λa ha=>Uk.have a (Q8.mp ha).1) (JA Uk hx hd r1) (r2.mono (aT λa ha=>(Q8.mp ha).1)) λv s' a' rv=>q _ _ (Uf.trans a') (rv.flat K4)
section
set_option backward.match.sparseCases true
structure vx(sc:Scope)(ps:List Str)(g:List Str)(rest wr:List Str):Prop where
 nd:(ps++(g++rest)).Nodup
 kind:sc.kind=.function
 co:sc.isCoroutine=false
 gen:sc.isGenerator=false
 par:∀y∈ps,sc.names.lookup y=some .local\/sc.names.lookup y=some .cell
 gh:∀y∈g,sc.names.lookup y=none
 free:∀p∈sc.names,p.2≠.free
 wr:∀y∈wr,sc.names.lookup y=some .cell
 hd:∀y∈ps,y≠("_headers" : Str)
def mf(r:D)(fl:Fl):Prop:=fl=.ret r\/(fl=.next/\r=.none)
theorem mf.value{fl:Fl}{f:Flow}(k:am g g')(h:mf r fl)(fr:FC g fl f):RV g' r (match(generalizing:=false) f with|.ret v=>v|_=>.none):=by
 rcases h with rfl|⟨rfl,rfl⟩
 ·cases f<;>first|exact fr.elim|exact RV.mono k fr
 ·cases f<;>first|exact fr.elim|exact .none
theorem EG(hf:n9 T f sc body kn ps dv np)(Pk:∀g,aX g ddv dv)(Wr:ds.length=np)(Ws:kds.length=kn.length)(JF:(ds++(ddv++kds)).length=ps.length)(fr:vx sc ps [] rest wr)(hW:W T ⟨n,sc,ps++rest,wr⟩ ((ds++(ddv++kds)).map .val++List.replicate rest.length .no) body (λfl U=>mf r fl)):FI T (n+1) f kn ds kds r:=by
 constructor;intro w Hy tp A s ms vals JG Q E keep R old r1 r2 q;refine ay (hf.at_ w Hy tp) λfd FA hb=>?_;refine gi (X:=λU=>True) (gs:=[]) (ms:=ms) (ds:=ds++(ddv++kds)) (ps:=ps) (rest:=rest) (wr:=wr) (FA.keeps keep) ((T.nolimit w Hy tp).keeps keep) R JF (λQ' E' h=>hb vals JG s (r1.length.trans Wr) (r2.length.trans Ws) keep _ _ _ _ (h _ s (ao.refl s) ?_ trivial)) Rs nofun
  (λa ha=>⟨nofun,old a ha⟩) (T.keeps _ _ _ tp keep) fr.nd fr.kind fr.co fr.gen fr.par nofun fr.free fr.wr fr.hd λHX Ug ZV he Uf U Uh ok Kv JE=>?_
 ·show aX (less s.heap (ms++[])) _ _
  rw[QN];exact r1.app ((Pk _).app r2)
 ·refine hW.run (ms₀:=ms) (as:=[]) ok Kv R.deeper JE λfl fv Wj as' s' p JY sm Pr=>?_
  exact b9.el JY.ex λm F S=>q _ s' ⟨λb o e=>F.keep b o (Uf.keep b o e),sm.gens.trans (Uh.gens.trans Uf.gens),sm.drawn.trans (Uh.drawn.trans Uf.drawn),sm.os.trans (Uh.os.trans Uf.os)⟩ (p.value (aT λb hb=>QM _ hb) Pr)
theorem Dy(hf:n9 T f sc [.Return (some e) p] kn ps dv np)(Pk:∀g,aX g ddv dv)(Wr:ds.length=np)(Ws:kds.length=kn.length)(JF:(ds++(ddv++kds)).length=ps.length)(fr:vx sc ps [] rest wr)(hW:oI T ⟨n,sc,ps++rest,wr⟩ ((ds++(ddv++kds)).map .val++List.replicate rest.length .no) e ob):II T (n+1) f kn ds kds ob:=by
 constructor;intro w Hy tp A s ms vals JG Q E keep R old r1 r2 q;refine ay (hf.at_ w Hy tp) λfd FA hb=>?_;refine gi (X:=λU=>True) (gs:=[]) (ms:=ms) (ds:=ds++(ddv++kds)) (ps:=ps) (rest:=rest) (wr:=wr) (FA.keeps keep) ((T.nolimit w Hy tp).keeps keep) R JF (λQ' E' h=>hb vals JG s (r1.length.trans Wr) (r2.length.trans Ws) keep _ _ _ _ (h _ s (ao.refl s) ?_ trivial)) Rs nofun
  (λa ha=>⟨nofun,old a ha⟩) (T.keeps _ _ _ tp keep) fr.nd fr.kind fr.co fr.gen fr.par nofun fr.free fr.wr fr.hd λHX Ug ZV he Uf U Uh ok Kv JE=>?_
 ·show aX (less s.heap (ms++[])) _ _
  rw[QN];exact r1.app ((Pk _).app r2)
 ·refine Tm (wpAny_Return_some (hW.run (ms₀:=ms) (as:=[]) ok Kv R.deeper JE λa s' Uj hn mr=>q a s' (Uf.trans (Uh.trans Uj)) ?_ ?_))
  ·rcases e:s.heap.get? a with _|o
   ·rfl
   ·have:=Uh.keep _ _ (Uf.keep _ _ e);rw[hn]at this;exact nS this
  ·rw[QN]at mr;exact mr
theorem G1{g:Str}{b:Addr}(hf:n9 T f sc body kn ps dv np)(Pk:∀g,aX g ddv dv)(Wr:ds.length=np)(Ws:kds.length=kn.length)(JF:(ds++(ddv++kds)).length=ps.length)(fr:vx sc ps [g] rest wr)(hW:W T ⟨n,sc,ps++(g::rest),wr⟩ ((ds++(ddv++kds)).map .val++(.mu b ob::List.replicate rest.length .no)) body (λfl Wj=>mf r fl/\Wj[ps.length]? = some (.mu b Mg))):FH T (n+1) f kn ds kds b ob Mg r:=by
 constructor;intro w Hy tp A s ms vals JG Q E keep R old r1 r2 mr q;have KM:∀a o,Hy.get? a=some o->s.heap.get? a=some o:=λa o e=>TH _ (keep a o e);refine ay (hf.at_ w Hy tp) λfd FA hb=>?_;refine gi (X:=λU=>True) (gs:=[(g,b,ob)]) (ms:=ms) (ds:=ds++(ddv++kds)) (ps:=ps) (rest:=rest) (wr:=wr) (FA.keeps KM) ((T.nolimit w Hy tp).keeps KM) R JF (λQ' E' h=>hb vals JG s (r1.length.trans Wr) (r2.length.trans Ws) KM _ _ _ _ (h _ s (ao.refl s) (r1.app ((Pk _).app r2)) trivial))
  (QY.mpr ⟨nofun,Rs⟩) (λp hp=>by cases hp with|head=>exact mr|tail _ hp=>contradiction) (λa ha=>⟨λz=>?_,(old a ha).2⟩) (T.keeps _ _ _ tp keep) fr.nd fr.kind fr.co fr.gen fr.par fr.gh fr.free fr.wr fr.hd λHX Ug ZV he Uf U Uh ok Kv JE=>?_
 ·cases z with
  |head=>exact(old _ ha).1 rfl
  |tail _ z=>contradiction
 ·refine hW.run (ms₀:=ms) (as:=[b]) ok Kv R.deeper JE λfl fv Wj as' s' ⟨p,hg⟩ JY sm Pr=>?_
  refine b9.el JY.ex λm F S=>?_;have hx:(ps++(g::rest))[ps.length]? = some g:=by rw[List.getElem?_append_right (QO _),Nat.sub_self];rfl
  refine jg.el (S.muAt hx hg) λl r' e hm L8 up fz=>?_;have sub:am (less s'.heap (ms++as')) (less s'.heap (ms++[b])):=aT λa ha=>by
   rcases Qz.mp ha with ha|ha
   ·exact QM _ ha
   ·refine Qy _ ?_
    cases ha with
    |head=>rw[e];exact Qy _ QH
    |tail _ ha=>contradiction
  refine q _ s' ⟨sm.gens.trans (Uh.gens.trans Uf.gens),sm.drawn.trans (Uh.drawn.trans Uf.drawn),sm.os.trans (Uh.os.trans Uf.os)⟩ (λa o Mw e=>F.keep a o (RJ _ (Uf.keep _ _ e) λz=>?_)) (L8.keep sub λU e=>e) (p.value sub Pr);cases z with
  |head=>exact Mw rfl
  |tail _ z=>contradiction
section
variable(T:a6)(c:Cx)
structure Bp(O:St)(e:PySem.Expr)(d:D)(Wj:St):Prop where
 run:∀{w:World}{A:Around}{ZV:Env}{Hy:Heap}{ms₀ as:List Addr}{s:Shared}{Q:Ω}{E:Ω},
  ∀(ok:aD c ZV)(tp:T.Tp w Hy)(R:aZ c.n A)(JE:aC w c.wr ZV c.names Hy ms₀ as O s.heap)(q:∀v s',aC w c.wr ZV c.names Hy ms₀ as Wj s'.heap->bP s s'->RV (less s'.heap (ms₀++as)) d v->Q v s'),wpAny (model P0 w) A (eval e ZV) Q E s
end
theorem oU(i:Nat){Kk:List Keyword}{C f b:Addr}(hf:FH T n f kn (.inst C b::ds) kds b ob Mg r)(ho:Ev T c O o (.inst C b))(hx:c.names[i]? = some x)(hd:O[i]? = some (.mu b ob))(JO:(name==("_headers" : Str))=false)(hm:fU T C name f)(ha:DK T c O JZ ds)(hk:Dk T c O Kk kds)(tx:yq o name J7 pos JZ Kk kn)(hn:n<=c.n):
  Bp T c O (.Call (.Attribute o name J7) JZ Kk pos) r (O.set i (.mu b Mg)):=by
 constructor;intros;refine v8 ho (.inl ⟨b,rfl⟩) JO hm ha hk tx ok tp R JE λvs kvs HX Uf r1 r2=>?_;have Uk:=JE.grow Uf.keep;refine b9.el Uk.ex λm F S=>?_;refine jg.el (S.muAt hx hd) λl r' e Pv mr up fz=>?_;have KI:b∈as:=e▸Qy _ QH;have eq:∀a,a∈((ms₀++as).filter λa=>decide (a≠b))++[b]↔a∈ms₀++as:=λa=>by
  rw[Qz,Q8,QB];constructor
  ·rintro(⟨h,_⟩|rfl)
   ·exact h
   ·exact Qy _ KI
  ·intro h
   by_cases z:a=b
   ·exact .inr z
   ·exact .inl ⟨h,Q7 z⟩
 have to (h:Heap):am (less h (ms₀++as)) (less h (((ms₀++as).filter λa=>decide (a≠b))++[b])):=aT λa ha=>(eq a).mp ha;have fro (h:Heap):am (less h (((ms₀++as).filter λa=>decide (a≠b))++[b])) (less h (ms₀++as)):=aT λa ha=>(eq a).mpr ha;refine hf.run w Hy tp A HX _ vs kvs Q E (λa o Uv=>RJ _ (F.keep _ _ Uv) λz=>?_) (R.less hn) (λa ha=>⟨QS (Q8.mp ha).2,Uk.have a (Q8.mp ha).1⟩) (r1.mono (to _)) (r2.mono (to _)) (mr.keep (to _) λU e=>e) λv s' sm kp L8 rv=>?_
 ·cases z with
  |head=>rw[JE.new _ KI]at Uv;exact nS Uv
  |tail _ z=>contradiction
 ·refine q v s' ?_ (Uf.same.trans sm) (rv.mono (fro _))
  have nd:=JE.nd;rw[e]at nd;have Ke:b∉l++r':=(QY.mp ((RZ (l₁:=l) (a:=b) (l₂:=r')).nodup_iff.mp nd)).1;have hl:=JE.loc b KI;have sk:am (less HX.heap (ms₀++as)) (less s'.heap (ms₀++as)):=λa o qs z=>by rw[ab]at z ⊢;exact⟨z.1,kp a o (λy=>z.1 (Qy _ (y▸KI))) z.2⟩
  refine⟨⟨m,?_,up s'.heap Mg sk (λa ha o e=>kp a o (λy=>Ke (y▸ha)) e) (L8.keep (fro _) λU e=>e)⟩,JE.nd,JE.new,JE.old,JE.loc⟩;refine ay F.ns λml L7 Lc=>?_;refine ay mr.there λob Pw JM=>?_;refine⟨⟨ml,?_,Lc⟩,λy cl hk hc=>?_,F.has,F.apart,F.off,λa o Uv=>kp a o (λy=>?_) (F.keep a o Uv),F.above,F.Z1⟩
  ·exact jy L7 λo es ep ho JM rest=>⟨o,es,ep,kp _ _ (λy=>hl.1 y.symm) ho,JM,rest⟩
  ·refine ay (F.cell y cl hk hc) λo ho MV=>?_
   refine⟨o,kp _ _ (λz=>?_) ho,MV⟩;rw[z,Pw]at ho;obtain rfl:=QG ho;rcases JM with⟨v,n,h⟩|⟨v,n,h⟩<;>rw[MV]at h<;>contradiction
  ·rw[y,JE.new _ KI]at Uv;exact nS Uv
theorem tU(i:Nat){o:Slot}(h:Bp T c O e d Wj)(hx:c.names[i]? = some x)(ho:Wj[i]? = some o)(hm:o.ZW=false)(hk:b8 c x=true)(hs:∀ZV,swapsWith e (some (.Name x p')) p.line ZV=pure false)(hp:P .next (Wj.set i (.val d))):W1 T c O (.Assign [.Name x p'] e p) P:=by
 constructor;intros;exact wpAny_Assign_Name (h.run ok tp R JE λv s' JY sm rv=>(bU ok JY hx ho hm hk rv λKa M0 Mn U=>q .next .next _ as Ka hp M0 (sm.trans Mn) trivial)) (hs ZV)
theorem iR(h:Bp T c O e d Wj)(hi:∀ZV,aD c ZV->interactive ZV=false)(MX:∀ZV,swapsWith e none p.line ZV=pure false)(hp:P .next Wj):W1 T c O (.Expr e p) P:=by constructor;intros;exact wpAny_Expr_any (h.run ok tp R JE λv s' JY sm rv=>q .next .next _ as s' hp JY sm trivial) (hi ZV ok) (MX ZV)
end
theorem lh:PySem.Slot "re.Pattern" "search" "re.Pattern.search":=
 .of (owner := "re.Pattern") (n := "search") (by rw[typeLookup_type,builtinLookup_eq_fast];kernel_rfl) dk dk dk
  (.inr dk) (by rw[isSubtype_type];kernel_rfl)
theorem tQ:typeOf (.builtin "re.Pattern.search")=pure (.type "method_descriptor"):=by show builtinType _=_;rw[builtinType_eq_fast];kernel_rfl
theorem qm:entryFor table "re.Pattern.search" = some Builtin.«re.Pattern.search»:=entryFor_of_tree (Z 1)
theorem jw:PlainAttrs "re.Pattern":=
 ⟨⟨"object.__getattribute__",by rw[typeLookup_type,builtinLookup_eq_fast];kernel_rfl,by decide +kernel⟩,by rw[typeLookup_type,builtinLookup_eq_fast];kernel_rfl⟩
theorem rG(a b:Value):argsOk "re.Pattern.search" ⟨[a,b],[]⟩:=by
 kernel_rfl
theorem qH(a:Value):Builtin.Re.reNamed "re.Pattern.search" "search" ["string","pos","endpos"] 1 [a] []=pure [some a,none,none]:=by rfl
open Builtin.Re in
theorem uZ{M:Model}{Q:Unit->Shared->Prop}(b:Nat->Bool)(tg:Nat->String)(h:Q () s):∀l:List Nat,wpAny M A (forIn l PUnit.unit λi U=>if b i=true then(do rule (tg i);pure (ForInStep.yield PUnit.unit))else pure (ForInStep.yield PUnit.unit)) Q E s:=by
 intro X_;induction X_ with
 |nil=>exact QD h
 |cons i l IH=>
  rw[SJ];by_cases q:b i=true
  ·rw[Rb q]
   exact GA (GA (wpAny_rule (QD (IH))))
  ·rw[Q5 q]
   exact GA (QD (IH))
structure lZ(h:Heap)(p:Addr)(code:Array Nat):Prop where
 ex:∃po fs c co vs n,h.get? p=some po/\po.cls=.type "re.Pattern"/\po.dict=none/\po.data=.fields fs/\fs.getD 5 .none=.ref c/\h.get? c=some co/\co.data=.seq vs n/\(vs.map Builtin.Re.reRawOf).map (·.toNat)=code/\Builtin.Re.reRawNat (fs.getD 6 .none)=0/\Builtin.Re.reRawNat (fs.getD 2 .none)=0
theorem vi{p:Addr}{t:Tok}{code:Array Nat}{Q:Builtin.Re.ReTarget->Shared->Prop}(P:lZ s.heap p code)(hsz:x.cps.size<=2^62)(h:Q { pattern:=.ref p,string:=.str x t,code:=code,text:=x.cps,kind:=0,groups:=0,pos:=0,lim:=x.cps.size } s):
  wpAny (model P0 w) A (Builtin.Re.reTarget "re.Pattern.search" "search" ⟨[.ref p,.str x t],[]⟩) Q E s:=by
 obtain⟨po,fs,c,co,vs,n,h1,h2,h3,h4,h5,h6,h7,h8,h9,KL⟩:=P.ex;unfold Builtin.Re.reTarget;dsimp only;rw[qH];refine GA (QD ?_);refine GA (QD (GA (QD (GA (wpAny_fieldsOf h1 h4 ?_)))));refine GA (m:=Builtin.Re.reTextOf _) ?_;refine GA (QD (QD ?_));rw[h9,h5];simp only[show((0:Nat)==0)=true from rfl,show((0:Nat)==1)=false from rfl,Bool.and_false,Bool.false_and,TU,TV];unfold Builtin.Re.reNoCollectionInside;simp only[show((0:Nat)==1)=false from rfl,TU,TV];refine GA (QD (GA (m:=Builtin.Re.reRawItems _) ?_));refine GA (SY h6 h7 (QD (QD ?_)));have e1:min (2^63-1:Int).toNat x.cps.size=x.cps.size:=by
  have:(2^63-1:Int).toNat=2^63-1:=by decide
  rw[this];lia
 rw[e1,KL];have e2:((some vs).getD #[] |>.map Builtin.Re.reRawOf).map (·.toNat)=code:=h8;rw[e2];exact h
theorem BH{m m':Sre.M}{Q:Option Sre.M->Shared->Prop}(hm:m.runFor 4=m')(ho:m'.outcome=some .failed)(h:Q none s):wpAny (model P0 w) A (Builtin.Re.reRunToEnd m) Q E s:=by
 unfold Builtin.Re.reRunToEnd;have e:Builtin.Re.reDrive (2^64) m=pure m':=by rw[show(2^64:Nat)=(2^64-1)+1 from rfl];show(if((m.runFor 4).outcome).isSome=true then pure (m.runFor 4)else _)=_;rw[hm,ho];rfl
 rw[e];refine GA (QD (GA (uZ (λi=>m'.seen.has i) (λi=>Sre.names.getD i "") ?_ _)));rw[ho];exact QD h
theorem tz{p:Addr}{t:Tok}{code:Array Nat}(P:lZ s.heap p code)(hsz:x.cps.size<=2^62)(ho:((Sre.forSearch code x.cps 0 0 x.cps.size false).runFor 4).outcome=some .failed)(h:Q .none s):
  wpAny (model P0 w) A (call (.builtin "re.Pattern.search") [.ref p,.str x t]) Q E s:=by
 obtain⟨po,fs,c,co,vs,n,h1,h2,_⟩:=P.ex;refine RM lh ⟨po,h1,h2⟩ qm ?_ (rG _ _);exact GA (vi P hsz (GA (BH rfl ho (QD ⟨_,rfl,h⟩))))
noncomputable def oN:Array Nat:=#[14,10,4,1,1,22,0,31,16,127,0,13,7,22,0,31,16,127,0,1]
noncomputable def kY:Array Nat:=#[14,14,4,1,1,9,4294966783,0,0,2147483648,0,0,0,0,0,13,11,9,4294966783,0,0,2147483648,0,0,0,0,0,1]
theorem in1(ch:Nat)(h1:31<ch)(h2:ch≠127)(seen:Sre.Seen):∃J2,Sre.inSet oN ch oN.size 5 true seen=.ok (false,J2):=by
 refine⟨((seen.add 22).add 16).add 0,?_⟩;have a:¬((0<=ch&&ch<=31:Bool)=true):=by simp;exact Nat.lt_of_succ_le h1
 refine(Q5 (α:=Except String (Bool×Sre.Seen)) a).trans ?_;have b:¬((ch==127:Bool)=true):=by simpa using h2
 refine(Q5 (α:=Except String (Bool×Sre.Seen)) b).trans ?_;rfl
theorem yu(m:Sre.M)(KI:∀i,i<m.lim->∀seen,∃J2,Sre.inSet m.code (m.text.getD i 0) m.code.size 5 true seen=.ok (false,J2)):∀(MD s:Nat)(seen:Sre.Seen),∃J2,m.admitted MD s seen=.ok (none,J2):=by
 intro X_;induction X_ with
 |zero=>intro s seen;exact⟨seen,rfl⟩
 |succ MD IH=>
  intro s seen;show ∃x,ite (s>=m.lim) _ _=Except.ok (none,x);by_cases q:s>=m.lim
  ·rw[Rb q];exact⟨seen,rfl⟩
  ·rw[Q5 q]
   refine xE (KI s (by exact Nat.lt_of_not_le q) seen) λJ2 e=>?_;rw[e];exact IH (s+1) J2
theorem Bq{m:Sre.M}{MD s:Nat}{seen:Sre.Seen}{r:Except String (Option Nat×Sre.Seen)}(e:m.admitted MD s seen=r)(KI:∀i,i<m.lim->∀seen,∃J2,Sre.inSet m.code (m.text.getD i 0) m.code.size 5 true seen=.ok (false,J2)):∃J2,r=.ok (none,J2):=by exact xE (yu m KI MD s seen) λx y=>⟨x,e▸y⟩
theorem nK(m:Sre.M)(h1:m.outcome=none)(h2:m.frames=[]):((m.say false).runFor 4).outcome=some .failed:=by obtain⟨code,text,lim,start,lastStart,wholeText,mustAdvance,pc,pos,handed,outermost,marks,lastmark,lastindex,loops,gW,frames,weight,answer,seen,outcome⟩:=m;subst h1 h2;rfl
set_option tactic.hygienic true in
theorem oV(code:Array Nat)(hf:∀m:Sre.M,m.code=code->m.hasFirstSet=true)(x:List Nat)(h:∀ch∈x,∀seen,∃J2,Sre.inSet code ch code.size 5 true seen=.ok (false,J2)):((Sre.forSearch code (aj x).cps 0 0 (aj x).cps.size false).runFor 4).outcome=some .failed:=by
 have KI:∀i,i<(aj x).cps.size->∀seen,∃J2,Sre.inSet code ((aj x).cps.getD i 0) code.size 5 true seen=.ok (false,J2):=λi hi seen=>h _ (by
  have e:(aj x).cps.getD i 0=(aj x).cps[i]:=by rw[Array.getD_eq_getD_getElem?,Array.getElem?_eq_getElem hi];rfl
  rw[e]
  have:=Array.getElem_mem hi
  exact Array.mem_toList_iff.mpr this) seen
 unfold Sre.forSearch;dsimp only;split
 ·exact nK _ rfl rfl
 ·unfold Sre.M.attemptFrom
  rw[Q5 (by rw[hf _ rfl];exact Rc)];generalize e:Sre.M.admitted _ _ _ _=r;refine xE (Bq e KI) λJ2 e'=>?_;subst e';exact nK _ rfl rfl
theorem Eb(x:List Nat)(h:∀ch∈x,31<ch/\ch≠127):((Sre.forSearch oN (aj x).cps 0 0 (aj x).cps.size false).runFor 4).outcome=some .failed:=
 oV oN (λm e=>by unfold Sre.M.hasFirstSet;rw[e];rfl) x λch hc seen=>in1 ch (h ch hc).1 (h ch hc).2 seen
theorem OS(ch:Nat)(h1:31<ch\/ch=9)(h2:ch≠127)(seen:Sre.Seen):∃J2,Sre.inSet kY ch kY.size 5 true seen=.ok (false,J2):=by
 refine⟨(seen.add 9).add 0,?_⟩;have hb:¬(decide (ch<256)&&(kY.getD (5+(1+ch / 32)) 0).testBit (ch%32))=true:=by
  intro q;rw[R9,TI]at q;refine xA q λq1 q2=>?_
  have:∀ch:Fin 256,(31<ch.val\/ch.val=9)->ch.val≠127->(kY.getD (5+(1+ch.val / 32)) 0).testBit (ch.val%32)=false:=by decide +kernel
  rw[this ⟨ch,q1⟩ h1 h2]at q2;exact fF q2
 refine(Q5 (α:=Except String (Bool×Sre.Seen)) hb).trans ?_;rfl
theorem Ec(x:List Nat)(h:∀ch∈x,(31<ch\/ch=9)/\ch≠127):((Sre.forSearch kY (aj x).cps 0 0 (aj x).cps.size false).runFor 4).outcome=some .failed:=
 oV kY (λm e=>by unfold Sre.M.hasFirstSet;rw[e];rfl) x λch hc seen=>OS ch (h ch hc).1 (h ch hc).2 seen
section
variable(T:a6)
structure kU(C:Addr):Prop where
 get:∀(w:World)(Hy:Heap),T.Tp w Hy->∀(A:Around)(s:Shared)(x d b:Addr)(od:Obj)(ex:Bool)(Q:Ω)(E:Ω),(∀b o,Hy.get? b=some o->s.heap.get? b=some o)->
  s.heap.get? x=some (instObj C d)->s.heap.get? d=some od->lookIn "_headers" od=some (some (.ref b))->(∀tk,Q (.ref b) { s with toks:=tk })->wpAny (model P0 w) A (getAttr (.ref x) "_headers" ex) Q E s
def iZ(p:Addr)(code:Array Nat):Prop:=∀w h,T.Tp w h->lZ h p code
end
theorem lZ.keeps{p:Addr}{code:Array Nat}(x:lZ h p code)(k:∀b o,h.get? b=some o->h'.get? b=some o):lZ h' p code:=by obtain⟨po,fs,c,co,vs,n,h1,h2,h3,h4,h5,h6,h7⟩:=x.ex;exact⟨po,fs,c,co,vs,n,k _ _ h1,h2,h3,h4,h5,k _ _ h6,h7⟩
def vw(o:PySem.Expr)(name:Str)(p:Pos):Prop:=∀ZV,eval (.Attribute o name p) ZV=(do
   let x <-eval o ZV
   standAt p.atName
   let r <-holding [x] (getAttr x name true)
   letTemporaryGo o x r
   pure r)
theorem jH{C b:Addr}(h:Ev T c O o (.inst C b))(hA:kU T C)(tx:vw o "_headers" p):Ev T c O (.Attribute o "_headers" p) (.ref b):=by
 constructor;intros;refine Attribute_any_ (h.run ok tp R JE λov HX Uf rv=>?_) (tx ZV);refine b9.el JE.ex λm F S=>?_;refine RV.instK rv λU U hi=>?_;subst U
 ·exact bO.el hi λd od i1 i2 i3 i4=>hA.get w Hy tp A HX _ d b od true Q E (λb o e=>Uf.keep _ _ (F.keep _ _ e)) (ab.mp i1).2 (ab.mp i2).2 i3 λtk=>q _ _ (Uf.trans ax) (.ref b)
theorem fw(h:Ev T c O o (.hdr C ds))(hA:kU T C)(tx:vw o "_headers" p):Ev T c O (.Attribute o "_headers" p) (.list ds):=by
 constructor;intros;refine Attribute_any_ (h.run ok tp R JE λov HX Uf rv=>?_) (tx ZV);refine b9.el JE.ex λm F S=>?_;refine ym.el (RV.inv rv) λU U U U U hi hb rb=>?_;subst U
 ·exact bO.el hi λd od i1 i2 i3 i4=>hA.get w Hy tp A HX _ d _ od true Q E (λb o e=>Uf.keep _ _ (F.keep _ _ e)) (ab.mp i1).2 (ab.mp i2).2 i3 λtk=>q _ _ (Uf.trans ax) (.list hb rb)
noncomputable def NK:D->String|.none => "NoneType" |.bool _ => "bool" |.int _ => "int" |.str _ => "str" |.list _ => "list" |_ => "?"
noncomputable def Dt:D->Bool|.none=>true|.bool _=>true|.int _=>true|.str _=>true|.list _=>true|_=>false
theorem RV.ty(hf:Dt d=true)(r:RV (less s.heap ms) d v):s.TypeIs v (NK d):=by
 cases d<;>first|(cases hf;done)|skip
 ·obtain⟨_,rfl⟩:=r.inv;rfl
 ·obtain⟨_,rfl⟩:=r.inv;rfl
 ·refine xE r.inv λU U=>?_;subst U;rfl
 ·refine xE r.inv λU U=>?_;subst U;rfl
 ·refine dK.el (RV.inv r) λU U U zE h U=>?_;subst zE;exact⟨_,(ab.mp h).2,rfl⟩
theorem pV{ZV:Env}{ms₀ as:List Addr}(hb:Bl T x v)(hk:c.sc.names.lookup x=some .globalImplicit)(hd:(x==("__debug__" : Str))=false)(ok:aD c ZV)(tp:T.Tp w Hy)(JE:aC w c.wr ZV c.names Hy ms₀ as O s.heap)(q:Q v s):wpAny (model P0 w) A (eval (.Name x p) ZV) Q E s:=by
 refine xA (hb w Hy tp) λe1 e2=>?_;refine b9.el JE.ex λm F S=>?_;refine Name_function_global (by rw[ok.scope];exact ok.kind) (by rw[ok.kindOf];exact hk) ?_ hd;exact loadGlobal_builtin (by rw[ok.globals];exact(T.glob w Hy tp).keeps F.keep) e1 (by rw[ok.builtins];exact(T.blt w Hy tp).keeps F.keep) e2 q
theorem vk{t:Str}{tn:String}(hT:Bl T "type" (.type "type"))(ht:Bl T t (.type tn))(h:Ev T c O e d)(PK:Dt d=true)(PM:(Value.type (NK d)==Value.type "builtin_function_or_method")=false)(hk:c.sc.names.lookup ("type" : Str)=some .globalImplicit)(XW:c.sc.names.lookup t=some .globalImplicit)(hd:(t==("__debug__" : Str))=false)(he:∀ZV,eval (.Call (.Name "type" p') [e] [] p) ZV=(do callWith p (<-eval (.Name "type" p') ZV) [] (backTo p (starEach [e] ZV)) (backToKw p (keywordEach [] ZV))))(JW:Ω1 e)(J0:Ω3 p e)(hm:behindInMarks .Is (.Name t p2)=false):Tr T c O (.Compare (.Call (.Name "type" p') [e] [] p) [.Is] [.Name t p2] p3) (Value.type (NK d)==Value.type tn):=by
 constructor;intros;refine T0 (d7 hT rfl hk dk he JW J0 ok tp JE (h.run ok tp R JE λv HX Uf rv=>?_)) hm;exact call_type_of (rv.ty PK) PM (pV ht XW hd ok tp (JE.grow Uf.keep) (wpAny_is_plain rfl (SH (q _ Uf))))
theorem sn{p:Addr}{code:Array Nat}(hP:iZ T p code)(hr:Ev T c O o (.ref p))(h:Ev T c O e (.str x))(ct:cB o "search" p2 p3 [e])(JW:Ω1 e){ZV:Env}{ms₀ as:List Addr}(ok:aD c ZV)(tp:T.Tp w Hy)(R:aZ c.n A)(JE:aC w c.wr ZV c.names Hy ms₀ as O s.heap)(q:∀tk s',ao s s'->lZ s'.heap p code->wpAny (model P0 w) A (call (.builtin "re.Pattern.search") [.ref p,.str x tk]) Q E s'):wpAny (model P0 w) A (eval (.Call (.Attribute o "search" p2) [e] [] p3) ZV) Q E s:=by
 refine b9.el JE.ex λm F S=>?_;have Zt:=hP w Hy tp;obtain⟨po,fs,cc,co,vs,n,h1,h2,h3,_⟩:=Zt.ex;refine R2 (ct.base ZV) (ct.few ZV) ct.line jw lh tQ (hr.run ok tp R JE λv UM Uq rv=>?_);obtain⟨_,rfl⟩:=rv.inv;have U9:∀b o,Hy.get? b=some o->UM.heap.get? b=some o:=λb o e=>Uq.keep _ _ (F.keep _ _ e);refine⟨⟨po,U9 _ _ h1,h2⟩,λa' e'=>by obtain rfl:=Sn e';exact⟨_,U9 _ _ h1,h3⟩,?_⟩;have hh:=h.run (E:=E) (Q:=(λVC HX=>wpAny (model P0 w) A (call (.builtin "re.Pattern.search") [.ref p,VC]) Q E HX)) ok tp R (JE.grow Uq.keep) (λVC HX Uf rv=>by refine xE rv.inv λU U=>?_;subst U;exact q _ _ (Uq.trans Uf) (Zt.keeps λb o e=>Uf.keep _ _ (U9 _ _ e)));refine Rm (ct.plain ZV) ?_;have h2:wpAny (model P0 w) A (spliced (backTo p3 (starEach [e] ZV))) (λvs HX=>wpAny (model P0 w) A (call (.builtin "re.Pattern.search") (.ref p::vs)) Q E HX) E UM:=args_cons (Rt hh (λv s' h=>args_nil h) λU U h=>h) (JW ZV);rw[JW ZV]at h2 ⊢;exact Ss h2
theorem iu{p:Addr}{code:Array Nat}(hP:iZ T p code)(hr:Ev T c O o (.ref p))(h:Ev T c O e (.str x))(ct:cB o "search" p2 p3 [e])(JW:Ω1 e)(hsz:x.cps.size<=2^62)(ho:((Sre.forSearch code x.cps 0 0 x.cps.size false).runFor 4).outcome=some .failed)(he:∀ZV Kb,isTrue (.Call (.Attribute o "search" p2) [e] [] p3) ZV Kb=(do let v <-Kb;standAt (PySem.Expr.Call (.Attribute o "search" p2) [e] [] p3).pos;holding [v] (truthy v))):Tr T c O (.Call (.Attribute o "search" p2) [e] [] p3) false:=by
 constructor;intros;exact isTrue_plain (sn hP hr h ct JW ok tp R JE λtk s' a' P=>(tz P hsz ho (truthy_none (q _ a')))) (he ZV _)
theorem jI{p:D->Bool}{f:D->D}{g:D->St}(JS:It T c O JU iter items)(hn:n'<=c.n)(KR:Ω7 scope c)(JV:(scope.names.map (·.1)).Nodup)(J9:fr.length=fs.length)(JR:Ω6 c O fi fr fs)(K3:Ω5 .free fr scope)(KE:Ω5 .cell wr' scope)(nd:(own++fr).Nodup)(J1:scope.kind=.function)(hsz:items.length<=sizeLine)(hs:Ω4 iter)(hT:∀d∈items,∀Wj,Wj=own.map (λU=>Slot.no)++fs.map .val\/(∃d'∈items,Wj=g d')->Tg ⟨n',aP scope c.sc,own++fr,wr'⟩ Wj JU d (g d))(hb:∀d∈items,dc T ⟨n',aP scope c.sc,own++fr,wr'⟩ (g d) KD (p d))(he:∀d∈items,p d=true->Ev T ⟨n',aP scope c.sc,own++fr,wr'⟩ (g d) J4 (f d)):
  oI T c O (.ListComp J4 [⟨JU,iter,KD,0⟩] scope pos) (.list ((items.filter p).map f)):=by
 constructor;intros;rw[eval_ListComp];refine iy (use:=none) JS.toP hn KR JV J9 JR K3 KE nd J1 hsz hs hT hb he ok tp R JE λs' D C ml vs n a hD hC MU hl Z4 hn KH=>⟨ml,hn,λUF Uu=>q D _ ⟨λb o e=>?_,a.gens,a.drawn,a.os⟩ hD ⟨vs,n,(Uu.2 _ MU).trans hl,Z4.mono λa o qs e=>?_⟩⟩
 ·exact(Uu.2 b (dQ e hC)).trans (a.keep b o e)
 ·rw[ab]at e ⊢
  refine⟨e.1,(Uu.2 a λz=>?_).trans e.2⟩;subst z
  have:=dS qs
  rw[eL hn KH e.2]at this;exact fF this
noncomputable abbrev bG:Obj:={ cls:=.type "dict",data:=.dict #[] }
theorem y8{ZV:Env}{ms₀ as:List Addr}{Q:Flow->Shared->Prop}(JE:aC w c.wr ZV c.names Hy ms₀ as O s.heap)(Uf:ao s HX)(hI:s.heap.get? I=none)(hn:∀(Q':Option Value->Shared->Prop)E',(∀Ug,(∀b o,b≠I->HX.heap.get? b=some o->Ug.heap.get? b=some o)->bP HX Ug->Q' none Ug)->wpAny (model P0 w) A (pyNext (.ref I)) Q' E' HX)(q:∀s',aC w c.wr ZV c.names Hy ms₀ as O s'.heap->bP s s'->Q .next s'):
  codeAny (model P0 w) A (.forLoop JU (.ref I) body [] ZV) (λr s'=>match r with|.ok f=>Q f s'|.error e=>cameBackBy (model P0 w) A ZV E e s') HX:=by
 refine codeAny_forLoop_any (I:=λn s'=>s'=HX) ?_ 0 rfl;rintro n s' rfl;refine hn _ _ λUg k sm=>Ud (q _ (JE.grow λb o e=>?_) (Uf.same.trans sm));exact k b o (λz=>by rw[z,hI]at e;exact nS e) (Uf.keep _ _ e)
theorem oQ{d:Addr}(e:h.get? d=some bG):h.DictAt (PySem.strKind P0 w) d [] 0:=⟨_,#[],e,⟨rfl,rfl,rfl⟩,rfl,λU he=>by simp at he,Pairs.nil,Rs⟩
theorem oG{d:Addr}(h:Ev T c O o (.ref d))(hD:∀w h,T.Tp w h->h.get? d=some bG)(Mj:(d==sysModules)=false)(ct:cB o "items" p2 p3 [])(hs:∀ZV x,foldedSetIterable (.Call (.Attribute o "items" p2) [] [] p3) ZV x=pure x)(hp:P .next O):W1 T c O (.For JU (.Call (.Attribute o "items" p2) [] [] p3) body [] p) P:=by
 constructor;intros;refine wpAny_For ?_ (hs ZV);refine b9.el JE.ex λm F S=>?_;have hd:=F.keep _ _ (hD w Hy tp);refine R2 (ct.base ZV) (ct.few ZV) ct.line PySem.F.plainAttrs_dict PySem.F.slot_dict_items PySem.F.type_dict_items (h.run ok tp R JE λv HX Uf rv=>?_);obtain⟨_,rfl⟩:=rv.inv;have U7:=Uf.keep _ _ hd;refine⟨⟨_,U7,rfl⟩,λa' e'=>by obtain rfl:=Sn e';exact⟨_,U7,rfl⟩,Rm (ct.plain ZV) (PyProof.Rows.evalArgs_none ?_)⟩;refine call_meetsIn PySem.F.slot_dict_items ⟨_,U7,rfl⟩ PySem.F.entry_dict_items (PySem.F.args_dict_items_1 _) (meets_dict_items (PySem.strKind P0 w) d Mj) ⟨⟨[],_,#[],0,U7,⟨rfl,rfl,rfl⟩,rfl,λU he=>by simp at he,Pairs.nil,Rs⟩,?_⟩;have V0:(HX.heap.push { cls:=.type "dict_items",data:=.fields #[.ref d] }).DictAt (PySem.strKind P0 w) d [] 0:=oQ (QF _ U7);refine wpAny_pyIter_items (s:={ HX with heap:=HX.heap.push { cls:=.type "dict_items",data:=.fields #[.ref d] } }) ⟨_,Q2 _ rfl,rfl,rfl⟩ V0 ?_;refine y8 JE (Uf.trans (az.trans az)) (c9 Uf (by rw[Rq];exact SF _)) (λQ' E' h'=>?_) λs' JY sm=>q .next .next O as s' hp JY sm trivial;exact wpAny_pyNext_items_end (knd:=PySem.strKind P0 w) (kvs:=[]) R.handled (Q2 _ rfl) (oQ (QF _ (QF _ U7))) rfl λPS x=>h' _ (λb o hb e=>x b o hb e) ⟨rfl,rfl,rfl⟩
section
variable(T:a6)(c:Cx)
end
section
variable{T:a6}{c:Cx}{O:St}{X:XP}{m:Str}
end
theorem EJ{l:Addr}{items:Array Value}{x:Int}{u:Tok}(hl:s.heap.get? l=some { cls:=.type "list",dict:=none,data:=.seq items k,slots:=#[] })(XX:-(2^63:Int)<=x)(hhi:x<2^63)(hsz:items.size*x.toNat<=2^24)(h:Q (.ref s.heap.objs.size) { s with heap:=s.heap.push { cls:=.type "list",data:=.seq (List.foldl (λx1 x2=>x1++x2) #[] (List.replicate (if items.isEmpty=true then 0 else x.toNat) items)) } }):wpAny (model P0 w) A (binaryOp .Mult (.ref l) (.int x u)) Q E s:=
 wpAny_binaryOp_repeat_ref (T := "list") (U := "int") dk ⟨_,hl,rfl⟩ (λs'=>typeIs_int s' x u) noFill_list_mul PySem.F.fills_int_mul PySem.F.slot_int_rmul repeat_list PySem.F.slot_int_index.lookup
  (call_meets PySem.F.slot_int_rmul (typeIs_int s x u) PySem.F.entry_int_rmul (PySem.F.args_int_rmul_2 _ _) (int___rmul___int_list x u l items k)
   ⟨hl,rfl,⟨_,hl,rfl⟩,call_meets PySem.F.slot_list_mul ⟨_,hl,rfl⟩ PySem.F.entry_list_mul (PySem.F.args_list_mul_2 _ _)
    (AutoListH.list___mul___list_int_3 l items k x u (by simp[Builtin.List.listFitsIndex];exact And.symm ⟨hhi,XX⟩) (by lia) (by simp[Builtin.List.listTooLong,sizeLine];lia))
    ⟨hl,h⟩⟩)
theorem aX.rep(r:aX g ds vs):∀k:Nat,aX g (List.replicate k ds).flatten (List.replicate k vs).flatten:=by
 intro X_;induction X_ with
 |zero=>exact .nil
 |succ k IH=>rw[List.replicate_succ,List.replicate_succ,SE,SE];exact r.app (IH)
theorem Bm.ofT{k:_}{fp wr pv:List Addr}{Pt:Nat->Array Value->Prop}{St:Nat->Heap->Prop}{Mid:Nat->Addr->Heap->Prop}(W:WalksT P0 w A I fp wr n Pt St Mid)(hn:n=ds.length)(psub:∀b∈pv,b∈wr)(Z2:∀i h,St i h->∀b∈wr,b∉pv->∀o,h.get? b=some o->lQ o=true)(priv:∀i h,St i h->∀b∈pv,∃o,h.get? b=some o/\iN o=true)(plain:∀i h,St i h->∀b∈fp,∃o,h.get? b=some o/\bI o=true)(hP:∀i d vals,ds[i]? = some d->Pt i vals->∃dl,d=.tup dl/\aX g dl vals.toList):Bm w A (.Tuple elts k p) I fp wr pv g ds St where
 sub:=W.sub
 psub:=psub
 frame:=W.frame
 Z2:=Z2
 priv:=priv
 plain:=plain
 item:=λi d s Q E hd st h=>by
  have hi:i<n:=by rw[hn];exact(Q0.mp hd).1
  refine W.item i s _ E hi st λX vals h' tk hp hX Ps MF k'=>?_;refine W.go elts k p i X _ _ E MF λPS Pu WC=>?_;refine ay (hP i d vals hd hp) λdl U JL=>?_;subst U;refine Bh Ps λo ho hc m JM=>?_;refine h _ _ (λms sk ex=>?_) Pu ⟨λb o hb e=>WC b o hb (k' b o hb e),⟨rfl,rfl,rfl⟩⟩;refine .tup (o:=o) (vs:=vals.toList) (n:=m) ?_ hc (by rw[JM]) (JL.mono sk);rw[ab];refine⟨λz=>?_,WC _ _ (W.apart _ _ _ MF) ho⟩;exact xE (ex _ z) λo' e=>absurd (Rx e) (Sg.mpr hX)
 done:=λs Q E st h=>W.done s Q E (hn▸st) λh' tk k=>h _ ⟨k,⟨rfl,rfl,rfl⟩⟩
 self:=W.self
noncomputable def lG(xs ys:List D):List D:=(xs.zip ys).map λq=>.tup [q.1,q.2]
theorem DO{P:Nat->Prop}{a b c d:Nat}(h1:P a)(h2:P b)(h3:P c)(h4:P d):∀x∈[a,b,c,d],P x:=
 Sv.mpr ⟨h1,Sv.mpr ⟨h2,Sv.mpr ⟨h3,List.forall_mem_singleton.mpr h4⟩⟩⟩
theorem Gb{P:Nat->Prop}{a b c d e f g:Nat}(h1:P a)(h2:P b)(h3:P c)(h4:P d)(h5:P e)(h6:P f)(h7:P g):∀x∈[a,b,c,d,e,f,g],P x:=
 Sv.mpr ⟨h1,Sv.mpr ⟨h2,Sv.mpr ⟨h3,DO h4 h5 h6 h7⟩⟩⟩
theorem zD{k:_}{e1 e2:PySem.Expr}{xs ys:List D}(hb:Bl T "zip" (.type "zip"))(h1:Ev T c O e1 (.list xs))(h2:Ev T c O e2 (.list ys))(hk:c.sc.names.lookup ("zip" : Str)=some .globalImplicit:=by kernel_rfl)(he:∀ZV,eval (.Call (.Name "zip" p') [e1,e2] [] p) ZV=(do callWith p (<-eval (.Name "zip" p') ZV) [] (backTo p (starEach [e1,e2] ZV)) (backToKw p (keywordEach [] ZV))):=by intros;rfl)(JW:∀ZV,starEach [e1,e2] ZV=(false,eval e1 ZV)::starEach [e2] ZV:=by intros;rfl)(XY:∀ZV,starEach [e2] ZV=(false,eval e2 ZV)::starEach [] ZV:=by intros;rfl)(J0:∀ZV,(backTo p (starEach [e1,e2] ZV)).any (·.1)=false:=by intros;rfl):FF T c O (.Tuple elts k Kv) (.Call (.Name "zip" p') [e1,e2] [] p) (lG xs ys):=by
 constructor;intros;refine dN hb rfl (bC h1 (bC h2 ad XY) JW) hk dk he JW J0 ok tp R JE λvs HX Uf JL=>?_;refine cq.el JL.Z0 λU U U=>?_;subst U;intro rv1 JL;refine cq.el JL.Z0 λU U U=>?_;subst U;intro rv2 JL;obtain rfl:=JL.Z3;refine dK.el rv1.inv λl1 La n1 U hg1 WF=>?_;subst U;refine dK.el rv2.inv λl2 MI n2 U hg2 WG=>?_;subst U;have g1:=ab.mp hg1;have g2:=ab.mp hg2;have Mx:HX.heap.IsList l1 La.toArray:=⟨_,g1.2,rfl,n1,rfl⟩;have K7:HX.heap.IsList l2 MI.toArray:=⟨_,g2.2,rfl,n2,rfl⟩;have YF:l1<HX.heap.objs.size:=Rx g1.2;have YG:l2<HX.heap.objs.size:=Rx g2.2;refine call_zip_2 Mx K7 λh' hz PU Px Xo Xp hsz Ki=>wpAny_pyIter_zip hz ?_;have Uh:ao HX { HX with heap:=h' }:=⟨Ki,rfl,rfl,rfl⟩;have Uk:=JE.grow Uf.keep;generalize hN:HX.heap.objs.size=N at YF YG hz PU Px Xo Xp ⊢;have YF:@LT.lt Nat _ l1 N:=YF;have YG:@LT.lt Nat _ l2 N:=YG;have D:ZipApart (N+4) (N+2) (N+3) N (N+1) l1 l2:=by constructor<;>first|exact RW (by lia)|exact TJ (by lia)
 have JR:∀b,N<=b->HX.heap.get? b=none:=λb hb=>aK (hN▸hb);have XC:∀b,N<=b->s.heap.get? b=none:=λb hb=>c9 Uf (hN▸hb);have WX:∀b,N<=b->b∉ms₀++as:=λb hb=>iE Uk (hN▸hb);have up:∀k,N<=N+k:=TR N;refine q (N+4) [N+4,N+2,N+3,N,N+1,l1,l2] [N+4,N+3,N,N+1] [N+3] _ _ (Uf.trans Uh) (DO (XC _ (up 4)) (XC _ (up 3)) (XC _ (up 0)) (XC _ (up 1))) (Gb (WX _ (up 4)) (WX _ (up 2)) (WX _ (up 3)) (WX _ (up 0)) (WX _ (up 1)) g1.1 g2.1) (λA' R'=>Bm.ofT (WalksT.zip2 R'.handled (N+4) (N+2) (N+3) N (N+1) l1 l2 D La.toArray MI.toArray) ?_ ?_ ?_ ?_ ?_ ?_)
  ⟨hz,PU,⟨_,_,Px⟩,Xo,Xp,Mx.at λo e=>Ki l1 o e,K7.at λo e=>Ki l2 o e⟩
 ·unfold lG
  rw[Qs,TE,QJ,QJ,WF.length,WG.length]
 ·intro b hb
  rw[QB.mp hb];simp
 ·rintro i h ⟨hz,PU,⟨a,b,Px⟩,⟨o1,MW,Xz,Lf⟩,⟨o2,Py,hc2,PO⟩,_⟩
  exact DO (λU o' e=>QG (hz.symm.trans e)▸rfl) (λhp=>absurd (QB.mpr rfl) hp)
   (λU o' e=>QG (MW.symm.trans e)▸kD Lf Xz dk) (λU o' e=>QG (Py.symm.trans e)▸kD PO hc2 dk)
 ·rintro i h ⟨hz,PU,⟨a,b,Px⟩,_⟩ b' hb
  rw[QB.mp hb];exact⟨_,Px,rfl⟩
 ·rintro i h ⟨hz,PU,⟨a,b,Px⟩,⟨o1,MW,Xz,Lf⟩,⟨o2,Py,hc2,PO⟩,⟨o3,ho3,hc3,n3,hd3⟩,⟨o4,ho4,hc4,n4,hd4⟩⟩
  have pk:∀{o:Obj}{d:Data},o.data=d->bI { o with data:=d }=bI o:=λe=>by rw[<-e]
  exact Gb ⟨_,hz,rfl⟩ ⟨_,PU,rfl⟩ ⟨_,Px,rfl⟩ ⟨o1,MW,(pk Lf).symm.trans rfl⟩ ⟨o2,Py,(pk PO).symm.trans rfl⟩ ⟨o3,ho3,(pk hd3).symm.trans rfl⟩ ⟨o4,ho4,(pk hd4).symm.trans rfl⟩
 ·rintro i d vals hd ⟨x,y,hx,hy,rfl⟩
  unfold lG at hd;rw[QX]at hd;obtain⟨⟨dx,dy⟩,hq,rfl⟩:=RF.mp hd;obtain⟨hdx,hdy⟩:=List.getElem?_zip_eq_some.mp hq;refine ay (WF.get hdx) λv1 e1 r1=>?_;refine ay (WG.get hdy) λv2 e2 r2=>?_;rw[Q6,e1]at hx;rw[Q6,e2]at hy;obtain rfl:=QG hx;obtain rfl:=QG hy;have sk:am (less HX.heap (ms₀++as)) (less h' ([N+3]++ms₀++as)):=λa o U e=>by
   rw[ab]at e ⊢;refine⟨λz=>?_,Ki _ _ e.2⟩;rw[QQ]at z;rcases Qz.mp z with z|z
   ·rw[QB.mp z,JR _ (by lia)]at e;cases e.2
   ·exact e.1 z
  exact⟨_,rfl,.cons (r1.mono sk) (.cons (r2.mono sk) .nil)⟩
theorem se{p:D->Bool}{f:D->D}{g:D->St}(JS:FF T c O JU iter items)(hn:n'<=c.n)(KR:Ω7 scope c)(JV:(scope.names.map (·.1)).Nodup)(J9:fr.length=fs.length)(JR:Ω6 c O fi fr fs)(K3:Ω5 .free fr scope)(KE:Ω5 .cell wr' scope)(nd:(own++fr).Nodup)(J1:scope.kind=.function)(hsz:items.length<=sizeLine)(hs:Ω4 iter)(hT:∀d∈items,∀Wj,Wj=own.map (λU=>Slot.no)++fs.map .val\/(∃d'∈items,Wj=g d')->Tg ⟨n',aP scope c.sc,own++fr,wr'⟩ Wj JU d (g d))(hb:∀d∈items,dc T ⟨n',aP scope c.sc,own++fr,wr'⟩ (g d) KD (p d))(he:∀d∈items,p d=true->Ev T ⟨n',aP scope c.sc,own++fr,wr'⟩ (g d) J4 (f d)):
  Ev T c O (.ListComp J4 [⟨JU,iter,KD,0⟩] scope pos) (.list ((items.filter p).map f)):=by
 constructor;intros;rw[eval_ListComp];refine iy (use:=none) JS hn KR JV J9 JR K3 KE nd J1 hsz hs hT hb he ok tp R JE λs' D C ml vs n a hD hC MU hl Z4 hn KH=>⟨ml,hn,λUF Uu=>q _ _ ⟨λb o e=>?_,a.gens,a.drawn,a.os⟩ ?_⟩
 ·exact(Uu.2 b (dQ e hC)).trans (a.keep b o e)
 ·have JO:D∉ms₀++as:=λz=>by refine xE (JE.have _ z) λo e=>?_;rw[hD]at e;exact nS e
  refine .list (vs:=vs) (n:=n) ?_ (Z4.mono λa o qs e=>?_)
  ·rw[ab]
   exact⟨JO,(Uu.2 _ MU).trans hl⟩
  ·rw[ab]at e ⊢
   refine⟨λz=>e.1 (QA _ z),(Uu.2 a λz=>?_).trans e.2⟩;subst z
   have:=dS qs
   rw[eL hn KH e.2]at this;exact fF this
theorem oI.b(h:oI T c O e (.list ds)):IF true T c O e (.list ds):=by constructor;intros;refine h.run ok tp R JE λa s' af hn ⟨vs,n,e,r⟩=>q _ _ af (.list (vs:=vs) (n:=n) (ab.mpr ⟨λz=>?_,e⟩) (r.mono (aT λb hb=>QA _ hb))) λU=>⟨a,rfl,hn⟩;refine xE (JE.have a z) λo e'=>?_;rw[hn]at e';exact nS e'
theorem CG(gs:List Addr):aX g (gs.map .ref) (gs.map .ref):=by
 induction gs with
 |nil=>exact .nil
 |cons a gs ih=>exact .cons (.ref a) ih
theorem nI{is:List Int}(h:aX g (is.map .int) vs):aX g' (is.map .int) vs:=by
 induction is generalizing vs with
 |nil=>obtain rfl:=aX.Z3 h;exact .nil
 |cons i is ih=>refine aX.Z9 h λU U zE a r=>RV.intK a λt zF=>?_;subst zE;subst zF;exact .cons (.int _ _) (ih r)
theorem CJ:∀{gs:List Addr}{iss:List (List Int)},aX (less h ms) (iss.map λis=>.list (is.map .int)) (gs.map .ref)->∀q∈gs.zip iss,iU w (less h ms') h q.1 (.list (q.2.map .int)):=by
 intro gs;induction gs with
 |nil=>exact λU q hq=>by contradiction
 |cons a gs ih=>
  intro iss rv q hq;rcases iss with _|⟨is,iss⟩
  ·contradiction
  ·refine xA (aX.both rv) λr rv=>?_
   rcases Qw.mp hq with z|z
   ·subst z
    refine dK.el (RV.inv r) λU U U zE e r=>?_;obtain rfl:=Sn zE;exact⟨_,_,(ab.mp e).2,nI r⟩
   ·exact ih rv q z
theorem vy(p q:List Value)(y:Value)(n:Nat):Obj.mapSeq (λxs=>xs.eraseIdxIfInBounds p.length) (aQ "list" (p++y::q) n)=aQ "list" (p++q) (n+1):=by
 unfold Obj.mapSeq aQ;have e:(p++y::q).toArray.eraseIdxIfInBounds p.length=(p++q).toArray:=by unfold Array.eraseIdxIfInBounds;rw[dif_pos (by rw[QJ,Qu,QK];lia),List.eraseIdx_toArray,List.eraseIdx_append_of_length_le (QO _),Nat.sub_self,List.eraseIdx_cons_zero]
 simp only[e];rw[QJ,QJ,Qu,Qu,QK]
 have:(p.length+q.length==p.length+(q.length+1))=false:=by rw[beq_eq_false_iff_ne];exact Nat.ne_add_one (p.length+q.length)
 simp[this]
theorem aX.cut{b:List D}:∀(a:List D){vs:List Value},aX g (a++b) vs->∃v1 v2,vs=v1++v2/\aX g a v1/\aX g b v2:=λa=>by
 induction a with
 |nil=>exact λh=>⟨[],_,rfl,.nil,h⟩
 |cons d a ih=>intro vs h;refine cq.el h.Z0 λv vs' U=>?_;subst U;intro r h;refine kg (ih h) λv1 v2 U r1 r2=>?_;subst U;exact⟨v::v1,v2,rfl,.cons r r1,r2⟩
theorem tm(i:Nat){ZV:Env}{ms₀ as:List Addr}{rest:List Value}(JE:aC w c.wr ZV c.names Hy ms₀ as O HX.heap)(sm:bP s HX)(hx:c.names[i]? = some x)(hd:O[i]? = some (.mu a (.list (ds1++d::ds2))))(hm:∀(La MI:List Value)(y:Value)(n:Nat),La.length=ds1.length->MI.length=ds2.length->Meets (Builtin.«list.pop» ⟨.ref a::rest,[]⟩) (λU R s=>s.heap.get? a=some (aQ "list" (La++y::MI) n)/\R (.ok (.ret y)) { s with heap:=s.heap.update a (Obj.mapSeq λxs=>xs.eraseIdxIfInBounds La.length) }))(ha:argsOk "list.pop" ⟨.ref a::rest,[]⟩)(q:∀v s',aC w c.wr ZV c.names Hy ms₀ as (O.set i (.mu a (.list (ds1++ds2)))) s'.heap->bP s s'->RV (less s'.heap (ms₀++as)) d v->Q v s'):wpAny (model P0 w) A (call (.builtin "list.pop") (.ref a::rest)) Q E HX:=by
 refine nY.el (cV JE hx hd) λvs n KC Mo=>?_;refine kg (Mo.cut ds1) λLa ws U r1 r2=>?_;subst U;refine cq.el r2.Z0 λy MI U=>?_;subst U;intro ry r2;refine call_meets PySem.F.slot_list_pop ⟨_,KC,rfl⟩ PySem.F.entry_list_pop ha (hm La MI y n r1.length r2.length) ⟨KC,?_⟩;have hs:Heap.SameBut a HX.heap (HX.heap.update a (Obj.mapSeq λxs=>xs.eraseIdxIfInBounds La.length)):=Rz ..;have ho:(HX.heap.update a (Obj.mapSeq λxs=>xs.eraseIdxIfInBounds La.length)).get? a=some (aQ "list" (La++MI) (n+1)):=by rw[Rk _ KC (by rw[vy];rfl),vy]
 have m:=nq (o':=.list (ds1++ds2)) JE hx hd hs ⟨_,_,ho,r1.app r2⟩;exact q _ _ m.1 (sm.trans ⟨rfl,rfl,rfl⟩) (ry.mono m.2)
theorem BK(i:Nat)(hr:Ev T c O o (.ref a))(hx:c.names[i]? = some x)(hd:O[i]? = some (.mu a (.list (ds++[d]))))(ct:cB o "pop" p2 p3 [])(hsz:ds.length+1<=sizeLine):
  Bp T c O (.Call (.Attribute o "pop" p2) [] [] p3) d (O.set i (.mu a (.list ds))):=by
 constructor;intros;refine R2 (ct.base ZV) (ct.few ZV) ct.line SW PySem.F.slot_list_pop PySem.F.type_list_pop (hr.run ok tp R JE λv UM Uq rv=>?_);obtain⟨_,rfl⟩:=rv.inv;have Ux:=JE.grow Uq.keep;refine nY.el (cV Ux hx hd) λvs n KC Mo=>?_;refine⟨⟨_,KC,rfl⟩,λa' e'=>?_,?_⟩
 ·obtain rfl:=Sn e';exact⟨_,KC,rfl⟩
 ·refine Rm (ct.plain ZV) (PyProof.Rows.evalArgs_none ?_)
  exact tm i (ds2:=[]) Ux Uq.same hx hd (λLa MI y n h1 h2=>by
   have e2:=Ri.mp h2;subst e2;have hk:(La++[y]).toArray.size-1=La.length:=by rw[QJ,Qu];rfl
   have:=PySem.MeetsSeq.list_pop_last a (La++[y]).toArray n y (by rw[hk];simp) (by rw[QJ,Qu,h1];exact hsz)
   rw[hk]at this;exact this) (PySem.F.args_list_pop_1 _) (λv s' r sm rv=>q v s' (by rw[QN]at r;exact r) sm rv)
theorem xa(i:Nat){k:Int}(hr:Ev T c O o (.ref a))(he:rn T c O [e] [.int k])(hx:c.names[i]? = some x)(hd:O[i]? = some (.mu a (.list (ds1++d::ds2))))(ct:cB o "pop" p2 p3 [e])(JW:Ω1 e)(hf:Builtin.List.listFitsIndex k=true)(hk:seqIndex? k (ds1.length+(ds2.length+1))=some ds1.length)(hsz:ds1.length+(ds2.length+1)<=sizeLine):
  Bp T c O (.Call (.Attribute o "pop" p2) [e] [] p3) d (O.set i (.mu a (.list (ds1++ds2)))):=by
 constructor;intros;refine R2 (ct.base ZV) (ct.few ZV) ct.line SW PySem.F.slot_list_pop PySem.F.type_list_pop (hr.run ok tp R JE λv UM Uq rv=>?_);obtain⟨_,rfl⟩:=rv.inv;have Ux:=JE.grow Uq.keep;refine nY.el (cV Ux hx hd) λvs n KC Mo=>?_;refine⟨⟨_,KC,rfl⟩,λa' e'=>?_,?_⟩
 ·obtain rfl:=Sn e';exact⟨_,KC,rfl⟩
 ·have hh:=he.run (E:=E) (Q:=(λUz HX=>wpAny (model P0 w) A (call (.builtin "list.pop") (.ref a::Uz)) Q E HX)) ok tp R Ux (λUz HX Uf JL=>?_) p3
  ·refine Rm (ct.plain ZV) ?_
   rw[JW ZV]at hh ⊢;exact Ss hh
  ·refine cq.el JL.Z0 λv U U=>?_;subst U;intro rv JL
   obtain rfl:=JL.Z3;refine xE rv.inv λu U=>?_;subst U;exact tm i (Ux.grow Uf.keep) (Uq.same.trans Uf.same) hx hd (λLa MI y n h1 h2=>PySem.MeetsSeq.list_pop_at a (La++y::MI).toArray n k u La.length y hf (by rw[QJ,Qu,QK,h1,h2];exact hk) (by simp) (by rw[QJ,Qu,QK,h1,h2];exact hsz)) (PySem.F.args_list_pop_2 _ _) q
theorem tT(i:Nat)(hr:Ev T c O o (.ref a))(h:Bp T c O e d Wj)(hx:c.names[i]? = some x)(Xm:O[i]? = some (.mu a (.list ds)))(hd:Wj[i]? = some (.mu a (.list ds)))(ct:cB o "append" p2 p3 [e])(JW:Ω1 e)(hsz:ds.length<=sizeLine)(hi:∀ZV,aD c ZV->interactive ZV=false)(MX:∀ZV,swapsWith (.Call (.Attribute o "append" p2) [e] [] p3) none p4.line ZV=pure false)(hp:P .next (Wj.set i (.mu a (.list (ds++[d]))))):W1 T c O (.Expr (.Call (.Attribute o "append" p2) [e] [] p3) p4) P:=by
 constructor;intros;refine wpAny_Expr_any (R2 (ct.base ZV) (ct.few ZV) ct.line SW slot_list_append type_list_append (hr.run ok tp R JE λv UM Uq rv=>?_)) (hi ZV ok) (MX ZV);obtain⟨_,rfl⟩:=rv.inv;have Ux:=JE.grow Uq.keep;refine nY.el (cV Ux hx Xm) λvs n KC Mo=>?_;refine⟨⟨_,KC,rfl⟩,λa' e'=>?_,?_⟩
 ·obtain rfl:=Sn e';exact⟨_,KC,rfl⟩
 ·have hh:wpAny (model P0 w) A (spliced (backTo p3 (starEach [e] ZV))) (λUz HX=>wpAny (model P0 w) A (call (.builtin "list.append") (.ref a::Uz)) (λU=>Q .next) E HX) E UM:=by
   refine args_cons (h.run ok tp R Ux λv HX Uk sm rv=>args_nil ?_) (JW ZV);refine nY.el (cV Uk hx hd) λvs n KC Mo=>?_;refine append_at (hsz:=by rw[QJ,Mo.length];exact hsz) (its:=vs.toArray) (n:=n) KC λh' hs KS=>?_;have Lg:h'.get? a=some (aQ "list" (vs++[v]) (n+1)):=by rw[KS];simp[aQ]
   exact q .next .next _ as _ hp (nq (o':=.list (ds++[d])) Uk hx hd hs ⟨_,_,Lg,Mo.app (.cons rv .nil)⟩).1 ((Uq.same.trans sm).trans ⟨rfl,rfl,rfl⟩) trivial
  refine Rm (ct.plain ZV) ?_;rw[JW ZV]at hh ⊢;exact Ss hh
theorem BJ{l r:PySem.Expr}(ha:Bp T c O l (.list as') Wj)(hb:Ev T c Wj r (.list bs))(hsz:as'.length+bs.length<=sizeLine):Bp T c O (.BinOp l .Add r p) (.list (as'++bs)) Wj:=by constructor;intros;refine wpAny_BinOp (ha.run ok tp R JE λx HX Uk sm rx=>?_);refine hb.run ok tp R Uk λy Ug Uh ry=>?_;have rx:=rx.mono (ai (ms:=ms₀++as) Uh.keep);refine dK.el rx.inv λa vs n U hg JL=>?_;subst U;refine dK.el ry.inv λa' vs' n' U Kc MH=>?_;subst U;have Um:=Uk.grow Uh.keep;refine PySem.P.add_list (items:=vs.toArray) (items2:=vs'.toArray) (ab.mp hg).2 (ab.mp Kc).2 ?_ (by rw[QJ,QJ,JL.length,MH.length];exact hsz);refine q _ _ (Um.grow az.keep) (sm.trans (Uh.same.trans az.same)) (.list (vs:=vs++vs') (n:=0) ?_ ((JL.app MH).mono (ai λU U e=>QF _ e)));rw[ab];refine⟨gr Um (QO _),(dC rfl).trans ?_⟩;simp[aQ]
theorem A2{op op':CmpOp}{l r z:PySem.Expr}{a b d:D}{v v':Bool}(ha:Ev T c O l a)(hb:Ev T c O r b)(ho:bj c.n op a b v)(hd:v=true->Ev T c O z d)(KS:v=true->bj c.n op' b d v')(hm:lastMarks [op,op'] [r,z]=false):Tr T c O (.Compare l [op,op'] [r,z] p) (v&&v'):=by
 constructor;intros;refine isTrue_chain (ha.run ok tp R JE λx HX Uf rx=>test_link ?_) hm;refine hb.run ok tp R (JE.grow Uf.keep) λy Ug Uh ry=>?_;refine ho.run w A _ _ x y Ug _ E rfl R (rx.mono (ai Uh.keep)) ry λtk=>SH ?_;have Uj:=(Uf.trans Uh).trans (ax (s:=Ug) (t:=tk));rcases v with _|_
 ·exact q _ Uj
 ·exact test_last ((hd rfl).run ok tp R (JE.grow Uj.keep) λu Ui VL ru=>((KS rfl).run w A _ _ y u Ui _ E rfl R (ry.mono (ai VL.keep)) ru λtk=>SH (q _ ((Uj.trans VL).trans ax))))
theorem yW{f:Str}(hf:Fn T n f [] r)(hn:n<=c.n)(hk:c.sc.names.lookup f=some .globalImplicit)(hd:(f==("__debug__" : Str))=false)(he:∀ZV,eval (.Call (.Name f p') [] [] p) ZV=(do callWith p (<-eval (.Name f p') ZV) [] (backTo p (starEach [] ZV)) (backToKw p (keywordEach [] ZV)))):Ev T c O (.Call (.Name f p') [] [] p) r:=by
 constructor;intros;refine lX (hf w Hy tp) λfa o fd e1 e2 e3 Ld=>?_;refine b9.el JE.ex λm F S=>?_;refine Call_ (Name_function_global (by rw[ok.scope];exact ok.kind) (by rw[ok.kindOf];exact hk) ?_ hd) (he ZV);refine TG (env:=ZV) (by rw[ok.globals];exact(T.glob w Hy tp).keeps F.keep) e1 ?_;exact PyProof.Rows.callWith_meth0 e3 (F.keep _ _ e2) (Ld A s (ms₀++as) [] Q E (λb o e=>F.keep _ _ e) (R.less hn) JE.have .nil λv s' a' rv=>q _ _ a' rv)
section
variable(T:a6)
def FD(n:Nat)(x:Str)(ds:List D)(ob:Mu):Prop:=
 ∀(w:World)(Hy:Heap),T.Tp w Hy->∃f o fd,T.mg w x=some (.ref f)/\Hy.get? f=some o/\o.data=.func fd/\
  ∀(A:Around)(s:Shared)(ms:List Addr)(vals:List Value)(Q:Ω)(E:Ω),
   (∀b o,Hy.get? b=some o->s.heap.get? b=some o)->aZ n A->(∀a∈ms,∃o,s.heap.get? a=some o)->aX (less s.heap ms) ds vals->
   (∀a s',ao s s'->s.heap.get? a=none->iU w (less s'.heap (a::ms)) s'.heap a ob->Q (.ref a) s')->wpAny (model P0 w) A (call (.ref f) vals) Q E s
end
theorem Eg(hf:cf T x ps sc [.Return (some e) p])(JF:ds.length=ps.length)(fr:vx sc ps [] rest wr)(hW:oI T ⟨n,sc,ps++rest,wr⟩ (ds.map .val++List.replicate rest.length .no) e ob):FD T (n+1) x ds ob:=by
 intro w Hy tp;obtain⟨f,o,fd,e1,e2,e3,e4,e5,e6,e7,e8,e9,e10⟩:=hf w Hy tp;refine⟨f,o,fd,e1,e2,e3,λA s ms vals Q E keep R old JL q=>?_⟩;have hl:vals.length=ps.length:=JL.length.trans JF;refine gi (X:=λU=>True) (gs:=[]) (ms:=ms) (ds:=ds) (ps:=ps) (rest:=rest) (wr:=wr) (n8.keeps ⟨⟨o,e2,e3⟩,e4,e5,e6,e7,e8,e9⟩ keep) ((T.nolimit w Hy tp).keeps keep) R JF (λQ' E' h=>by rw[e10 _ hl];exact QD (h _ s (ao.refl s) (by show aX (less s.heap (ms++[])) _ _;rw[QN];exact JL) trivial)) Rs nofun
  (λa ha=>⟨nofun,old a ha⟩) (T.keeps _ _ _ tp keep) fr.nd fr.kind fr.co fr.gen fr.par nofun fr.free fr.wr fr.hd λHX Ug ZV he Uf U Uh ok Kv JE=>?_
 refine Tm (wpAny_Return_some (hW.run (ms₀:=ms) (as:=[]) ok Kv R.deeper JE λa s' Uj hn mr=>q a s' (Uf.trans (Uh.trans Uj)) ?_ ?_))
 ·rcases e:s.heap.get? a with _|o
  ·rfl
  ·have:=Uh.keep _ _ (Uf.keep _ _ e);rw[hn]at this;exact nS this
 ·rw[QN]at mr;exact mr
theorem kA{f:Str}(hf:FD T n f [] ob)(hn:n<=c.n)(hk:c.sc.names.lookup f=some .globalImplicit:=by kernel_rfl)(hd:(f==("__debug__" : Str))=false:=by rfl)(he:∀ZV,eval (.Call (.Name f p') [] [] p) ZV=(do callWith p (<-eval (.Name f p') ZV) [] (backTo p (starEach [] ZV)) (backToKw p (keywordEach [] ZV))):=by intros;rfl):oI T c O (.Call (.Name f p') [] [] p) ob:=by
 constructor;intros;refine lX (hf w Hy tp) λfa o fd e1 e2 e3 Ld=>?_;refine b9.el JE.ex λm F S=>?_;refine Call_ (Name_function_global (by rw[ok.scope];exact ok.kind) (by rw[ok.kindOf];exact hk) ?_ hd) (he ZV);refine TG (env:=ZV) (by rw[ok.globals];exact(T.glob w Hy tp).keeps F.keep) e1 ?_;exact PyProof.Rows.callWith_meth0 e3 (F.keep _ _ e2) (Ld A s (ms₀++as) [] Q E (λb o e=>F.keep _ _ e) (R.less hn) JE.have .nil q)
theorem w8{l r:PySem.Expr}(ha:Ev T c O l (.str x))(hb:Ev T c O r (.int k))(hk:PySem.MulOk x k):Ev T c O (.BinOp l .Mult r p) (.str (PySem.Txt.mul x k)):=by constructor;intros;refine wpAny_BinOp (ha.run ok tp R JE λx HX Uf rx=>?_);refine hb.run ok tp R (JE.grow Uf.keep) λy Ug Uh ry=>?_;refine xE rx.inv λU U=>?_;subst U;refine xE ry.inv λU U=>?_;subst U;exact PySem.SB.mul hk λt' k=>q _ _ ((Uf.trans Uh).trans ax) (.str _ _)
theorem oq{a b:Str}:bj n .NotIn (.str a) (.str b) (!Txt.contains b a):=⟨λw A h ms x y s Q E U R rx ry q=>by refine xE rx.inv λU U=>?_;subst U;refine xE ry.inv λU U=>?_;subst U;exact PySem.SB.notContains (q s.toks)⟩
theorem sK:∀t:List (List Nat),Str.join (.ofString "") (t.map aj)=aj t.flatten
 |[]=>rfl
 |[c]=>QV aj (QN c).symm
 |c::d::t=>by have e:=sK (d::t);have h:Str.join (.ofString "") ((c::d::t).map aj)=aj c++.ofString "" ++ Str.join (.ofString "") ((d::t).map aj):=rfl;rw[h,e,show Str.ofString "" = aj []from rfl,bq,bq,QN];rfl
theorem pj(t:List (List Nat)):Txt.join (.ofString "") (t.map aj)=aj t.flatten:=(beq_iff_eq.mp (join_plain_closes _ _)).trans (sK t)
theorem wt(l:List Nat)(n:Nat):Txt.slice (aj l) (some (n:Int)) none=aj (l.drop n):=by
 rw[fb];have e1:nZ l.length (some (n:Int))=min n l.length:=eI _ _;have e2:rP l.length none=l.length:=rfl;rw[e1,e2,Te (by rw[Rg];exact QO _)];by_cases h:n<=l.length
 ·rw[Tb h]
 ·rw[Nat.min_eq_right (by exact Nat.le_of_not_ge h),List.drop_length,List.drop_eq_nil_of_le (by exact Nat.le_of_not_ge h)]
theorem wq(l:List Nat):Txt.slice (aj l) none (some 1)=aj (l.take 1):=by rw[fb];have e2:rP l.length (some 1)=min 1 l.length:=eI _ 1;rw[e2];show aj (l.take (min 1 l.length-0))=_;rw[Nat.sub_zero,show l.take (min 1 l.length)=l.take 1 from List.take_eq_take_iff.mpr (by lia)]
theorem ic{α:Type}{l:List α}(h:l.length=n+1):∃a r,l=a::r/\r.length=n:=by refine vu (R4 h) λa r U=>?_;subst U;exact⟨a,r,rfl,Nat.succ.inj h⟩
theorem AZ{α:Type}{l:List α}(h:l.length=3):∃a b c,l=[a,b,c]:=by refine dE (ic h) λa l1 e1 h1=>?_;refine dE (ic h1) λb l2 e2 h2=>?_;refine dE (ic h2) λc l3 e3 h3=>?_;exact⟨a,b,c,by rw[e1,e2,e3,Ri.mp h3]⟩
theorem five{α:Type}{l:List α}(h:l.length=5):∃a b c d e,l=[a,b,c,d,e]:=by refine dE (ic h) λa l1 e1 h1=>?_;refine dE (ic h1) λb l2 e2 h2=>?_;refine tZ (AZ h2) λc d e e3=>?_;exact⟨a,b,c,d,e,by rw[e1,e2,e3]⟩
noncomputable def aU(xs:List Nat):List D:=xs.map λ(x:Nat)=>D.int x
theorem ee{l:List Nat}(h:k<l.length):(aU l)[k]? = some (.int (l.getD k 0:Nat)):=by unfold aU;rw[QX,Qv,QE h];rfl
theorem ku(h:d∈k8 ds):∃(i:Nat)(y:D),ds[i]? = some y/\d=.tup [.int i,y]:=by obtain⟨i,hi⟩:=Tz h;exact ay (gc hi) λy hy e=>⟨i,y,hy,e⟩
theorem j8{fs:St}{g:D->St}(h:Wj=[.no,.no]++fs\/∃d'∈items,Wj=g d')(hg:∀d'∈items,∃x y,g d'=.val x::.val y::fs):∃o o',Wj=o::o'::fs/\o.ZW=false/\o'.ZW=false:=by
 rcases h with rfl|⟨d',JX,rfl⟩
 ·exact⟨_,_,rfl,rfl,rfl⟩
 ·exact vu (hg d' JX) λx y e=>⟨_,_,e,rfl,rfl⟩
theorem bL{fs:St}{g:D->St}(h:Wj=[.no]++fs\/∃d'∈items,Wj=g d')(hg:∀d'∈items,∃x,g d'=.val x::fs):∃o,Wj=o::fs/\o.ZW=false:=by
 rcases h with rfl|⟨d',JX,rfl⟩
 ·exact⟨_,rfl,rfl⟩
 ·exact xE (hg d' JX) λx e=>⟨_,e,rfl⟩
noncomputable def IX:D->Nat|.str y=>y.cps.getD 0 0|_=>0
noncomputable def Bz:D->Nat|.int k=>k.toNat|_=>0
noncomputable def NH:D->Nat|.tup [.int k,_]=>k.toNat|_=>0
noncomputable def NI:D->D|.tup [_,s]=>s|_=>.none
noncomputable def Iv(l:St):D->St|.tup [k,s]=>.val k::.val s::l|_=>[]
theorem fk:-(2^63)<=(k:Int):=s6
theorem ey(h:k<n)(g:n<=60):(k:Int)<2^63:=Jy h g
theorem lR(x a b:Nat):Int.fmod (Int.fdiv (x:Int) a) b=((x / a%b:Nat):Int):=(QV (λz=>Int.fmod z b) (sA x a)).trans (cw _ b)
theorem Bw{l:List Nat}(h:d∈jD (aj l)):∃ch∈l,d=.str (aj [ch]):=by rw[mt]at h;refine ay (QR.mp h) λch Mc U=>?_;subst U;exact⟨ch,Mc,rfl⟩
theorem Bu{l:List Nat}{f:D->D}:((jD (aj l)).filter (λU=>true)).map f=l.map λc=>f (.str (aj [c])):=by rw[RD.mpr (Z 5),mt,QZ];rfl
theorem mi{l:List D}{f:D->D}:(l.filter λU=>true).map f=l.map f:=QV _ (RD.mpr λU U=>rfl)
theorem CO(n:Nat)(ds:List D):qU ds none (some (n:Int))=ds.take n:=by rw[xZ];have e2:rP ds.length (some (n:Int))=min n ds.length:=eI _ _;rw[e2];show(ds.drop 0).take (min n ds.length-0)=_;rw[List.drop_zero,Nat.sub_zero];exact(List.take_eq_take_min ..).symm
theorem y7(x:Int):x.fmod 1000000=((x.fmod 1000000).toNat:Int):=(Int.toNat_of_nonneg (Int.fmod_nonneg_of_pos x dk)).symm
def bE(k:Nat):D:=.str (aj (dp k))
def bZ:List D:=[bE 0,bE 1,bE 2,bE 3,bE 4]
theorem nf(hf:cf T "_law_ends" [] (fh 74) (bF 74)):FD T 3 "_law_ends" [] (.list bZ):=
 Eg (n:=2) (rest:=[]) (wr:=[]) (ps:=[]) (ds:=[]) hf rfl ⟨by decide +kernel,by kernel_rfl,by kernel_rfl,by kernel_rfl,by decide +kernel,by decide +kernel,by decide +kernel,by decide +kernel,by decide +kernel⟩ (dB (aF rfl) dk)
theorem xt(hf:cf T "_law_ends" [] (fh 74) (bF 74)):Fn T 3 "_law_ends" [] (.list bZ):=by exact eU (ds:=[]) (rest:=[]) (wr:=[]) hf rfl (ac (bf (av (aF rfl)) (.inl rfl)))
noncomputable def kW(c:List Nat)(q:Int×Nat):List Nat:=c.set (q.2%4) (c.getD (q.2%4) 0+(q.1.fmod 1000000).toNat)
def jj(JK:List Int):List Nat:=(JK.take 60).zipIdx.foldl kW [37,1801,341,8]
theorem wR{c:List Nat}{q:Int×Nat}(h:c.length=4):(kW c q).length=4:=by unfold kW;rw[List.length_set];exact h
noncomputable def uU:Nat->Nat->List Nat->List Nat
 |0,_,_=>[]
 |n+1,x,pool=>pool.getD (x%(n+1)) 0::uU n (x / (n+1)) (pool.eraseIdx (x%(n+1)))
def ke(x:Nat):List Nat:=uU 5 x [0,1,2,3,4]
noncomputable abbrev O2:List Str:=["script","cells","place","number","pool","who","x","size","a","b","c","d","e","near","away","pieces","numbers","symbols","piece","less"]
abbrev cW:Cx:=⟨6,fh 75,O2,["cells","near","away"]⟩
theorem BB{A:Addr}{c:List Nat}{n:Int}(hc:c.length=4)(h1:O[1]? = some (.mu A (.list (aU c))))(h2:O[2]? = some (.val (.int i)))(h3:O[3]? = some (.val (.int n)))(hi:i<60)(hp:P .next (O.set 1 (.mu A (.list (aU (kW c (n,i))))))):W T cW O (c8 (bF 75) 1) P:=by
 have WY:i%4<4:=Sl _ dk;have J8:(aU c).length=4:=(Qs _).trans hc;have m4:Ev T cW O (.BinOp (.Name "place" ⟨0,0,0,0⟩) .Mod (.Constant (.int 4) 0 ⟨0,0,0,0⟩) ⟨0,0,0,0⟩) (.int (i%4:Nat)):=Ev.to (c7 (aa 2 h2) ag) (QV D.int (cw i 4));refine ac (jx 1 (d:=.int ((c.getD (i%4) 0+(n.fmod 1000000).toNat:Nat):Int)) (Ev.to (bH (cg 1 (bV 1 rfl h1) rfl h1 (Ev.to (c7 (aa 2 h2) ag) (QV D.int (cw i 4))) (cO _ _ (by rw[J8];exact WY)) (ee (by rw[hc];exact WY)) fk (ey WY dk) (Z 5)) (c7 (aa 3 h3) ag)) (QV D.int ?_))
   (bV 1 rfl h1) rfl h1 (Ev.to (c7 (aa 2 h2) ag) (QV D.int (cw i 4))) (cO _ _ (by rw[J8];exact WY)) fk (ey WY dk) (Z 2) (aL ?_))
 ·rw[y7 n,Sr];rfl
 ·have e:(aU c).set (i%4) (.int ((c.getD (i%4) 0+(n.fmod 1000000).toNat:Nat):Int))=aU (kW c (n,i)):=by unfold kW aU;rw[List.map_set]
  rw[e];exact hp
theorem DW{p w:Addr}{pool acc:List Nat}{x n:Nat}(hn:pool.length=n+1)(h5:n<5)(ha:acc.length<=5)(h4:O[4]? = some (.mu p (.list (pool.map bE))))(hw:O[5]? = some (.mu w (.list (acc.map bE))))(h6:O[6]? = some (.val (.int x)))(h7:O[7]? = some (.val (.int (n+1:Nat))))(hp:P .next (((O.set 4 (.mu p (.list ((pool.eraseIdx (x%(n+1))).map bE)))).set 5 (.mu w (.list ((acc++[pool.getD (x%(n+1)) 0]).map bE)))).set 6 (.val (.int (x / (n+1):Nat))))):W T cW O (c8 (bF 75) 3) P:=by
 have hk:x%(n+1)<n+1:=Sl _ (Tt n);have XD:x%(n+1)<pool.length:=by rw[hn];exact hk
 have hl:O.length>7:=(Q0.mp h7).1;have hm:Int.fmod (x:Int) ((n+1:Nat):Int)=((x%(n+1):Nat):Int):=cw x (n+1);have hz:((n+1:Nat):Int)≠0:=λh=>Nat.succ_ne_zero n (Int.ofNat.inj h);generalize x%(n+1)=k at hk XD hm hp;have e1:pool.map bE=(pool.take k).map bE++bE (pool.getD k 0)::(pool.drop (k+1)).map bE:=by rw[<-QW,<-QU];congr 1;rw[Qv,QE XD];exact(List.take_append_drop k pool).symm.trans (QV _ (Ty XD))
 have e2:(pool.eraseIdx k).map bE=(pool.take k).map bE++(pool.drop (k+1)).map bE:=by rw[List.eraseIdx_eq_take_drop_succ,QU]
 have e3:((pool.take k).map bE).length=k:=by rw[Qs,Ru,Tb (RE XD)]
 have e4:((pool.drop (k+1)).map bE).length+1=n+1-k:=by rw[Qs,Rg,hn,Nat.add_sub_add_right];exact(Nat.succ_sub (Nat.le_of_lt_succ hk)).symm
 rw[e1]at h4;rw[e2]at hp;refine ac (tT 5 (bV 5 rfl hw) (xa 4 (k:=(k:Int)) (bV 4 rfl h4) (ah (Ev.to (c7 (aa 6 h6) (aa 7 h7) hz) (QV D.int hm)) ad) rfl h4 (Z 6) (Z 2) ?_ ?_ ?_) rfl hw ?_ (Z 6) (Z 2) ?_ (λU ok=>gk ok) (Z 2) ?_)
 ·have:∀k<5,Builtin.List.listFitsIndex (k:Nat)=true:=by decide +kernel
  exact this k (RS hk (T5 h5))
 ·rw[e3,e4]
  exact cO k _ (Nat.lt_add_of_pos_right (T4 hk))
 ·rw[e3,e4];rw[Nat.add_sub_cancel' (RE hk)];exact QC (T5 h5) dk
 ·rw[QP dk];exact hw
 ·rw[Qs];exact QC ha dk
 refine ac (ak 6 (d:=.int (x / (n+1):Nat)) (Ev.to (hU (aa 6 ?_) (aa 7 ?_) hz (RG (show n+1<1073741824 from Nat.lt_of_le_of_lt (T5 h5) dk))) (QV D.int (sA x (n+1)))) (o:=.val (.int x)) ?_ rfl (aL ?_))
 ·rw[QP dk,QP dk];exact h6
 ·rw[QP dk,QP dk];exact h7
 ·rw[QP dk,QP dk];exact h6
 ·rw[QU]at hp;exact hp
def eD(m:Nat):D:=.str (aj (eJ m))
def Bn(w m:Nat):D:=.list [bE w,eD m]
noncomputable def qD(c1 k:Nat):Nat:=c1 / 3^k%3
theorem EI:∀m<3,([D.str (aj []),.str (aj [58]),.str (aj [58,61])]:List D)[m]? = some (eD m)
 |0,_=>rfl
 |1,_=>rfl
 |2,_=>rfl
theorem tr:∀k<10,((3:Int)^((k:Nat):Int).toNat=((3^k:Nat):Int)/\(3^k:Nat)<1073741824/\Builtin.Int.intTooBig (((Builtin.Int.intBits 3:Nat):Int)*(k:Nat))=false)/\((2:Int)^((k:Nat):Int).toNat=((2^k:Nat):Int)/\(2^k:Nat)<1073741824/\Builtin.Int.intTooBig (((Builtin.Int.intBits 2:Nat):Int)*(k:Nat))=false):=by decide +kernel
theorem sg{ec ek:PySem.Expr}{p1 p2 p3 p4 p5 p6 p7:Pos}{a1 a2 a3:Nat}{b:Int}{b' k m j:Nat}(hc:Ev T c O ec (.list (aU cl)))(hk:Ev T c O ek (.int k))(hj:j<cl.length)(hl:cl.length<=60)(hb:b=(b':Int))(Y4:1<b')(hp:b^((k:Nat):Int).toNat=((b'^k:Nat):Int))(h2:(b'^k:Nat)<1073741824)(h3:Builtin.Int.intTooBig (((Builtin.Int.intBits b:Nat):Int)*(k:Nat))=false)(hm:(m:Int)≠0)(hs:∀o i',subscripted (.Constant (.int (j:Nat)) a1 p1) false o i'=operate [o,i'] (getItem o i')):
  Ev T c O (.BinOp (.BinOp (.Subscript ec (.Constant (.int (j:Nat)) a1 p1) p2) .FloorDiv (.BinOp (.Constant (.int b) a2 p3) .Pow ek p4) p5) .Mod (.Constant (.int (m:Nat)) a3 p6) p7) (.int (cl.getD j 0 / b'^k%m:Nat)):=by
 have h0:((b'^k:Nat):Int)≠0:=by
  have:=Nat.pow_pos (n:=k) (Nat.lt_of_succ_lt Y4)
  exact Int.natCast_ne_zero_iff_pos.mpr this
 refine Ev.to (c7 (hU (aI hc ag (aH (j:=j) (cO j _ (by unfold aU;rw[Qs];exact hj)) (ee hj) fk (ey hj hl)) hs) (Ev.to (D9 ag hk (Rv _) (by rw[hb];exact Int.lt_of_toNat_lt Y4) h3) (QV D.int hp)) h0 (RG h2)) ag hm) (QV D.int ?_);exact lR _ _ _
theorem BC{w:List Nat}{c:List Nat}{o8 o9 we kK gX:Slot}(hE:Bl T "enumerate" (.type "enumerate"))(hc:c.length=4)(hw:w.length=5)(h1:O[1]? = some (.val (.list (aU c))))(h5:O[5]? = some (.val (.list (w.map bE))))(h8:O[8]? = some o8)(m8:o8.ZW=false)(h9:O[9]? = some o9)(m9:o9.ZW=false)(KL:O[10]? = some we)(XZ:we.ZW=false)(Kt:O[11]? = some kK)(X0:kK.ZW=false)(KF:O[12]? = some gX)(m12:gX.ZW=false)(hp:P .next (((((O.set 8 (.val (Bn (w.getD 0 0) (qD (c.getD 1 0) 0)))).set 9 (.val (Bn (w.getD 1 0) (qD (c.getD 1 0) 1)))).set 10 (.val (Bn (w.getD 2 0) (qD (c.getD 1 0) 2)))).set 11 (.val (Bn (w.getD 3 0) (qD (c.getD 1 0) 3)))).set 12 (.val (Bn (w.getD 4 0) (qD (c.getD 1 0) 4))))):W1 T cW O (jc (bF 75) 4) P:=by
 refine dm (Ev.to (bW (own:=["k","name"]) (fr:=["cells"]) (wr':=[]) (fi:=[1]) (fs:=[.list (aU c)]) (items:=k8 (w.map bE)) (p:=λU=>true)
   (f:=λd=>.list [NI d,eD (qD (c.getD 1 0) (NH d))]) (g:=Iv [.val (.list (aU c))]) (n':=5)
   (eC hE (aa 5 h5)) dk dk dk rfl (QV (λo=>[((some "cells" : Option Str),o)]) h1) dk dk
   dk (Z 1) (by rw[dz,Qs,hw];decide) (Z 5) ?_ (λd hd=>aw) ?_) (d':=.list [Bn (w.getD 0 0) (qD (c.getD 1 0) 0),Bn (w.getD 1 0) (qD (c.getD 1 0) 1),Bn (w.getD 2 0) (qD (c.getD 1 0) 2),Bn (w.getD 3 0) (qD (c.getD 1 0) 3),Bn (w.getD 4 0) (qD (c.getD 1 0) 4)]) ?_)
  (j2 (an (ae 8 rfl h8 m8) (an (ae 9 rfl ((QP dk).trans h9) m9) (an (ae 10 rfl ((QP dk).trans ((QP dk).trans KL)) XZ) (an (ae 11 rfl ((QP dk).trans ((QP dk).trans ((QP dk).trans Kt))) X0) (an (ae 12 rfl ((QP dk).trans ((QP dk).trans ((QP dk).trans ((QP dk).trans KF)))) m12) bg)))))) (Z 2) (λU ok=>(bo ok).trans (Z 1)) hp
 ·rintro d hd Wj hσ
  refine dE (ku hd) λk y U U=>?_;subst U;obtain⟨o,o',rfl,g1,g2⟩:=j8 hσ λd' JX=>by refine dE (ku JX) λk y U U=>?_;subst U;exact⟨_,_,rfl⟩
  exact cz (an (ae 0 rfl rfl g1) (an (ae 1 rfl rfl g2) bg))
 ·intro d hd _
  refine dE (ku hd) λk y hy U=>?_;subst U;have hk:k<5:=by
   have:=(Q0.mp hy).1
   rw[Qs,hw]at this;exact this
  have YH:qD (c.getD 1 0) k<3:=Sl _ dk;obtain⟨⟨p1,p2,p3⟩,_⟩:=tr k (RS hk dk);exact av (ah (aa 1) (ah (aI (av (aF rfl)) (sg (b':=3) (k:=k) (m:=3) (j:=1) (aa 2) (aa 0) (by rw[hc];decide) (by rw[hc];decide) rfl dk p1 p2 p3 dk (Z 5)) (aH (cO _ 3 YH) (EI _ YH) fk (ey YH dk))) ad)) (show 2<=sizeLine by decide)
 ·rw[mi]
  refine rg (five hw) λw0 w1 w2 w3 w4 U=>?_;subst U;rfl
theorem yO{c:List Nat}{gY yk:Slot}(hc:c.length=4)(h1:O[1]? = some (.val (.list (aU c))))(KG:O[13]? = some gY)(X1:gY.ZW=false)(K6:O[14]? = some yk)(Wt:yk.ZW=false)(hp:P .next ((O.set 13 (.val (eD (1+c.getD 1 0 / 243%2)))).set 14 (.val (eD (1+c.getD 1 0 / 486%2))))):W1 T cW O (jc (bF 75) 5) P:=by
 have two:∀m<2,([D.str (aj [58]),.str (aj [58,61])]:List D)[m]? = some (eD (1+m)):=λm hm=>by
  rcases m with _|_|m
  ·rfl
  ·rfl
  ·exact absurd hm (Sg.mpr (TW 2 m))
 refine dm (Ev.to (bW (own:=["part"]) (fr:=["cells"]) (wr':=[]) (fi:=[1]) (fs:=[.list (aU c)]) (items:=[.int 243,.int 486]) (p:=λU=>true)
   (f:=λd=>eD (1+c.getD 1 0 / Bz d%2)) (g:=λd=>[.val d,.val (.list (aU c))]) (n':=5)
   (mY (aV (aF rfl) dk) rfl) dk dk dk rfl (QV (λo=>[((some "cells" : Option Str),o)]) h1) dk dk
   dk (Z 1) dk (Z 5) ?_ (λd hd=>aw) ?_) (d':=.list [eD (1+c.getD 1 0 / 243%2),eD (1+c.getD 1 0 / 486%2)]) (QV D.list mi))
  (j2 (an (ae 13 rfl KG X1) (an (ae 14 rfl ((QP dk).trans K6) Wt) bg))) (Z 2) (λU ok=>(bo ok).trans (Z 1)) hp
 ·rintro d hd Wj hσ
  refine ay (bL hσ λd' U=>⟨_,rfl⟩) λo U g1=>?_;subst U;exact ae 0 rfl rfl g1
 ·intro d hd _
  obtain⟨q,hq,hq2,rfl⟩:∃q:Nat,(q:Int)≠0/\q<1073741824/\d=.int q:=by
   simp only[Qw,Q3,or_false]at hd;rcases hd with rfl|rfl
   ·exact⟨243,by decide,by decide,rfl⟩
   ·exact⟨486,by decide,by decide,rfl⟩
  have hm:c.getD 1 0 / q%2<2:=Sl _ dk;exact aI (av (aF rfl)) (Ev.to (c7 (hU (aI (aa 1) ag (aH (j:=1) (cO 1 _ (by unfold aU;rw[Qs,hc];decide)) (ee (by rw[hc];decide)) dk dk)) (aa 0) hq (RG hq2)) ag) (QV D.int (lR _ q 2))) (aH (cO _ 2 hm) (two _ hm) fk (ey hm dk))
theorem tC{α:Type}{l:List α}{a:α}(h:l[k]? = some a):l.set k a=l:=by
 induction l generalizing k with
 |nil=>rfl
 |cons x l ih=>
  rcases k with _|k
  ·obtain rfl:=QG h;rfl
  ·rw[List.set_cons_succ,ih h]
theorem Fy(i j k:Nat){x y:Str}{xs ds:List D}{t:Env->Sem Flow}(hx:c.names[i]? = some x)(hd:O[i]? = some (.mu a (.list xs)))(hy:c.names[j]? = some y)(hf:O[j]? = some (.mu F (.list ds)))(Kl:i≠j)(hk:ds[k]? = some (.ref a))(h:WT T c ((O.set i .no).set j (.mu F (.list (ds.set k (.list xs))))) t P):WT T c O t P:=by
 constructor;intros;refine b9.el JE.ex λm Fr S=>?_;obtain⟨l,r,rfl,hm,⟨vs,n,ha,rv⟩,up,fz⟩:=S.muAt hx hd;have nd:=JE.nd;have PD:a∉ms₀:=λz=>by refine xE (JE.old a z) λo e=>?_;rw[JE.new a (Qy _ (QH))]at e;exact nS e
 have Ke:a∉l++r/\(l++r).Nodup:=by
  have:=(RZ (l₁:=l) (a:=a) (l₂:=r)).nodup_iff.mp nd
  exact QY.mp this
 have sub:∀b∈l++r,b∈l++a::r:=λb hb=>by
  rcases Qz.mp hb with z|z
  ·exact QM _ z
  ·exact Qy _ (QA _ z)
 have sk:am (less s.heap (ms₀++(l++a::r))) (less s.heap (ms₀++(l++r))):=aT λb hb=>by
  rcases Qz.mp hb with z|z
  ·exact QM _ z
  ·exact Qy _ (sub b z)
 have S1:=fz _ .no sk (.inl rfl);obtain⟨l',r',_,_,⟨us,n',hF,rvF⟩,up',_⟩:=S1.muAt (x:=y) (i:=j) hy (by rw[QP Kl];exact hf);refine ay (rvF.get hk) λu hu ru=>?_;obtain⟨_,rfl⟩:=ru.inv;have S2:=up' s.heap (.list (ds.set k (.list xs))) (am.refl _) (λU U U e=>e) ⟨us,n',hF,by
  have z:=rvF.set k (d:=.list xs) (v:=.ref a) (.list (ab.mpr ⟨λz=>by
   rcases Qz.mp z with z|z
   ·exact PD z
   ·exact Ke.1 z,ha⟩) (rv.mono sk))
  rw[tC hu]at z;exact z⟩
 exact h.run (as:=l++r) (Q:=Q) ok tp R ⟨⟨m,Fr,S2⟩,Ke.2,λb hb=>JE.new b (sub b hb),JE.old,λb hb=>JE.loc b (sub b hb)⟩ q
def sD(l:List Nat):D:=.str (aj l)
def lU(two:Bool)(a b c d e:List D)(n w:D):List D:=
 if two then[sD [40]]++a++[sD [44]]++b++[sD [44],sD [40]]++c++[sD [44],sD [40]]++d++[sD [44]]++e++[sD [41],w,sD [41],n,sD [41],sD [59]]
 else[sD [40],sD [40]]++a++[sD [44]]++b++[sD [41],n,sD [44]]++c++[sD [44],sD [40]]++d++[sD [44]]++e++[sD [41],w,sD [41],sD [59]]
theorem sz(h:n<=100):n<=sizeLine:=QC h dk
noncomputable def G4:List (List Nat×List Int):=[([],[]),([40],[7]),([41],[8]),([58],[11]),([44],[12]),([59],[13]),([58,61],[53])]
def s9:List (Str×D):=G4.map λq=>(aj q.1,.list (q.2.map .int))
def EO(p:List Nat):Option (List Int):=(G4.find? λq=>q.1=p).map (·.2)
theorem yK{l:List (List Nat×List Int)}{p:List Nat}:cM (l.map λq=>(aj q.1,D.list (q.2.map .int))) (aj p)=((l.find? λq=>q.1=p).map (·.2)).map λl=>.list (l.map .int):=by
 unfold cM;induction l with
 |nil=>rfl
 |cons q l ih=>
  rw[QW,R7,R7];by_cases h:q.1=p
  ·rw[Q7 (QV aj h),Q7 h];rfl
  ·rw[Q4 (λz=>h (gR.mp z)),Q4 h];exact ih
theorem r4(p:List Nat):cM s9 (aj p)=(EO p).map λl=>.list (l.map .int):=yK
def iq(p:List Nat):List Int:=match EO p with|some l=>l|none=>kR p
noncomputable def ld(n a c2 k:Nat):Nat:=if n=2/\a=2 then c2 / 2^k%2 else 0
theorem wY{a0 a1 b0 b1 c0 c1 d0 d1 e0 e1 n w:D}{Cy:Slot}(hc:cl.length=4)(h1:O[1]? = some (.val (.list (aU cl))))(h8:O[8]? = some (.val (.list [a0,a1])))(h9:O[9]? = some (.val (.list [b0,b1])))(KL:O[10]? = some (.val (.list [c0,c1])))(Kt:O[11]? = some (.val (.list [d0,d1])))(KF:O[12]? = some (.val (.list [e0,e1])))(KG:O[13]? = some (.val n))(K6:O[14]? = some (.val w))(Mr:O[15]? = some Cy)(Wu:Cy.ZW=false){rest:List Stmt}(hp:W T cW (O.set 15 (.val (.list (lU (decide (cl.getD 1 0 / 972%2=1)) [a0,a1] [b0,b1] [c0,c1] [d0,d1] [e0,e1] n w)))) rest P):W T cW O (jc (bF 75) 6::jc (bF 75) 7::rest) P:=by
 have Kw:=λ{l r:PySem.Expr}{p:Pos}{x y:List D}{O:St}(ha:Ev T cW O l (.list x))(hb:Ev T cW O r (.list y))(k:x.length+y.length<=100)=>cZ (p:=p) ha hb (sz k);refine ac (ak 15 (d:=.list (lU false [a0,a1] [b0,b1] [c0,c1] [d0,d1] [e0,e1] n w)) (Kw (Kw (Kw (Kw (Kw (Kw (Kw (Kw (Kw (Kw (av (aF rfl)) (aa 8 h8) (QT rfl)) (av (aF rfl)) (QT rfl)) (aa 9 h9) (QT rfl)) (av (ah aA (ah (aa 13 KG) (ah aA ad))) (sz (QT rfl))) (QT rfl)) (aa 10 KL) (QT rfl)) (av (aF rfl)) (QT rfl)) (aa 11 Kt) (QT rfl)) (av (aF rfl)) (QT rfl)) (aa 12 KF) (QT rfl)) (av (ah aA (ah (aa 14 K6) (ah aA (ah aA ad)))) (sz (QT rfl))) (QT rfl)) Mr Wu ?_);have ne:∀{k:Nat}{s x:Slot},k≠15->O[k]? = some s->(O.set 15 x)[k]? = some s:=λhk h=>(QP (Ne.symm hk)).trans h;have hl:15<O.length:=(Q0.mp Mr).1;refine ac (bM (cP (Ev.to (c7 (hU (aI (aa 1 (ne dk h1)) ag (aH (j:=1) (cO 1 _ (by unfold aU;rw[Qs,hc];decide)) (ee (by rw[hc];decide)) dk dk)) ag dk (RG dk)) ag) (QV D.int (lR _ 972 2))) qZ) (λh=>?_) (λh=>aL ?_))
 ·have e:cl.getD 1 0 / 972%2=1:=by
   have h0:cl.getD 1 0 / 972%2<2:=Sl _ dk;have h2:cl.getD 1 0 / 972%2≠0:=λz=>by rw[z]at h;exact absurd h dk
   exact Nat.mod_two_ne_zero.mp h2
  rw[Q7 e]at hp;have M7:∀x y:Slot,(O.set 15 x).set 15 y=O.set 15 y:=λx y=>List.set_set _;refine ac (ak 15 (d:=.list (lU true [a0,a1] [b0,b1] [c0,c1] [d0,d1] [e0,e1] n w)) (Kw (Kw (Kw (Kw (Kw (Kw (Kw (Kw (Kw (Kw (av (aF rfl)) (aa 8 (ne dk h8)) (QT rfl)) (av (aF rfl)) (QT rfl)) (aa 9 (ne dk h9)) (QT rfl)) (av (aF rfl)) (QT rfl)) (aa 10 (ne dk KL)) (QT rfl)) (av (aF rfl)) (QT rfl)) (aa 11 (ne dk Kt)) (QT rfl)) (av (aF rfl)) (QT rfl)) (aa 12 (ne dk KF)) (QT rfl)) (av (ah aA (ah (aa 14 (ne dk K6)) (ah aA (ah (aa 13 (ne dk KG)) (ah aA (ah aA ad)))))) (sz (QT rfl))) (QT rfl)) (Th hl) rfl (aL ?_));rw[M7];exact hp
 ·have e:¬cl.getD 1 0 / 972%2=1:=λz=>by rw[z]at h;exact absurd h dk
  rw[Q4 e]at hp;exact hp
theorem BE{Cz FQ:Slot}(Ku:O[16]? = some Cz)(X3:Cz.ZW=false)(Mi:O[17]? = some FQ)(m17:FQ.ZW=false)(hp:∀N S,P .next ((O.set 17 (.mu S (.list []))).set 16 (.mu N (.dict s9)))):W1 T cW O (jc (bF 75) 8) P:=by have one:∀{k:Int}{kk:Nat}{q q':Pos},Ev T cW O (.List [.Constant (.int k) kk q] q') (.list [.int k]):=λ{k kk q q'}=>av (ah ag ad) (sz (QT rfl));exact bz (n:=2) (ns:=["numbers","symbols"]) (fE (so (es:=s9) (bB aA (av ad) (bB aA one (bB aA one (bB aA one (bB aA one (bB aA one (bB aA one qw))))))) dk rfl rfl (SQ _ _) dk) (λN=>fE (dB ad dk) (λS=>gJ ⟨rfl,_,dW 17 rfl Mi m17 (Z 1) (dW 16 rfl ((QP dk).trans Ku) X3 (Z 1) ix),hp N S⟩) (Z 2)) (Z 2)) rfl dk (Z 2) (λU ok=>(bo ok).trans (Z 1))
theorem DX{N S:Addr}{sy:List Int}{p:List Nat}(hO:Bl T "ord" (.builtin "ord"))(hl:p.length<=60)(hs:sy.length<=1000)(Lc:(iq p).length<=60)(Ku:O[16]? = some (.mu N (.dict s9)))(Mi:O[17]? = some (.mu S (.list (sy.map .int))))(Pl:O[18]? = some (.val (sD p)))(hp:P .next (O.set 17 (.mu S (.list ((sy++iq p).map .int))))):W T cW O (c8 (bF 75) 9) P:=by
 rw[QU]at hp;refine ac (pY 17 (es:=(iq p).map .int) (bV 17 rfl Mi) (ah ?_ ad) rfl Mi (Z 6) (Z 2) (by rw[Qs,Qs];exact QC (R8 hs Lc) dk) (λU ok=>gk ok) (Z 2) (aL hp));unfold iq;cases q:EO p with
 |some l=>
  have hg:cM s9 (aj p)=some (.list (l.map .int)):=by rw[r4,q];rfl
  exact qq (nU (lM 16 (aa 18 Pl) (bV 16 rfl Ku) rfl Ku) rfl) (by rw[hg];rfl) (jG 16 (bV 16 rfl Ku) rfl Ku (aa 18 Pl) hg (Z 5))
 |none=>
  have hg:cM s9 (aj p)=none:=by rw[r4,q];rfl
  refine qp (nU (lM 16 (aa 18 Pl) (bV 16 rfl Ku) rfl Ku) rfl) (by rw[hg];rfl) (Ev.to (bW (own:=["sign"]) (fr:=[]) (wr':=[]) (fi:=[]) (fs:=[]) (items:=jD (aj p)) (p:=λU=>true)
   (f:=λd=>.int ((256+IX d:Nat):Int)) (g:=λd=>[.val d]) (n':=5)
   (En (aa 18 Pl) rfl) dk dk dk rfl rfl dk dk
   dk (Z 1) (by rw[mt,Qs];exact QC hl dk) (Z 5) ?_ (λd hd=>aw) ?_) (QV D.list (Bu.trans (by unfold kR;rw[QZ];rfl))))
  ·rintro d hd Wj hσ
   refine ay (bL hσ λd' U=>⟨_,rfl⟩) λo U g1=>?_;subst U;exact ae 0 rfl rfl g1
  ·intro d hd _
   refine ay (Bw hd) λch Mc U=>?_;subst U;exact Ev.to (bH ag (bh hO rfl (mo (ch:=ch)) (ah (aa 0) ad))) (QV D.int (Sr 256 ch).symm)
theorem BD{n a:Nat}{FR:Slot}(hR:Ω8 T)(hc:cl.length=4)(hn:n=1\/n=2)(ha:a=1\/a=2)(h1:O[1]? = some (.val (.list (aU cl))))(KG:O[13]? = some (.val (eD n)))(K6:O[14]? = some (.val (eD a)))(h19:O[19]? = some FR)(m19:FR.ZW=false)(hp:P .next (O.set 19 (.val (.list (aU ((List.range 10).map (ld n a (cl.getD 2 0)))))))):W1 T cW O (jc (bF 75) 10) P:=by
 have e:rng 0 10=aU (List.range 10):=by kernel_rfl
 have XE:((rng 0 10).filter λU=>true).map (λd=>D.int (ld n a (cl.getD 2 0) (Bz d):Nat))=aU ((List.range 10).map (ld n a (cl.getD 2 0))):=mi.trans (by rw[e];unfold aU;rw[QZ,QZ];rfl);refine cA 19 (own:=["k"]) (fr:=["near","away","cells"]) (wr':=[]) (fi:=[13,14,1]) (fs:=[eD n,eD a,.list (aU cl)]) (items:=rng 0 10) (p:=λU=>true)
   (f:=λd=>.int (ld n a (cl.getD 2 0) (Bz d):Nat)) (g:=λd=>[.val d,.val (eD n),.val (eD a),.val (.list (aU cl))]) (n':=5)
   (dO hR ag rfl dk dk) dk dk dk rfl (by show[((some "near" : Option Str),O[13]?),(some "away",O[14]?),(some "cells",O[1]?)]=_;rw[KG,K6,h1];rfl) dk dk
   dk (Z 1) dk (Z 5) ?_ (λd hd=>aw) ?_ rfl h19 m19 (Z 1) (λU ok=>(di ok).trans (Z 1)) (by rw[XE];exact hp)
 ·rintro d hd Wj hσ
  refine ay (bL hσ λd' U=>⟨_,rfl⟩) λo U g1=>?_;subst U;exact ae 0 rfl rfl g1
 ·clear hp XE
  intro d hd _;rw[e]at hd;refine ay (QR.mp hd) λk hk U=>?_;subst U;refine Fz (tr k (Q1.mp hk)) λU p1 p2 p3=>?_;refine Ev.to (fx (d:=.int (cl.getD 2 0 / 2^k%2:Nat)) (d':=.int 0) (A2 (a:=eD n) (b:=eD a) (aa 1) (aa 2) fu (λU=>aA) (λU=>fu) rfl) (λU=>sg (b':=2) (k:=k) (m:=2) (j:=2) (aa 3) (aa 0) (by rw[hc];decide) (by rw[hc];decide) rfl dk p1 p2 p3 dk (Z 5)) (λU=>ag)) ?_;rcases hn with rfl|rfl<;>rcases ha with rfl|rfl<;>rfl
def eF(two:Bool)(w:List Nat)(c1:Nat):List (List Nat):=
 let e:=λk=>[dp (w.getD k 0),eJ (qD c1 k)]
 let n:=eJ (1+c1 / 243%2)
 let a:=eJ (1+c1 / 486%2)
 if two then[[40]]++e 0++[[44]]++e 1++[[44],[40]]++e 2++[[44],[40]]++e 3++[[44]]++e 4++[[41],a,[41],n,[41],[59]]
 else[[40],[40]]++e 0++[[44]]++e 1++[[41],n,[44]]++e 2++[[44],[40]]++e 3++[[44]]++e 4++[[41],a,[41],[59]]
theorem xP(two:Bool)(w:List Nat)(c1:Nat):lU two [bE (w.getD 0 0),eD (qD c1 0)] [bE (w.getD 1 0),eD (qD c1 1)] [bE (w.getD 2 0),eD (qD c1 2)] [bE (w.getD 3 0),eD (qD c1 3)] [bE (w.getD 4 0),eD (qD c1 4)] (eD (1+c1 / 243%2)) (eD (1+c1 / 486%2))=(eF two w c1).map sD:=by cases two<;>rfl
noncomputable def gz(c1:Nat):Bool:=decide (c1 / 972%2=1)
noncomputable def AH:Nat->List D|0=>[]|n+1=>.int ((n+1:Nat):Int)::AH n
theorem Ar:∀(n x:Nat)(pool:List Nat),(uU n x pool).length=n:=λn=>by
 induction n with
 |zero=>exact λU U=>rfl
 |succ n ih=>intro x pool;exact QV Nat.succ (ih _ _)
def NF(s:Slot)(A p w:Addr)(c pool acc:List Nat)(x:Nat)(o2 o3 o7:Slot):St:=[s,.mu A (.list (aU c)),o2,o3,.mu p (.list (pool.map bE)),.mu w (.list (acc.map bE)),.val (.int x),o7,.no,.no,.no,.no,.no,.no,.no,.no,.no,.no,.no,.no]
theorem Aq{s:Slot}{A p w:Addr}{c:List Nat}{o2 o3:Slot}:∀(n x:Nat)(pool acc:List Nat)(o7:Slot),pool.length=n->n<=5->acc.length+n<=5->o7.ZW=false->(∀x' o7,o7.ZW=false->P .next (NF s A p w c [] (acc++uU n x pool) x' o2 o3 o7))->jf T cW (.Name "size" pp) (c8 (bF 75) 3) P (AH n) (NF s A p w c pool acc x o2 o3 o7):=λn=>by
 induction n with
 |zero=>
  intro x pool acc o7 h1 h2 h3 h4 hp
  have:=hp x o7 h4
  rw[Ri.mp h1];rw[show acc++uU 0 x pool=acc from QN acc]at this;exact this
 |succ n ih=>
  intro x pool acc o7 h1 h2 h3 h4 hp;refine⟨_,ae 7 rfl rfl h4,?_⟩;refine DW (pool:=pool) (acc:=acc) (x:=x) (n:=n) h1 (by exact Nat.lt_of_succ_le h2) (by exact Nat.le_of_add_right_le h3) rfl rfl rfl rfl ?_;refine ih (x / (n+1)) (pool.eraseIdx (x%(n+1))) (acc++[pool.getD (x%(n+1)) 0]) _ ?_ (by exact T2 h2) (by rw[Qu];show acc.length+1+n<=5;lia) rfl λx' o7 h=>?_
  ·rw[Ti (by rw[h1];exact Sl _ (Tt n)),h1];rfl
  ·rw[QQ];exact hp x' o7 h
inductive NO(JK:List Int)(A:Addr)(i:Nat)(O:St):Prop
 |mk (c:List Nat) (o2 o3:Slot) (h2:o2.ZW=false) (h3:o3.ZW=false) (e:O=[.val (.list (JK.map .int)),.mu A (.list (aU c)),o2,o3,.no,.no,.no,.no,.no,.no,.no,.no,.no,.no,.no,.no,.no,.no,.no,.no]) (hc:c.length=4) (he:c=((JK.take 60).zipIdx.take i).foldl kW [37,1801,341,8]):NO JK A i O
inductive IL(JK:List Int)(A:Addr)(O:St):Prop
 |mk (o2 o3:Slot) (h2:o2.ZW=false) (h3:o3.ZW=false) (e:O=[.val (.list (JK.map .int)),.mu A (.list (aU (jj JK))),o2,o3,.no,.no,.no,.no,.no,.no,.no,.no,.no,.no,.no,.no,.no,.no,.no,.no]) (hc:(jj JK).length=4):IL JK A O
theorem yN(hE:Bl T "enumerate" (.type "enumerate"))(JK:List Int)(hl:JK.length<=63)(A:Addr):W1 T cW [.val (.list (JK.map .int)),.mu A (.list (aU [37,1801,341,8])),.no,.no,.no,.no,.no,.no,.no,.no,.no,.no,.no,.no,.no,.no,.no,.no,.no,.no] (jc (bF 75) 1) (λfl Wj=>fl=.next/\IL JK A Wj):=by
 have JF:(k8 ((JK.map D.int).take 60)).length=(JK.take 60).length:=by rw[dz,<-List.map_take,Qs]
 refine eA (eC hE (Ev.to (oy (aa 0) .no (.int ag) (by rw[Qs];exact QC hl dk)) (QV D.list (CO 60 _))))
  (gp (λi O=>NO JK A i O) ?_ ?_ ⟨_,.no,.no,rfl,rfl,rfl,rfl,rfl⟩) (Z 5)
 ·rintro O ⟨c,o2,o3,h2,h3,rfl,hc,he⟩
  rw[JF,Te (by rw[Tu];exact QO _)]at he;subst he;exact⟨rfl,o2,o3,h2,h3,rfl,hc⟩
 ·rintro i d O hd ⟨c,o2,o3,h2,h3,rfl,hc,he⟩
  have hi:i<60:=by
   have:=(Q0.mp hd).1
   rw[JF,Ru]at this;exact RS this (TD _ _)
  refine ay (gc hd) λx hx U=>?_;subst U;obtain⟨n,hn,rfl⟩:∃n,(JK.take 60)[i]? = some n/\x=.int n:=by rw[<-List.map_take,QX]at hx;exact ay (RF.mp hx) λn h1 h2=>⟨n,h1,h2.symm⟩
  refine⟨_,cz (an (ae 2 rfl rfl h2) (an (ae 3 rfl rfl h3) bg)),?_⟩;refine BB (c:=c) (i:=i) (n:=n) hc rfl rfl rfl hi ⟨kW c (n,i),.val (.int i),.val (.int n),rfl,rfl,rfl,wR hc,?_⟩;rw[Sj,List.foldl_append,<-he,List.getElem?_zipIdx,hn];simp
def yM(c:List Nat):D:=.tup [sD (eF (gz (c.getD 1 0)) (ke (c.getD 0 0)) (c.getD 1 0)).flatten,.list (((eF (gz (c.getD 1 0)) (ke (c.getD 0 0)) (c.getD 1 0)).flatMap iq++[0]).map .int),.list (aU ((List.range 10).map (ld (1+c.getD 1 0 / 243%2) (1+c.getD 1 0 / 486%2) (c.getD 2 0)))),.int (c.getD 3 0:Nat)]
theorem EX:∀b w c1,(eF b w c1).length<=24:=λb w c1=>by cases b<;>exact QT rfl
def jr(c1 k:Nat):Nat:=if k<5 then qD c1 k else if k=5 then 1+c1 / 243%2 else if k=6 then 1+c1 / 486%2 else 0
def rd(x k:Nat):Nat:=(ke x).getD k 0
def EY(x k:Nat):Nat:=(ke x).idxOf k
theorem oY:∀(l:List Nat)(i:Nat)(h:i<l.length),(l[i]::l.eraseIdx i).Perm l
 |a::l,0,_=>.refl _
 |a::l,i+1,h=>(List.Perm.swap _ _ _).trans ((oY l i (Nat.lt_of_succ_lt_succ h)).cons a)
theorem xR:∀(n x:Nat)(pool:List Nat),pool.length=n->(uU n x pool).Perm pool:=by
 intro X_;induction X_ with
 |zero=>intro _ pool h;rw[Ri.mp h];exact .refl _
 |succ n IH=>
  intro x pool h;have hi:x%(n+1)<pool.length:=by rw[h];exact Sl _ (Tt n)
  have ih:=IH (x / (n+1)) (pool.eraseIdx (x%(n+1))) (by rw[Ti hi,h];rfl);have e:pool.getD (x%(n+1)) 0=pool[x%(n+1)]:=by rw[Qv,QE hi];rfl
  show(pool.getD (x%(n+1)) 0::uU n (x / (n+1)) (pool.eraseIdx (x%(n+1)))).Perm pool;rw[e];exact(ih.cons _).trans (oY _ _ hi)
theorem Fq(x:Nat):rE (rd x) (EY x):=by
 have hp:(ke x).Perm [0,1,2,3,4]:=xR 5 x [0,1,2,3,4] rfl;have hl:(ke x).length=5:=hp.length_eq;have nd:(ke x).Nodup:=hp.nodup_iff.mpr dk;have hm:∀k,k∈ke x↔k<5:=λk=>by rw[hp.mem_iff];simp;lia
 have ge:∀k(h:k<5),rd x k=(ke x)[k]'(by rw[hl];exact h):=λk h=>by unfold rd;rw[Qv,QE (by rw[hl];exact h)];rfl
 have pl:∀k<5,EY x k<5:=λk hk=>by
  have:=List.idxOf_lt_length_of_mem ((hm k).mpr hk)
  rw[hl]at this;exact this
 refine⟨λk hk=>?_,λk hk=>?_,pl,λk hk=>?_⟩
 ·rw[ge _ (pl k hk)]
  exact List.getElem_idxOf (List.idxOf_lt_length_of_mem ((hm k).mpr hk))
 ·unfold EY
  rw[ge k hk];exact nd.idxOf_getElem _ _
 ·rw[ge k hk]
  exact(hm _).mp (RH _)
theorem zP(c1:Nat):jr c1 5=1+c1 / 243%2:=rfl
theorem zQ(c1:Nat):jr c1 6=1+c1 / 486%2:=rfl
theorem B8(c1:Nat):wO (jr c1):=by
 refine⟨λw=>?_,by rw[zP];exact Nat.pos_of_neZero (1+c1 / 243%2),by rw[zQ];exact Nat.pos_of_neZero (1+c1 / 486%2)⟩;unfold jr;split
 ·exact Sl _ dk
 ·split
  ·lia
  ·split<;>lia
def tf:NT->List (List Nat)
 |.leaf k m=>[dp k,eJ m]
 |.node a b m=>[40]::(tf a++[44]::(tf b++[[41],eJ m]))
def Nt(t:be):List (List Nat):=[40]::(tf t.x++[44]::(tf t.y++[44]::(tf t.z++[[41],[59]])))
theorem uR{two:Bool}{w:List Nat}{c1:Nat}:eF two w c1=Nt (bt (λk=>w.getD k 0) (jr c1) two):=by cases two<;>rfl
theorem f6{f:List Nat->List α}{l:List (List Nat)}{a:List Nat}(r:List (List Nat)):(l++a::r).flatMap f=l.flatMap f++(f a++r.flatMap f):=TO
theorem nE:∀t,(tf t).flatMap id=t.txt:=λt=>by
 induction t with
 |leaf k m=>exact QV (dp k++·) (QN _)
 |node a b m ha hb=>exact QV (40::·) ((f6 _).trans (by rw[f6,ha,hb];exact QV (λr=>a.txt++44::(b.txt++41::r)) (QN _)))
theorem uT(two:Bool)(x c1:Nat):(eF two (ke x) c1).flatten=(bt (rd x) (jr c1) two).txt:=by rw[uR,<-List.flatMap_id];exact QV (40::·) ((f6 _).trans (by rw[f6,f6,nE,nE,nE];rfl))
theorem gd{P:List α->Prop}(l:List (List α))(h:∀x∈l,P x)(h0:P [])(m:Nat):P (l.getD m []):=by
 rw[Qv];rcases e:l[m]? with _|x
 ·exact h0
 ·exact h x (Rj e)
theorem ql:∀k,(dp k).length<=2:=gd (P:=(·.length<=2)) _ dk dk
theorem dP:∀m,(eJ m).length<=2:=gd (P:=(·.length<=2)) _ dk dk
theorem qG:∀m,(v9 m).length<=1:=gd (P:=(·.length<=1)) _ dk dk
theorem wA:∀k,iq (dp k)=kR (dp k):=gd (P:=λx=>iq x=kR x) _ dk rfl
theorem qW:∀m,iq (eJ m)=v9 m
 |0=>by decide +kernel
 |1=>by decide +kernel
 |2=>by decide +kernel
 |_+3=>rfl
theorem nD:∀t,(tf t).flatMap iq=t.Z6:=λt=>by
 induction t with
 |leaf k m=>show iq (dp k)++(iq (eJ m)++[])=kR (dp k)++v9 m;rw[QN,wA,qW]
 |node a b m ha hb=>exact QV ([7]++·) ((f6 _).trans (by rw[f6,ha,hb];exact QV (λr=>a.Z6++12::(b.Z6++8::r)) ((QN _).trans (qW m))))
theorem al{P:α->Prop}{a:α}{l:List α}(h:P a)(k:∀x∈l,P x):∀x∈a::l,P x:=Sv.mpr ⟨h,k⟩
theorem ap{P:α->Prop}{a l:List α}(h:∀x∈a,P x)(k:∀x∈l,P x):∀x∈a++l,P x:=λx m=>(Qz.mp m).elim (h x) (k x)
def Il(p:List Nat):Prop:=p.length<=2/\(iq p).length<=2
theorem AJ(m:Nat):∀p∈[eJ m],Il p:=al ⟨dP m,by rw[qW];exact Nat.le_succ_of_le (qG m)⟩ nofun
theorem ve:∀x∈[[40],[41],[44],[59]],Il x:=by unfold Il;decide +kernel
theorem nC:∀t,∀p∈tf t,Il p:=λt=>by
 induction t with
 |leaf k m=>exact al ⟨ql k,by rw[wA];unfold kR;rw[Qs];exact ql k⟩ (AJ m)
 |node a b m ha hb=>exact al (ve _ dk) (ap ha (al (ve _ dk) (ap hb (al (ve _ dk) (AJ m)))))
theorem xO(b:Bool)(w:List Nat)(c1:Nat):∀p∈eF b w c1,Il p:=by rw[uR];exact al (ve _ dk) (ap (nC _) (al (ve _ dk) (ap (nC _) (al (ve _ dk) (ap (nC _) λp hp=>ve p (by revert p;decide))))))
theorem uS(two:Bool)(x c1:Nat):(eF two (ke x) c1).flatMap iq=(bt (rd x) (jr c1) two).Z6:=by rw[uR];exact QV ([7]++·) ((f6 _).trans (by rw[f6,f6,nD,nD,nD];rfl))
noncomputable def w7(c1:Nat):Int:=if 1+c1 / 243%2=2/\1+c1 / 486%2=2 then 1 else 0
theorem D6(c1:Nat):uf (jr c1 5) (jr c1 6) (w7 c1)/\w7 c1<=1:=by
 unfold w7;rw[zP,zQ];split
 ·refine⟨⟨by decide,?_,?_⟩,by decide⟩<;>lia
 ·refine⟨⟨by decide,?_,?_⟩,by decide⟩<;>lia
def i7(c:List Nat):List Nat:=(List.range 10).map (ld (1+c.getD 1 0 / 243%2) (1+c.getD 1 0 / 486%2) (c.getD 2 0))
theorem vY(c:List Nat)(hk:k<10):((i7 c).getD k 0:Int)<=w7 (c.getD 1 0)/\(i7 c).getD k 0<=1:=by
 have e:(i7 c).getD k 0=ld (1+c.getD 1 0 / 243%2) (1+c.getD 1 0 / 486%2) (c.getD 2 0) k:=by unfold i7;rw[Qv,QX,RX hk];rfl
 rw[e];unfold ld w7;split<;>lia
theorem DV(c:List Nat):yM c=.tup [sD (bt (rd (c.getD 0 0)) (jr (c.getD 1 0)) (gz (c.getD 1 0))).txt,.list (((bt (rd (c.getD 0 0)) (jr (c.getD 1 0)) (gz (c.getD 1 0))).Z6++[0]).map .int),.list (aU (i7 c)),.int (c.getD 3 0:Nat)]:=by unfold yM;rw[uT,uS];rfl
theorem vO{α:Type}{f:List Nat->List α}:∀(l:List (List Nat)),(∀p∈l,(f p).length<=k)->(l.flatMap f).length<=l.length*k:=λl=>by
 induction l with
 |nil=>exact λU=>Rh _
 |cons p l ih=>intro h;rw[List.flatMap_cons,Qu,QK,Nat.add_mul,Nat.one_mul,Sh];exact R8 (ih λq hq=>h q (QA _ hq)) (h p QH)
theorem tJ:∀ps:List (List Nat),((ps.map aj).map (·.length)).sum=ps.flatten.length:=λps=>by
 induction ps with
 |nil=>rfl
 |cons p ps ih=>rw[QW,QW,Ry,ih,SE,Qu,aM]
def Ql(s c:Slot)(o2 o3 o6 o7 a b d e f n w pc:Slot)(N S:Addr)(sy:List Int)(q:Slot)(p w':D):St:=[s,c,o2,o3,.val p,.val w',o6,o7,a,b,d,e,f,n,w,pc,.mu N (.dict s9),.mu S (.list (sy.map .int)),q,.no]
theorem AV(hO:Bl T "ord" (.builtin "ord")){S0:List Int->Slot->St}{N S:Addr}(Ku:∀sy q,(S0 sy q)[16]? = some (.mu N (.dict s9)))(Mi:∀sy q,(S0 sy q)[17]? = some (.mu S (.list (sy.map .int))))(Pl:∀sy q,(S0 sy q)[18]? = some q)(s18:∀sy q q',(S0 sy q).set 18 q'=S0 sy q')(s17:∀sy sy' q,(S0 sy q).set 17 (.mu S (.list (sy'.map .int)))=S0 sy' q):
  ∀(ps:List (List Nat))(sy:List Int)(q:Slot),(∀p∈ps,p.length<=2/\(iq p).length<=2)->sy.length+ps.length*2<=1000->q.ZW=false->(∀q,q.ZW=false->P .next (S0 (sy++ps.flatMap iq) q))->jf T cW (.Name "piece" pp) (c8 (bF 75) 9) P (ps.map sD) (S0 sy q):=λps=>by
 induction ps with
 |nil=>intro sy q _ _ hq hp;have:=hp q hq;rw[List.flatMap_nil,QN]at this;exact this
 |cons p ps ih=>intro sy q h1 h2 hq hp;have WM:=h1 p QH;rw[QK]at h2;refine⟨_,ae 18 rfl (Pl _ _) hq,?_⟩;rw[s18];refine DX hO (N:=N) (S:=S) (sy:=sy) (p:=p) (by lia) (by exact Nat.le_of_add_right_le h2) (by lia) (Ku _ _) (Mi _ _) (Pl _ _) ?_;rw[s17];refine ih _ _ (λp hp=>h1 p (QA _ hp)) (by rw[Qu];lia) rfl λq hq=>?_;rw[QQ];exact hp q hq
theorem xq(hf:cf T "_law_drawn" ["script"] (fh 75) (bF 75))(hN:cf T "_law_ends" [] (fh 74) (bF 74))(hE:Bl T "enumerate" (.type "enumerate"))(hO:Bl T "ord" (.builtin "ord"))(hR:Ω8 T)(JK:List Int)(hl:JK.length<=63):Fn T 7 "_law_drawn" [.list (JK.map .int)] (yM (jj JK)):=by
 refine eU (rest:=["cells","place","number","pool","who","x","size","a","b","c","d","e","near","away","pieces","numbers","symbols","piece","less"]) (wr:=["cells","near","away"]) hf rfl ?_;refine ac (q8 1 (ob:=.list (aU [37,1801,341,8])) (dB (aF rfl) dk) rfl rfl rfl (Z 1) (Z 2) λA=>?_);refine pZ (IL JK A) (yN hE JK hl A) ?_;rintro O ⟨o2,o3,h2,h3,rfl,hc⟩;generalize jj JK=c at hc ⊢;refine ac (bz (n:=3) (ns:=["pool","who","x"]) (fE (kA (nf hN) dk) (λp=>fE (dB ad dk) (λw=>jJ (cg 1 (bV 1 rfl rfl) rfl rfl ag (cO 0 _ (by unfold aU;rw[Qs,hc];decide)) (ee (by rw[hc];decide)) dk dk (Z 5)) (gJ
  ⟨rfl,_,lJ 6 rfl rfl rfl (Z 1) (dW 5 rfl rfl rfl (Z 1) (dW 4 rfl rfl rfl (Z 1) ix)),?_⟩) (Z 2)) (Z 2)) (Z 2)) rfl dk (Z 2) (λU ok=>(bo ok).trans (Z 1)))
 refine ac (eA (mY (aV (aF rfl) dk) rfl) (Aq 5 (c.getD 0 0) [0,1,2,3,4] [] .no rfl dk dk rfl λx' o7 h7=>?_) (Z 5));have XF:(ke (c.getD 0 0)).length=5:=Ar _ _ _;show W T cW (NF (.val (.list (JK.map .int))) A p w c [] (ke (c.getD 0 0)) x' o2 o3 o7) _ _;unfold yM gz;generalize ke (c.getD 0 0)=wl at XF ⊢;refine cH 1 rfl rfl (cH 4 rfl rfl (cH 5 rfl rfl ?_));refine ac (BC hE hc XF rfl rfl rfl rfl rfl rfl rfl rfl rfl rfl rfl rfl ?_);refine ac (yO hc rfl rfl rfl rfl rfl ?_);refine wY hc rfl rfl rfl rfl rfl rfl rfl rfl rfl rfl ?_;rw[xP];have J0:=EX (decide (c.getD 1 0 / 972%2=1)) wl (c.getD 1 0);have XG:=xO (decide (c.getD 1 0 / 972%2=1)) wl (c.getD 1 0);generalize eF (decide (c.getD 1 0 / 972%2=1)) wl (c.getD 1 0)=pcs at J0 XG ⊢;refine ac (BE rfl rfl rfl rfl λN S=>?_);have hn1:1+c.getD 1 0 / 243%2=1\/1+c.getD 1 0 / 243%2=2:=by lia
 have ha1:1+c.getD 1 0 / 486%2=1\/1+c.getD 1 0 / 486%2=2:=by lia
 have K4:=vO (f:=iq) (k:=2) pcs λp hp=>(XG p hp).2;have PN:=vO (f:=id) (k:=2) pcs λp hp=>(XG p hp).1;rw[List.flatMap_id]at PN;refine ac (eA (bb (aa 15) rfl) (AV hO (S0:=λsy q=>Ql _ _ _ _ _ _ _ _ _ _ _ _ _ _ N S sy q _ _) (Z 5) (Z 5) (Z 5) (λU U U=>rfl) (λU U U=>rfl) pcs [] .no XG (by show 0+_<=_;lia) rfl λq hq=>?_) (Z 5));rw[SK];generalize pcs.flatMap iq=sy at K4 ⊢;have YI:(sy.map D.int).length<=48:=by rw[Qs];exact QC K4 (Nat.mul_le_mul_right 2 J0)
 refine ac (BD hR hc hn1 ha1 rfl rfl rfl rfl rfl ?_);refine cH 17 rfl rfl (ac (bf (aV (ah (Ev.to (iA (ys:=pcs.map aj) aA (Ev.to (aa 15) (by rw[QZ];rfl)) (Z 6) (Z 2) ?_) (QV D.str (pj pcs))) (ah (Ev.to (cZ (aa 17) (av (ah ag ad)) (QC (R8 YI (QO 1)) dk)) (QV D.list (QU (f:=D.int) (l₂:=[0])).symm)) (ah (aa 19) (ah (aI (aa 1) ag (aH (j:=3) (cO 3 _ (by unfold aU;rw[Qs,hc];decide)) (ee (by rw[hc];decide)) dk dk)) ad)))) (show 4<=sizeLine by decide)) (.inl rfl)));rw[tJ,Qs];exact QC (R8 (QC PN (Nat.mul_le_mul_right 2 J0)) (show _*0<=0 from QO 0)) dk
def aW(p:List Nat):D:=.list (p.map bE)
def kh(q:List Nat×Nat):D:=.list [aW q.1,.int q.2]
abbrev cE:Cx:=⟨5,fh 78,["symbols","pile","edges","name","symbol","part"],[]⟩
theorem Gs(k:Nat):PyData.strOk (aj (dp k))=true:=by
 by_cases h:k<5
 ·have:∀k<5,PyData.strOk (aj (dp k))=true:=by decide +kernel
  exact this k h
 ·have:dp k=[]:=by unfold dp Dn;rw[Qv,List.getElem?_eq_none (by simp;exact Nat.le_of_not_lt h)];rfl
  rw[this];decide +kernel
theorem CE(p:List Nat):i9 1 (aW p)=true:=by show(p.map bE).all (i9 0)=true;rw[List.all_map,QL];exact λk U=>Gs k
theorem mZ:seqIndex? (-1) (n+1)=some n:=(AE 0 (n+1) (Tt n)).trans (QV some rfl)
theorem sP{α:Type}{l:List α}{x:α}:(l++[x])[l.length]? = some x:=by rw[List.getElem?_append_right (QO _),Nat.sub_self];rfl
def bm(nm:List Nat)(x:Int):List D:=if nm=[]then(if x=7 then[.list []]else[])else[.list [sD nm]]
theorem DY{nm:List Nat}(hI:cf T "ISNONTERMINAL" ["x"] (fh 65) (bF 65))(hN:bA T "NT_OFFSET" (.int 256))(hC:Bl T "chr" (.builtin "chr"))(Mc:ch<128)(hl:nm.length<=60)(h3:O[3]? = some (.val (sD nm)))(h4:O[4]? = some (.val (.int ((256+ch:Nat):Int))))(hp:P .cont (O.set 3 (.val (sD (nm++[ch]))))):W T cE O (c8 (bF 78) 1) P:=by
 have PF:decide ((256:Int)<=((256+ch:Nat):Int))=true:=Q7 (by exact Int.le.intro ch rfl);have e1:((256+ch:Nat):Int)-256=(ch:Int):=by exact Int.sub_eq_iff_eq_add'.mpr rfl
 have Kq:(decide ((ch:Int)<0)||decide ((ch:Int)>0x10FFFF))=false:=yC ch (by lia);refine ac (bM (cP (bk (f5 hI hN _) (ah (aa 4 h4) ad)) j6) (λU=>?_) (λh=>by rw[PF]at h;exact fT h));refine ac (ak 3 (d:=sD (nm++[ch])) (Ev.to (eR (aa 3 h3) (bh hC rfl (ug (i:=(ch:Int)) Kq) (ah (Ev.to (bu (aa 4 h4) ag) (QV D.int e1)) ad)) (by rw[aM];exact QC (R8 hl (QO 1)) dk)) (QV D.str (bq nm [ch]))) h3 rfl ?_);exact ac (C6 hp)
theorem eQ{nm:List Nat}{x:Int}{A:Addr}(hI:cf T "ISNONTERMINAL" ["x"] (fh 65) (bF 65))(hN:bA T "NT_OFFSET" (.int 256))(hx:x<256)(hl:pile.length<=100)(h1:O[1]? = some (.mu A (.list pile)))(h3:O[3]? = some (.val (sD nm)))(h4:O[4]? = some (.val (.int x)))(hp:W T cE ((O.set 1 (.mu A (.list (pile++bm nm x)))).set 3 (.val (sD []))) (Bo (c8 (bF 78) 1) 3) P):W T cE O (c8 (bF 78) 1) P:=by
 have PF:decide ((256:Int)<=x)=false:=Q4 (by exact Int.not_le.mpr hx);have K4:(bm nm x).length<=1:=by unfold bm;split<;>(try split)<;>exact QT rfl
 refine ac (bM (cP (bk (f5 hI hN _) (ah (aa 4 h4) ad)) j6) (λh=>by rw[PF]at h;exact fF h) (λU=>aL ?_));refine ac (pY 1 (es:=bm nm x) (bV 1 rfl h1) (ah (Ev.to (fx (d:=.list [.list [sD nm]]) (d':=.list (if x=7 then[.list []]else[])) (aE (aa 3 h3) aA lL) (λU=>av (ah (av (ah (aa 3 h3) ad) (sz (QT rfl))) ad) (sz (QT rfl))) (λU=>Ev.to (fx (d:=.list [.list []]) (d':=.list []) (aE (aa 4 h4) ag gC) (λU=>av (ah (av ad) ad)) (λU=>av ad)) ?_)) ?_) ad) rfl h1 (Z 6) (Z 2) (QC (R8 hl K4) dk) (λU ok=>gk ok) (Z 2) ?_)
 ·by_cases h:x=7
  ·rw[Rb h,Rb (beq_iff_eq.mpr h)]
  ·rw[Q5 h,Q5 (λz=>h (beq_iff_eq.mp z))]
 ·unfold bm
  by_cases h:nm=[]
  ·rw[Rb h,Q5 (by rw[h];decide)]
  ·have hb:(aj nm != Str.ofString "")=true:=bne_iff_ne.mpr λz=>h (gR.mp (z.trans (show Str.ofString "" = aj [] by kernel_rfl)))
   rw[Q5 h,Rb hb]
 exact ac (ak 3 aA ((QP dk).trans h3) rfl hp)
theorem qh{m:Nat}{x:Int}{A B:Addr}{ZX:List D}{p:D}(hx:(x,m)∈[((8:Int),0),(11,1),(53,2)])(hl:pile.length<=100)(K7:ZX.length<=100)(h1:O[1]? = some (.mu A (.list (pile++[p]))))(h2:O[2]? = some (.mu B (.list ZX)))(h4:O[4]? = some (.val (.int x)))(hp:P .next (O.set 2 (.mu B (.list (ZX++[.list [p,.int m]]))))):W T cE O (Bo (c8 (bF 78) 1) 4) P:=by
 have KI:((uc [D.int 8,.int 11,.int 53]).any λy=>PyData.eqv y (D.py (.int x)))=true:=by simp only[Qw,Q3,or_false,T3]at hx;rcases hx with⟨rfl,_⟩|⟨rfl,_⟩|⟨rfl,_⟩<;>decide +kernel
 have hg:cM [((8:Int),D.int 0),(11,.int 1),(53,.int 2)] x=some (.int m):=by simp only[Qw,Q3,or_false,T3]at hx;rcases hx with⟨rfl,rfl⟩|⟨rfl,rfl⟩|⟨rfl,rfl⟩<;>rfl
 have JF:(pile++[p]).length=pile.length+1:=by rw[Qu];rfl
 refine ac (bM (aE (aa 4 h4) (aV (aF rfl) dk) (my (k:=1) (k':=1) rfl rfl dk)) (λU=>?_) (λh=>by rw[KI]at h;exact fT h));exact ac (eN 2 (bV 2 rfl h2) (ah (av (ah (cg 1 (bV 1 rfl h1) rfl h1 (mJ rfl) (by rw[JF];exact mZ) sP dk dk (Z 5)) (ah (yX (es:=[((8:Int),D.int 0),(11,.int 1),(53,.int 2)]) zK (bB ag ag (bB ag ag (bB ag ag qw))) dk rfl rfl (SQ _ _) dk (aa 4 h4) hg (Z 5)) ad)) (sz (QT rfl))) ad) rfl h2 (Z 6) (Z 2) (sz K7) (λU ok=>gk ok) (Z 2) (aL (aL hp)))
theorem qj{x:Int}(hx:x∈([0,7,12,13]:List Int))(h4:O[4]? = some (.val (.int x)))(hp:P .next O):W T cE O (Bo (c8 (bF 78) 1) 3) P:=by
 have KI:((uc [D.int 8,.int 11,.int 53]).any λy=>PyData.eqv y (D.py (.int x)))=false:=by simp only[Qw,Q3,or_false]at hx;rcases hx with rfl|rfl|rfl|rfl<;>decide +kernel
 have h8:(x==8)=false:=by simp only[Qw,Q3,or_false]at hx;rcases hx with rfl|rfl|rfl|rfl<;>rfl
 refine ac (bM (aE (aa 4 h4) ag gC) (λh=>by rw[h8]at h;exact fF h) (λU=>aL ?_));exact ac (bM (aE (aa 4 h4) (aV (aF rfl) dk) (my (k:=1) (k':=1) rfl rfl dk)) (λh=>by rw[KI]at h;exact fF h) (λU=>aL (aL hp)))
theorem vH{x:Int}(hx:x=11\/x=53)(h4:O[4]? = some (.val (.int x)))(hp:W T cE O (Bo (c8 (bF 78) 1) 4) P):W T cE O (Bo (c8 (bF 78) 1) 3) P:=by
 have h8:(x==8)=false:=by rcases hx with rfl|rfl<;>rfl
 exact ac (bM (aE (aa 4 h4) ag gC) (λh=>by rw[h8]at h;exact fF h) (λU=>aL hp))
def DG(sy:D)(A B:Addr)(pile:List (List Nat))(ZX:List (List Nat×Nat))(nm:List Nat)(o4 o5:Slot):St:=[.val sy,.mu A (.list (pile.map aW)),.mu B (.list (ZX.map kh)),.val (sD nm),o4,o5]
inductive NP(sy:D)(A B:Addr)(p0 qs:List (List Nat))(ZX:List (List Nat×Nat))(o4:Slot)(n:Nat)(O:St):Prop
 |mk (q1 q2:List (List Nat)) (hq:q1++q2=qs) (hn:q1.length=n) (e:O=DG sy A B (p0++[]::q1) ZX [] o4 (.val (aW q2.flatten))):NP sy A B p0 qs ZX o4 n O
theorem wh{p:List Nat}:(!PyData.eqv (aW p).py (D.list []).py)=!decide (p=[]):=by
 rcases p with _|⟨k,p⟩
 ·rfl
 ·rfl
theorem Am(p q:List Nat):D.list (p.map bE++q.map bE)=aW (p++q):=by unfold aW;rw[QU]
theorem yR{sy:D}{A B:Addr}{p0 qs:List (List Nat)}{ZX:List (List Nat×Nat)}{o5:Slot}(h5:o5.ZW=false)(hq:∀q∈qs,q≠[])(hl:p0.length+1+qs.length<=50)(hf:qs.flatten.length<=50)(hp:∀o5,o5.ZW=false->W T cE (DG sy A B (p0++[qs.flatten]) ZX [] (.val (.int 8)) o5) (Bo (c8 (bF 78) 1) 4) P):W T cE (DG sy A B (p0++[]::qs) ZX [] (.val (.int 8)) o5) (Bo (c8 (bF 78) 1) 3) P:=by
 refine ac (bM (aE (aa 4) ag gC) (λU=>?_) (λh=>by contradiction));refine ac (ak 5 (d:=aW ([]:List (List Nat)).flatten) (av ad) rfl h5 ?_);refine ac (gA (NP sy A B p0 qs ZX (.val (.int 8))) qs.length ⟨qs,[],QN _,rfl,rfl⟩ ?_);rintro n O ⟨q1,q2,rfl,rfl,rfl⟩;have MQ:q1=[]\/∃r q,q1=r++[q]:=by
  rcases List.eq_nil_or_concat q1 with h|⟨r,q,h⟩
  ·exact .inl h
  ·exact .inr ⟨r,q,by rw[h,List.concat_eq_append]⟩
 rw[List.flatten_append,Qu]at hf;rw[Qu]at hl;have top:∃r q,p0++[]::q1=r++[q]/\r.length<=50/\(q=[]↔q1=[])/\(q1≠[]->∃r',q1=r'++[q]/\r=p0++[]::r'):=by
  rcases MQ with rfl|⟨r,q,rfl⟩
  ·exact⟨p0,[],rfl,by lia,by simp,λh=>absurd rfl h⟩
  ·refine⟨p0++[]::r,q,by rw[QQ];rfl,?_,?_,λU=>⟨r,rfl,rfl⟩⟩
   ·rw[Qu,QK];rw[Qu,Q9]at hl;lia
   ·exact⟨λh=>absurd h (hq q (by simp)),λh=>absurd h (by simp)⟩
 refine nX top λr q he L4 Le hqn=>?_;have WZ:(p0++[]::q1).map aW=r.map aW++[aW q]:=by rw[he,QU];rfl
 have JF:(r.map aW++[aW q]).length=(r.map aW).length+1:=by rw[Qu];rfl
 have hrl':(r.map aW).length<=50:=by rw[Qs];exact L4
 unfold DG;rw[WZ];refine⟨_,aE (cg 1 (bV 1 rfl rfl) rfl rfl (mJ rfl) (by rw[JF];exact mZ) sP dk dk (Z 5)) (av ad) (jE (k:=1) (k':=1) (CE q) rfl dk),λh=>?_,λh=>?_⟩
 ·rw[wh]at h
  have h1:q1≠[]:=λz=>by rw[Q7 (Le.mpr z)]at h;contradiction
  refine ay (hqn h1) λr' U Mp=>?_;subst U;subst Mp;rw[Qu,Q9]at hl;rw[List.flatten_append,Qu,List.flatten_singleton]at hf;refine ac (tU 5 (BJ (BK 1 (bV 1 rfl rfl) rfl rfl (Z 6) (sz (by lia))) (aa 5) (sz (by rw[Qs,Qs];lia))) rfl rfl rfl (Z 1) (Z 2) (aL ?_));refine⟨r'.length,by rw[Qu];exact Rf _,r',q::q2,by rw[QQ];rfl,rfl,?_⟩;rw[Am];rfl
 ·rw[wh]at h
  have h1:q1=[]:=by
   by_cases z:q1=[]
   ·exact z
   ·rw[Q4 (λy=>z (Le.mp y))]at h;contradiction
  have WK:=Le.mpr h1;subst h1 WK;obtain rfl:p0=r:=by have:=List.append_inj_left' he rfl;exact this
  refine ac (jx 1 (aa 5) (bV 1 rfl rfl) rfl rfl (mJ rfl) (by rw[JF];exact mZ) dk dk (Z 2) (aL ?_));have e:(p0.map aW++[aW []]).set (p0.map aW).length (aW q2.flatten)=(p0++[([]++q2).flatten]).map aW:=by rw[List.set_append_right _ _ (QO _),Nat.sub_self,QU];rfl
  rw[e];exact hp _ rfl
structure n7(T:a6):Prop where
 nt:cf T "ISNONTERMINAL" ["x"] (fh 65) (bF 65)
 off:bA T "NT_OFFSET" (.int 256)
 chr:Bl T "chr" (.builtin "chr")
section
variable{P:dL}{sy:D}{A B:Addr}{pp:Pos}
def oh(T:a6)(P:dL)(sy:D)(A B:Addr)(pp:Pos)(ds:List D)(pile:List (List Nat))(ZX:List (List Nat×Nat))(nm:List Nat):Prop:=
 ∀o4 o5,o4.ZW=false->o5.ZW=false->jf T cE (.Name "symbol" pp) (c8 (bF 78) 1) P ds (DG sy A B pile ZX nm o4 o5)
def DM(T:a6)(P:dL)(sy:D)(A B:Addr)(pp:Pos)(ds:List D)(pile:List (List Nat))(ZX:List (List Nat×Nat)):Prop:=
 oh T P sy A B pp ds pile ZX []/\∀p k,pile=p++[[k]]->k<5->oh T P sy A B pp ds p ZX (dp k)
theorem EC(H:n7 T){pile:List (List Nat)}{ZX:List (List Nat×Nat)}{nm:List Nat}(hc:ch<128)(hn:nm.length<=60)(h:oh T P sy A B pp ds pile ZX (nm++[ch])):oh T P sy A B pp (.int ((256+ch:Nat):Int)::ds) pile ZX nm:=
 λo4 o5 h4 h5=>⟨_,ae 4 rfl rfl h4,DY H.nt H.off H.chr hc hn rfl rfl (h _ _ rfl h5)⟩
theorem Co(H:n7 T){pile:List (List Nat)}{ZX:List (List Nat×Nat)}:∀(l nm:List Nat),(∀c∈l,c<128)->nm.length+l.length<=60->oh T P sy A B pp ds pile ZX (nm++l)->oh T P sy A B pp ((kR l).map .int++ds) pile ZX nm:=λl=>by
 induction l with
 |nil=>intro nm _ _ h;rw[QN]at h;exact h
 |cons c l ih=>intro nm h1 h2 h;rw[QK]at h2;refine EC H (h1 c QH) (by exact Nat.le_of_add_right_le h2) (ih (nm++[c]) (λd hd=>h1 d (QA _ hd)) (by rw[Qu,Q9];lia) ?_);rw[QQ];exact h
theorem d8{pile:List (List Nat)}:pile.map aW++[aW q]=(pile++[q]).map aW:=by rw[QU];rfl
theorem v7(H:n7 T){pile:List (List Nat)}{ZX:List (List Nat×Nat)}(hl:pile.length<=100)(h:oh T P sy A B pp ds (pile++[[]]) ZX []):oh T P sy A B pp (.int 7::ds) pile ZX []:=λo4 o5 h4 h5=>
 ⟨_,ae 4 rfl rfl h4,eQ (pile:=pile.map aW) (nm:=[]) H.nt H.off dk (by rw[Qs];exact hl) rfl rfl rfl (qj (x:=7) dk rfl (by show jf T cE (.Name "symbol" pp) (c8 (bF 78) 1) P ds [.val sy,.mu A (.list (pile.map aW++[aW []])),.mu B (.list (ZX.map kh)),.val (sD []),.val (.int 7),o5];rw[d8];exact h _ _ rfl h5))⟩
theorem jO(H:n7 T){pile:List (List Nat)}{ZX:List (List Nat×Nat)}{x:Int}(hx:x∈([0,12,13]:List Int))(hl:pile.length<=100)(h:oh T P sy A B pp ds pile ZX []):DM T P sy A B pp (.int x::ds) pile ZX:=by
 have hx7:x≠7:=λz=>by subst z;exact absurd hx dk
 have PX:x<256:=by simp at hx;lia
 have PY:x∈([0,7,12,13]:List Int):=by simp at hx ⊢;lia
 refine⟨λo4 o5 h4 h5=>⟨_,ae 4 rfl rfl h4,eQ (pile:=pile.map aW) (nm:=[]) H.nt H.off PX (by rw[Qs];exact hl) rfl rfl rfl (qj PY rfl ?_)⟩,λp k hp hk o4 o5 h4 h5=>⟨_,ae 4 rfl rfl h4,eQ (pile:=p.map aW) (nm:=dp k) H.nt H.off PX ?_ rfl rfl rfl (qj PY rfl ?_)⟩⟩
 ·have e:bm [] x=[]:=by unfold bm;rw[Rb rfl,Q5 hx7]
  rw[e,QN];exact h _ _ rfl h5
 ·rw[Qs];rw[hp,Qu]at hl;exact T2 hl
 ·have e:bm (dp k) x=[aW [k]]:=by
   have:∀k<5,dp k≠[]:=by decide
   unfold bm;rw[Q5 (this k hk)];rfl
  rw[e];subst hp;rw[d8];exact h _ _ rfl h5
theorem qk{ZX:List (List Nat×Nat)}{m:Nat}:ZX.map kh++[.list [aW q,.int m]]=(ZX++[(q,m)]).map kh:=by rw[QU];rfl
theorem sZ(H:n7 T){pile:List (List Nat)}{ZX:List (List Nat×Nat)}{x:Int}{m k:Nat}(hx:(x,m)∈[((11:Int),1),(53,2)])(hk:k<5)(hl:pile.length<=90)(K7:ZX.length<=100)(h:oh T P sy A B pp ds (pile++[[k]]) (ZX++[([k],m)]) []):oh T P sy A B pp (.int x::ds) pile ZX (dp k):=λo4 o5 h4 h5=>by
 have PX:x=11\/x=53:=by simp at hx;lia
 have PY:(x,m)∈[((8:Int),0),(11,1),(53,2)]:=QA _ hx;refine⟨_,ae 4 rfl rfl h4,eQ (pile:=pile.map aW) (nm:=dp k) H.nt H.off (by lia) (by rw[Qs];exact QC hl dk) rfl rfl rfl (vH PX rfl ?_)⟩;have e:bm (dp k) x=[aW [k]]:=by
  have:∀k<5,dp k≠[]:=by decide
  unfold bm;rw[Q5 (this k hk)];rfl
 rw[e];refine qh (pile:=pile.map aW) (p:=aW [k]) PY (by rw[Qs];exact QC hl dk) (by rw[Qs];exact K7) rfl rfl rfl ?_;rw[d8,qk];exact h _ _ rfl h5
theorem s0(H:n7 T){pile:List (List Nat)}{ZX:List (List Nat×Nat)}{x:Int}{m:Nat}(hx:(x,m)∈[((11:Int),1),(53,2)])(hl:pile.length<=90)(K7:ZX.length<=100)(h:oh T P sy A B pp ds (pile++[q]) (ZX++[(q,m)]) []):oh T P sy A B pp (.int x::ds) (pile++[q]) ZX []:=λo4 o5 h4 h5=>by
 have PX:x=11\/x=53:=by simp at hx;lia
 have PY:(x,m)∈[((8:Int),0),(11,1),(53,2)]:=QA _ hx;refine⟨_,ae 4 rfl rfl h4,eQ (pile:=(pile++[q]).map aW) (nm:=[]) H.nt H.off (by lia) (by rw[Qs,Qu,Q9];lia) rfl rfl rfl (vH PX rfl ?_)⟩;have e:bm [] x=[]:=by unfold bm;rw[Rb rfl,Q5 (by lia)]
 rw[e,QN,<-d8];refine qh (pile:=pile.map aW) (p:=aW q) PY (by rw[Qs];exact QC hl dk) (by rw[Qs];exact K7) rfl rfl rfl ?_;rw[d8,qk];exact h _ _ rfl h5
theorem mw{p0 qs:List (List Nat)}{ZX:List (List Nat×Nat)}{o5:Slot}(h5:o5.ZW=false)(hq:∀q∈qs,q≠[])(hl:p0.length+1+qs.length<=50)(hf:qs.flatten.length<=50)(K7:ZX.length<=100)(h:oh T P sy A B pp ds (p0++[qs.flatten]) (ZX++[(qs.flatten,0)]) []):
  W T cE (DG sy A B (p0++[]::qs) ZX [] (.val (.int 8)) o5) (Bo (c8 (bF 78) 1) 3) (λfl Wj=>match fl with
   |.next=>jf T cE (.Name "symbol" pp) (c8 (bF 78) 1) P ds Wj
   |.cont=>jf T cE (.Name "symbol" pp) (c8 (bF 78) 1) P ds Wj
   |.brk=>P .next Wj
   |.ret r=>P (.ret r) Wj):=by
 refine yR h5 hq hl hf λo5 h5=>?_;unfold DG;rw[<-d8];refine qh (pile:=p0.map aW) (p:=aW qs.flatten) (x:=8) (m:=0) dk (by rw[Qs];lia) (by rw[Qs];exact K7) rfl rfl rfl ?_;rw[d8]
 have:=h (.val (.int 8)) o5 rfl h5
 unfold DG at this;rw[<-qk]at this;exact this
theorem sY(H:n7 T){p0 qs:List (List Nat)}{ZX:List (List Nat×Nat)}(hq:∀q∈qs,q≠[])(hl:p0.length+1+qs.length<=50)(hf:qs.flatten.length<=50)(K7:ZX.length<=100)(h:oh T P sy A B pp ds (p0++[qs.flatten]) (ZX++[(qs.flatten,0)]) []):DM T P sy A B pp (.int 8::ds) (p0++[]::qs) ZX:=by
 refine⟨λo4 o5 h4 h5=>⟨_,ae 4 rfl rfl h4,eQ (pile:=(p0++[]::qs).map aW) (nm:=[]) H.nt H.off dk (by rw[Qs,Qu,QK];lia) rfl rfl rfl ?_⟩,λp k hp hk o4 o5 h4 h5=>⟨_,ae 4 rfl rfl h4,eQ (pile:=p.map aW) (nm:=dp k) H.nt H.off dk ?_ rfl rfl rfl ?_⟩⟩
 ·rw[show bm [] 8=[]from rfl,QN]
  exact mw h5 hq hl hf K7 h
 ·have:=QV List.length hp
  rw[Qu,Qu,QK,Q9]at this;rw[Qs];lia
 ·have e:bm (dp k) 8=[aW [k]]:=by
   have:∀k<5,dp k≠[]:=by decide
   unfold bm;rw[Q5 (this k hk)];rfl
  rw[e,d8,<-hp];exact mw h5 hq hl hf K7 h
noncomputable def NT.sz:NT->Nat|.leaf _ _=>1|.node a b _=>a.sz+b.sz+1
theorem NT.part_sz:∀t:NT,t.part.length<=t.sz/\t.part≠[]:=λt=>by
 induction t with
 |leaf k m=>exact⟨QO 1,SQ _ _⟩
 |node a b m iha ihb=>refine⟨?_,List.append_ne_nil_of_left_ne_nil iha.2 _⟩;show(a.part++b.part).length<=a.sz+b.sz+1;rw[Qu];have:=iha.1;have:=ihb.1;lia
theorem vG(p:List Nat)(m:Nat):(k7 p m).length<=1:=by
 unfold k7;by_cases h:m=0
 ·rw[Rb h];exact Rh 1
 ·rw[Q5 h];exact QO 1
theorem NT.Z8:∀t:NT,t.ZY.length<=2*t.sz:=λt=>by
 induction t with
 |leaf k m=>exact QC (vG _ _) (show 1<=2*1 by decide)
 |node a b m iha ihb=>
  show(a.ZY++(b.ZY++(a.part++b.part,0)::k7 (a.part++b.part) m)).length<=2*(a.sz+b.sz+1)
  have:=vG (a.part++b.part) m
  rw[Qu,Qu,QK];lia
theorem D3:∀k<5,∀c∈dp k,c<128:=by decide
theorem D0:∀k<5,(dp k).length=2:=by decide
theorem N8{m:Nat}(h:m<3):m=0\/m=1\/m=2:=by lia
theorem qC(H:n7 T):∀(t:NT)(ds:List D)(pile:List (List Nat))(ZX:List (List Nat×Nat)),t.ok->pile.length+t.sz<=40->ZX.length+2*t.sz<=90->DM T P sy A B pp ds (pile++[t.part]) (ZX++t.ZY)->oh T P sy A B pp (t.Z6.map .int++ds) pile ZX []:=λt=>by
 induction t with
 |leaf k m=>
  intro ds pile ZX Kf h1 h2 h;have h1:pile.length+1<=40:=h1;have h2:ZX.length+2*1<=90:=h2;obtain⟨hk,hm⟩:k<5/\m<3:=Kf;show oh T P sy A B pp ((kR (dp k)++v9 m).map .int++ds) pile ZX [];rw[QU,QQ];refine Co H (dp k) [] (D3 k hk) (by rw[D0 k hk];decide) ?_;rw[SK];have hp:pile.length<=90:=by lia
  have he:ZX.length<=100:=by lia
  rcases N8 hm with rfl|rfl|rfl
  ·have:=h.2 pile k rfl hk
   rw[show(NT.leaf k 0).ZY=[]from rfl,QN]at this;exact this
  ·exact sZ H (x:=11) (m:=1) dk hk hp he h.1
  ·exact sZ H (x:=53) (m:=2) dk hk hp he h.1
 |node a b m iha ihb=>
  intro ds pile ZX Kf h1 h2 h;have h1:pile.length+(a.sz+b.sz+1)<=40:=h1;have h2:ZX.length+2*(a.sz+b.sz+1)<=90:=h2;obtain⟨oa,ob,hm⟩:a.ok/\b.ok/\m<3:=Kf;refine xA a.part_sz λpa na=>?_;refine xA b.part_sz λpb nb=>?_;have za:1<=a.sz:=QC (List.length_pos_iff.mpr na) pa;have ea:=a.Z8;have eb:=b.Z8;show oh T P sy A B pp (.int 7::((a.Z6++12::(b.Z6++8::v9 m)).map .int++ds)) pile ZX [];refine v7 H (by lia) ?_;rw[QU,QQ];refine iha _ _ _ oa (by rw[Qu,Q9];lia) (by lia) ?_;show DM T P sy A B pp (.int 12::((b.Z6++8::v9 m).map .int++ds)) _ _;refine jO H dk (by rw[Qu,Qu,Q9,Q9];lia) ?_;rw[QU,QQ];refine ihb _ _ _ ob (by rw[Qu,Qu,Q9,Q9];lia) (by rw[Qu];lia) ?_;have e:pile++[[]]++[a.part]++[b.part]=pile++[]::[a.part,b.part]:=by simp
  have ef:[a.part,b.part].flatten=a.part++b.part:=by simp
  rw[e];refine sY H (by simp[na,nb]) (by show pile.length+1+2<=50;lia) (by rw[ef,Qu];lia) (by rw[Qu,Qu];lia) ?_;rw[ef];have he:ZX++(NT.node a b m).ZY=(ZX++a.ZY++b.ZY++[(a.part++b.part,0)])++k7 (a.part++b.part) m:=by show ZX++(a.ZY++(b.ZY++(a.part++b.part,0)::k7 (a.part++b.part) m))=_;simp
  rw[he]at h;have JF:(ZX++a.ZY++b.ZY++[(a.part++b.part,0)]).length<=100:=by rw[Qu,Qu,Qu,Q9];lia
  have hp:pile.length<=90:=by lia
  rcases N8 hm with rfl|rfl|rfl
  ·rw[show k7 (a.part++b.part) 0=[]from rfl,QN]at h
   exact h.1
  ·exact s0 H (x:=11) (m:=1) dk hp JF h.1
  ·exact s0 H (x:=53) (m:=2) dk hp JF h.1
theorem wZ(H:n7 T)(t:be)(Kf:t.ok)(hs:t.x.sz+t.y.sz+t.z.sz<=30)(h:oh T P sy A B pp [] [t.part] t.ZY []):oh T P sy A B pp ((t.Z6++[0]).map .int) [] [] []:=by
 refine jd Kf λo1 o2 o3=>?_;refine xA t.x.part_sz λp1 n1=>?_;refine xA t.y.part_sz λp2 n2=>?_;refine xA t.z.part_sz λp3 n3=>?_;have e1:=t.x.Z8;have e2:=t.y.Z8;have e3:=t.z.Z8;show oh T P sy A B pp (.int 7::(((t.x.Z6++12::(t.y.Z6++12::(t.z.Z6++[8,13])))++[0]).map .int)) [] [] [];refine v7 H (Rh _) ?_;rw[QQ,QU];refine qC H t.x _ [[]] [] o1 (by show 1+_<=40;lia) (by show 0+_<=90;lia) ?_;show DM T P sy A B pp (.int 12::(((t.y.Z6++12::(t.z.Z6++[8,13]))++[0]).map .int)) _ _;refine jO H dk (QT rfl) ?_;rw[QQ,QU];refine qC H t.y _ [[],t.x.part] t.x.ZY o2 (by show 2+_<=40;lia) (by lia) ?_;show DM T P sy A B pp (.int 12::(((t.z.Z6++[8,13])++[0]).map .int)) _ _;refine jO H dk (QT rfl) ?_;rw[QQ,QU];refine qC H t.z _ [[],t.x.part,t.y.part] (t.x.ZY++t.y.ZY) o3 (by show 3+_<=40;lia) (by rw[Qu];lia) ?_;have ef:[t.x.part,t.y.part,t.z.part].flatten=t.part:=by unfold be.part;simp
 show DM T P sy A B pp (.int 8::[.int 13,.int 0]) ([]++[]::[t.x.part,t.y.part,t.z.part]) _;refine sY H (by simp[n1,n2,n3]) (QT rfl) (by rw[ef];unfold be.part;rw[Qu,Qu];lia) (by rw[Qu,Qu];lia) ?_;rw[ef];have he:t.x.ZY++t.y.ZY++t.z.ZY++[(t.part,0)]=t.ZY:=by unfold be.ZY;simp
 rw[he];exact(jO H dk (QT rfl) (jO H dk (QT rfl) h).1).1
end
theorem xr(hf:cf T "_law_edges" ["symbols"] (fh 78) (bF 78))(H:n7 T)(t:be)(Kf:t.ok)(hs:t.x.sz+t.y.sz+t.z.sz<=30):Fn T 6 "_law_edges" [.list ((t.Z6++[0]).map .int)] (.list (t.ZY.map kh)):=by refine eU (rest:=["pile","edges","name","symbol","part"]) (wr:=[]) hf rfl ?_;refine ac (bz (n:=3) (ns:=["pile","edges","name"]) (fE (dB ad dk) (λA=>fE (dB ad dk) (λB=>jJ aA (gJ ⟨rfl,_,lJ 3 rfl rfl rfl (Z 1) (dW 2 rfl rfl rfl (Z 1) (dW 1 rfl rfl rfl (Z 1) ix)),?_⟩) (Z 2)) (Z 2)) (Z 2)) rfl dk (Z 2) (λU ok=>(bo ok).trans (Z 1)));generalize YI:D.list ((t.Z6++[0]).map .int)=sy;refine ac (eA (bb (Ev.to (aa 0) YI.symm) rfl) (wZ (sy:=sy) H t Kf hs (λo4 o5 h4 h5=>?_) .no .no rfl rfl) (Z 5));exact cH 2 rfl rfl (ac (bf (aa 2) (.inl rfl)))
section

def IW:List Stmt:=match(behindTheImports P0).find? (λs=>match s with|.ClassDef ..=>true|_=>false)with|some (.ClassDef _ _ _ b ..)=>b|_=>[]
def N9(x:Str):Stmt:=(IW.find? (λs=>match s with|.FunctionDef y ..=>y==x|_=>false)).getD (.Pass ⟨0,0,0,0⟩)
def mB(x:Str):List Stmt:=match N9 x with|.FunctionDef _ _ b _ _ _ _ _ _ _=>b|_=>[]
def mS(x:Str):Scope:=match N9 x with|.FunctionDef _ _ _ _ _ _ sc _ _ _=>sc|_=>default
structure je where
 C:Addr
 fC:Addr
 fG:Addr
 fK:Addr
 fV:Addr
 fD:Addr
 fA:Addr
 fI:Addr
 p1:Addr
 p2:Addr
structure Hd(T:a6)(a:je):Prop where
 attr:kU T a.C
 mC:fU T a.C "_convert_string_type" a.fC
 mG:fU T a.C "get" a.fG
 mK:fU T a.C "keys" a.fK
 mV:fU T a.C "values" a.fV
 iC:n9 T a.fC (Lake.W.mS "_convert_string_type") (mB "_convert_string_type") ["name"] ["self","value","name"] [] 2
 iG2:n9 T a.fG (Lake.W.mS "get") (mB "get") [] ["self","name","default"] [.none] 2
 iG3:n9 T a.fG (Lake.W.mS "get") (mB "get") [] ["self","name","default"] [] 3
 iK:n9 T a.fK (Lake.W.mS "keys") (mB "keys") [] ["self"] [] 1
 iV:n9 T a.fV (Lake.W.mS "values") (mB "values") [] ["self"] [] 1
 iD:n9 T a.fD (Lake.W.mS "__delitem__") (mB "__delitem__") [] ["self","name"] [] 2
 pat1:iZ T a.p1 oN
 pat2:iZ T a.p2 kY
 g1:bA T "_name_disallowed_re" (.ref a.p1)
 g2:bA T "_value_disallowed_re" (.ref a.p2)
 ty:Bl T "type" (.type "type")
 str:Bl T "str" (.type "str")
variable{T:a6}{a:je}
def pD(x:Str):Prop:=x.length<=1000/\∀ch∈x.cps.toList,31<ch/\ch≠127
def FS(x:Str):Prop:=x.length<=1000/\∀ch∈x.cps.toList,(31<ch\/ch=9)/\ch≠127
theorem conv(H:Hd T a)(d:D)(b:Bool)(x:Str)(hx:if b then pD x else FS x):FI T 3 a.fC ["name"] [d,.str x] [.bool b] (.str x):=by
 refine EG (n:=2) (ddv:=[]) (rest:=["regex"]) (wr:=[]) H.iC (λU=>.nil) rfl rfl rfl ⟨by decide +kernel,by kernel_rfl,by kernel_rfl,by kernel_rfl,by decide +kernel,nofun,by decide +kernel,nofun,by decide +kernel⟩ ?_;refine ac (bM (vk H.ty H.str (aa 1) rfl (by show(Value.type "str" == Value.type "builtin_function_or_method")=false;decide +kernel) (Z 1) (Z 1) rfl (Z 2) (Z 2) (Z 2) rfl) (λU=>?_) (λe=>absurd e (by show ¬(Value.type "str" == Value.type "str")=false;decide +kernel)));have hsz:x.cps.size<=2^62:=by
  have:x.length<=1000:=by cases b<;>exact hx.1
  have e:x.length=x.cps.size:=rfl;rw[e]at this;exact QC this dk
 cases b with
 |true=>
  refine ac (ak 3 (d:=.ref a.p1) (fx (b:=true) (d:=.ref a.p1) (d':=.ref a.p2) (dU (aa 2) (Z 5)) (λU=>bX H.g1) (λe=>by exact fT e)) rfl rfl ?_);refine ac (bM (iu H.pat1 (aa 3) (aa 1) (Z 6) (Z 2) hsz (by
   have:=Eb x.cps.toList hx.2
   rw[<-wo]at this;exact this) (Z 5)) (λe=>by exact fF e) (λU=>aL ?_))
  exact ac (bf (aa 1) (.inl rfl))
 |false=>
  refine ac (ak 3 (d:=.ref a.p2) (fx (b:=false) (d:=.ref a.p1) (d':=.ref a.p2) (dU (aa 2) (Z 5)) (λe=>by exact fF e) (λU=>bX H.g2)) rfl rfl ?_);refine ac (bM (iu H.pat2 (aa 3) (aa 1) (Z 6) (Z 2) hsz (by
   have:=Ec x.cps.toList hx.2
   rw[<-wo]at this;exact this) (Z 5)) (λe=>by exact fF e) (λU=>aL ?_))
  exact ac (bf (aa 1) (.inl rfl))
noncomputable def bp(p:Str×Str):D:=.tup [.str p.1,.str p.2]
noncomputable def lr(hs:List (Str×Str))(nm:Str)(d:D):D:=match hs.find? (λp=>Txt.lower p.1==nm)with|some p=>.str p.2|none=>d
def dI(x:Str):Prop:=Builtin.Str.tooLong (Txt.lower x).length=false
noncomputable def Gy:Stmt->PySem.Expr|.For t _ _ _ _=>t|_=>.Constant .none 0 ⟨0,0,0,0⟩
def GD:Stmt:=((mB "get")[1]?).getD (.Pass ⟨0,0,0,0⟩)
abbrev Ej:Cx:=⟨3,mS "get",([("self" : Str),"name","default"]:List Str)++([("k" : Str),"v"]:List Str),[]⟩
theorem zj:∀(hs:List (Str×Str))(o3 o4:Slot),(∀p∈hs,dI p.1)->o3.ZW=false->o4.ZW=false->
  jf T Ej (Gy GD) (rM GD) (Kn T Ej ((mB "get").drop 2) (λfl U=>mf (lr hs nm d) fl)) (hs.map bp) [.val sf,.val (.str nm),.val d,o3,o4]:=by
 intro X_;induction X_ with
 |nil=>intro o3 o4 _ _ _;exact ac (bf (aa 2) (.inl rfl))
 |cons p hs IH=>
  intro o3 o4 hl h3 h4;refine⟨_,cz (an (ae 3 rfl rfl h3) (an (ae 4 rfl rfl h4) bg)),?_⟩;refine ac (bM (aE (eT (aa 3) (Z 6) (hl p (.head _))) (aa 1) fu) (λe=>?_) (λe=>aL (aL ?_)))
  ·refine ac (bf (aa 4) (.inl ?_))
   unfold lr;rw[R7,e]
  ·have e2:lr (p::hs) nm d=lr hs nm d:=by unfold lr;rw[R7,e]
   rw[e2];exact IH _ _ (λq hq=>hl q (.tail _ hq)) rfl rfl
theorem sE(H:Hd T a)(hs:List (Str×Str))(x:Str)(d:D)(hl:∀p∈hs,dI p.1)(hx:pD (Txt.lower x))(KN:dI x):
  W T Ej [.val (.hdr a.C (hs.map bp)),.val (.str x),.val d,.no,.no] (mB "get") (λfl U=>mf (lr hs (Txt.lower x) d) fl):=by
 refine ac (ak 1 (gf (conv H _ true (Txt.lower x) hx) (aa 0) (.inr ⟨_,rfl⟩) rfl H.mC
  (.cons (ah (eT (aa 1) (Z 6) KN) ad) (Z 2)) (gg cR cp) (Z 8) dk) rfl rfl ?_)
 exact ac (eA (bb (fw (aa 0) H.attr (Z 2)) rfl) (zj hs .no .no hl rfl rfl) (Z 5))
theorem GB(H:Hd T a)(hs:List (Str×Str))(x:Str)(hl:∀p∈hs,dI p.1)(hx:pD (Txt.lower x))(KN:dI x):FI T 4 a.fG [] [.hdr a.C (hs.map bp),.str x] [] (lr hs (Txt.lower x) .none):=
 EG (ddv:=[.none]) (rest:=["k","v"]) (wr:=[]) H.iG2 (λU=>.cons .none .nil) rfl rfl rfl ⟨by decide +kernel,by kernel_rfl,by kernel_rfl,by kernel_rfl,by decide +kernel,nofun,by decide +kernel,nofun,by decide +kernel⟩ (sE H hs x .none hl hx KN)
theorem GC(H:Hd T a)(hs:List (Str×Str))(x:Str)(d:D)(hl:∀p∈hs,dI p.1)(hx:pD (Txt.lower x))(KN:dI x):FI T 4 a.fG [] [.hdr a.C (hs.map bp),.str x,d] [] (lr hs (Txt.lower x) d):=
 EG (ddv:=[]) (rest:=["k","v"]) (wr:=[]) H.iG3 (λU=>.nil) rfl rfl rfl ⟨by decide +kernel,by kernel_rfl,by kernel_rfl,by kernel_rfl,by decide +kernel,nofun,by decide +kernel,nofun,by decide +kernel⟩ (sE H hs x d hl hx KN)
noncomputable def Ig:List Stmt->PySem.Expr|[.Return (some e) _]=>e|_=>.Constant .none 0 ⟨0,0,0,0⟩
noncomputable def Ih:List Stmt->Pos|[.Return (some _) p]=>p|_=>⟨0,0,0,0⟩
theorem GL(H:Hd T a)(hs:List (Str×Str))(hz:hs.length<=sizeLine):II T 4 a.fK [] [.hdr a.C (hs.map bp)] [] (.list (hs.map λp=>.str p.1)):=by
 have e:((hs.map bp).filter (λU=>true)).map (λt=>match t with|.tup [a,_]=>a|_=>D.none)=hs.map λp=>.str p.1:=by rw[RD.mpr (Z 5),QZ];rfl
 refine Dy (n:=3) (ddv:=[]) (rest:=[]) (wr:=[]) (e:=Ig (mB "keys")) (p:=Ih (mB "keys")) (ps:=["self"]) (sc:=mS "keys") H.iK (λU=>.nil) rfl rfl rfl ⟨by decide +kernel,by kernel_rfl,by kernel_rfl,by kernel_rfl,by decide +kernel,nofun,by decide +kernel,nofun,by decide +kernel⟩ ?_;rw[<-e];refine jI (own:=["k","v"]) (fr:=[]) (wr':=[]) (fi:=[]) (fs:=[]) (items:=hs.map bp) (p:=λU=>true) (g:=λt=>match t with|.tup [a,d]=>[.val a,.val d]|_=>[]) (n':=3)
  (bb (fw (aa 0) H.attr (Z 2)) rfl) (QO _) dk dk rfl rfl dk dk
   dk (Z 1) (by rw[Qs];exact hz) (Z 5) ?_ ?_ ?_
 ·intro d JX Wj hσ
  refine ay (QR.mp JX) λq U U=>?_;subst U
  have:∃o o':Slot,Wj=[o,o']/\o.ZW=false/\o'.ZW=false:=by
   rcases hσ with rfl|⟨d',K0,rfl⟩
   ·exact⟨.no,.no,rfl,rfl,rfl⟩
   ·refine ay (QR.mp K0) λq U U=>?_;subst U
    exact⟨_,_,rfl,rfl,rfl⟩
  refine kg this λo o' U h1 h2=>?_;subst U;exact cz (an (ae 0 rfl rfl h1) (an (ae 1 rfl rfl h2) bg))
 ·intro d JX
  exact aw
 ·intro d JX _
  refine ay (QR.mp JX) λq U U=>?_;subst U;exact aa 0
theorem IA(H:Hd T a)(hs:List (Str×Str))(hz:hs.length<=sizeLine):II T 4 a.fV [] [.hdr a.C (hs.map bp)] [] (.list (hs.map λp=>.str p.2)):=by
 have e:((hs.map bp).filter (λU=>true)).map (λt=>match t with|.tup [_,v]=>v|_=>D.none)=hs.map λp=>.str p.2:=by rw[RD.mpr (Z 5),QZ];rfl
 refine Dy (n:=3) (ddv:=[]) (rest:=[]) (wr:=[]) (e:=Ig (mB "values")) (p:=Ih (mB "values")) (ps:=["self"]) (sc:=mS "values") H.iV (λU=>.nil) rfl rfl rfl ⟨by decide +kernel,by kernel_rfl,by kernel_rfl,by kernel_rfl,by decide +kernel,nofun,by decide +kernel,nofun,by decide +kernel⟩ ?_;rw[<-e];refine jI (own:=["k","v"]) (fr:=[]) (wr':=[]) (fi:=[]) (fs:=[]) (items:=hs.map bp) (p:=λU=>true) (g:=λt=>match t with|.tup [x,d]=>[.val x,.val d]|_=>[]) (n':=3)
  (bb (fw (aa 0) H.attr (Z 2)) rfl) (QO _) dk dk rfl rfl dk dk
   dk (Z 1) (by rw[Qs];exact hz) (Z 5) ?_ ?_ ?_
 ·intro d JX Wj hσ
  refine ay (QR.mp JX) λq U U=>?_;subst U
  have:∃o o':Slot,Wj=[o,o']/\o.ZW=false/\o'.ZW=false:=by
   rcases hσ with rfl|⟨d',K0,rfl⟩
   ·exact⟨.no,.no,rfl,rfl,rfl⟩
   ·refine ay (QR.mp K0) λq U U=>?_;subst U
    exact⟨_,_,rfl,rfl,rfl⟩
  refine kg this λo o' U h1 h2=>?_;subst U;exact cz (an (ae 0 rfl rfl h1) (an (ae 1 rfl rfl h2) bg))
 ·intro d JX
  exact aw
 ·intro d JX _
  refine ay (QR.mp JX) λq U U=>?_;subst U;exact aa 1
end

section

section
variable{T:a6}{F:Heap->Prop}{hF:∀h h',F h->(∀b o,h.get? b=some o->h'.get? b=some o)->F h'}
theorem fU.plus(m:fU T C x f):fU (T.plus F hF) C x f:=⟨λw h tp=>m.fn w h tp.1,λw Hy tp=>m.get w Hy tp.1⟩
theorem n9.plus(m:n9 T f sc body kn ps dv np):n9 (T.plus F hF) f sc body kn ps dv np:=⟨λw h tp=>m.at_ w h tp.1⟩
theorem kU.plus(m:kU T C):kU (T.plus F hF) C:=⟨λw Hy tp=>m.get w Hy tp.1⟩
theorem iZ.plus{p:Addr}{code:Array Nat}(m:iZ T p code):iZ (T.plus F hF) p code:=λw h tp=>m w h tp.1
theorem Bl.plus(m:Bl T x v):Bl (T.plus F hF) x v:=λw h tp=>m w h tp.1
end
variable{T:a6}{a:je}
theorem bA.plus{F:Heap->Prop}{hF:∀h h',F h->(∀b o,h.get? b=some o->h'.get? b=some o)->F h'}(m:bA T x d):bA (T.plus F hF) x d:=λw h tp=>m w h tp.1
theorem Hd.plus{F:Heap->Prop}{hF:∀h h',F h->(∀b o,h.get? b=some o->h'.get? b=some o)->F h'}(H:Hd T a):Hd (T.plus F hF) a:=
 ⟨H.attr.plus,H.mC.plus,H.mG.plus,H.mK.plus,H.mV.plus,H.iC.plus,H.iG2.plus,H.iG3.plus,H.iK.plus,H.iV.plus,H.iD.plus,H.pat1.plus,H.pat2.plus,bA.plus H.g1,bA.plus H.g2,H.ty.plus,H.str.plus⟩
structure FX(T:a6)(fA:Addr):Prop where
 at_:∀(w:World)(h:Heap),T.Tp w h->∃fd,n8 h fA (mS "add_header") (mB "add_header") fd/\∀(vals:List Value)(s:Shared),vals.length=3->(∀b o,h.get? b=some o->s.heap.get? b=some o)->
  ∀(M:Model)(A:Around)(E:Ω)(Q:List (Str×Value)->Shared->Prop),Q ([("self" : Str),"_name","_value","_params"].zip (vals++[.ref s.heap.objs.size])) { s with heap:=s.heap.push bG }->wpAny M A (bindArgs fd ⟨vals,[]⟩) Q E s
theorem yt(H:Hd T a)(b d:Addr)(hs:List (Str×Str))(x y:Str)(hx:pD x)(hy:FS y)(hz:hs.length<=sizeLine)(hD:∀w h,T.Tp w h->h.get? d=some bG)(Mj:(d==sysModules)=false):
  W T ⟨4,mS "add_header",([("self" : Str),"_name","_value","_params"]:List Str)++(("#" : Str)::([("parts" : Str),"k","v"]:List Str)),[]⟩ ([D.inst a.C b,.str x,.str y,.ref d].map .val++(.mu b (.list (hs.map bp))::List.replicate 3 .no)) (mB "add_header")
   (λfl Wj=>mf .none fl/\Wj[4]? = some (.mu b (.list ((hs++[(x,y)]).map bp)))):=by
 refine ac (q8 5 (dB ad dk) rfl rfl rfl (Z 1) (Z 2) λa'=>?_);refine ac (bM (aE (aa 2) fB dw) (λU=>?_) (λe=>by contradiction));refine ac (ak 2 (gf (conv H _ false y hy) (aa 0) (.inl ⟨_,rfl⟩) rfl H.mC (.cons (ah (aa 2) ad) (Z 2)) (gg cR cp) (Z 8) dk) rfl rfl ?_);refine ac (eN 5 (bV 5 rfl rfl) (ah (aa 2) ad) rfl rfl (Z 6) (Z 2) dk (λU ok=>gk ok) (Z 2) (aL ?_));refine ac (oG (aa 3) hD Mj (Z 6) (Z 5) ?_);refine cH 5 rfl rfl ?_;refine ac (eN 4 (jH (aa 0) H.attr (Z 2)) (ah (aV (ah
  (gf (conv H _ true x hx) (aa 0) (.inl ⟨_,rfl⟩) rfl H.mC (.cons (ah (aa 1) ad) (Z 2)) (gg cR cp) (Z 8) dk) (ah
  (Ev.to (iA aA (ys:=[y]) (aa 5) (Z 6) (Z 2) (by have h1:=hy.1;have h2:(Str.ofString "; ").length=2:=rfl;rw[h2];simp only[QW,Tq,Ry,List.sum_nil,QK,Ro];lia)) (d':=.str y) (by rfl)) ad)) (by show 2<=sizeLine;decide)) ad)
  rfl rfl (Z 6) (Z 2) (by rw[Qs];exact hz) (λU ok=>gk ok) (Z 2) ?_)
 refine aL ⟨.inr ⟨rfl,rfl⟩,?_⟩;have e:(hs++[(x,y)]).map bp=hs.map bp++[bp (x,y)]:=QU ..;rw[e];rfl
theorem Ga(H:Hd T a)(HA:FX T a.fA)(b:Addr)(hs:List (Str×Str))(x y:Str)(hx:pD x)(hy:FS y)(hz:hs.length<=sizeLine):
  FH T 5 a.fA [] [.inst a.C b,.str x,.str y] [] b (.list (hs.map bp)) (.list ((hs++[(x,y)]).map bp)) .none:=by
 constructor;intro w Hy tp A s ms vals JG Q E keep R old r1 r2 mr q;obtain rfl:=r2.Z3;have KM:∀a o,Hy.get? a=some o->s.heap.get? a=some o:=λa o e=>TH _ (keep a o e);refine ay (HA.at_ w Hy tp) λfd FA hb=>?_;have hl:vals.length=3:=r1.length;have hbs:∃o,s.heap.get? b=some o:=by refine ay mr.there λo e U=>?_;exact⟨o,e⟩
 refine gi (T:=T) (n:=4) (X:=λHX=>HX.heap.get? s.heap.objs.size=some bG) (gs:=[("#",b,.list (hs.map bp))]) (ms:=ms) (ds:=[.inst a.C b,.str x,.str y,.ref s.heap.objs.size]) (ps:=[("self" : Str),"_name","_value","_params"]) (rest:=[("parts" : Str),"k","v"]) (wr:=[]) (FA.keeps KM) ((T.nolimit w Hy tp).keeps KM) R rfl
  (λQ' E' h=>hb vals s hl KM _ _ _ _ (h _ _ az ((r1.mono (ai λU U e=>QF _ e)).app (.cons (.ref _) .nil)) (Q2 _ rfl)))
  (QY.mpr ⟨nofun,Rs⟩) (λp hp=>by cases hp with|head=>exact mr|tail _ hp=>contradiction) (λa ha=>⟨λz=>?_,(old a ha).2⟩) (T.keeps _ _ _ tp keep)
  (show(([("self" : Str),"_name","_value","_params"]:List Str)++(("#" : Str)::([("parts" : Str),"k","v"]:List Str))).Nodup by decide +kernel) (Z 1) (Z 1) (Z 1) dk (show ∀y∈[("#" : Str)],(mS "add_header").names.lookup y=none by decide +kernel) dk nofun dk λHX Ug ZV he Uf hX Uh ok Kv JE=>?_
 ·cases z with
  |head=>exact(old _ ha).1 rfl
  |tail _ z=>contradiction
 ·have Mj:(s.heap.objs.size==sysModules)=false:=beq_eq_false_iff_ne.mpr (TJ (modules_low ((T.nolimit w Hy tp).keeps KM)))
  have MZ:s.heap.objs.size≠b:=λz=>by refine xE hbs λo e=>?_;rw[<-z,aK (QO _)]at e;exact nS e
  have hW:=yt (T:=T.plus (λh=>h.get? s.heap.objs.size=some bG) (λh h' e k=>k _ _ e)) H.plus b s.heap.objs.size hs x y hx hy hz (λw h tp=>tp.2) Mj;refine hW.run (ms₀:=ms) (as:=[b]) ok ⟨Kv,RJ _ hX λz=>?_⟩ R.deeper JE λfl fv Wj as' s' ⟨p,hg⟩ JY sm Pr=>?_
  ·cases z with
   |head=>exact MZ rfl
   |tail _ z=>contradiction
  refine b9.el JY.ex λm F S=>?_;refine jg.el (S.muAt (i:=4) rfl hg) λl r' e hm L8 up fz=>?_;have sub:am (less s'.heap (ms++as')) (less s'.heap (ms++[b])):=aT λa ha=>by
   rcases Qz.mp ha with ha|ha
   ·exact QM _ ha
   ·refine Qy _ ?_
    cases ha with
    |head=>rw[e];exact Qy _ QH
    |tail _ ha=>contradiction
  refine q _ s' ⟨sm.gens.trans (Uh.gens.trans Uf.gens),sm.drawn.trans (Uh.drawn.trans Uf.drawn),sm.os.trans (Uh.os.trans Uf.os)⟩ (λa o Mw e=>F.keep a o (RJ _ (Uf.keep _ _ e) λz=>?_)) (L8.keep sub λU e=>e) (p.value sub Pr);cases z with
  |head=>exact Mw rfl
  |tail _ z=>contradiction
end
section
variable{w:World}{ZV:Env}{names wr:List Str}{Hy h h':Heap}{ms₀ as as':List Addr}{O Wj:St}
end
section
variable(T:a6)(c:Cx)
end
section
variable{T:a6}{c:Cx}{O:St}{P:dL}{A:Around}{ZV:Env}{ta:List Env}
theorem ar.reval(hd:∀v,RV (less h ms) d v->RV (less h ms) d' v){O:St}{as:List Addr}(e1:xs[i]? = some x)(e2:O[i]? = some (.val d))(H:ar w h ms m xs O as):ar w h ms m xs (O.set i (.val d')) as:=
 H.ind (P:=λxs O as=>∀i,xs[i]? = some x->O[i]? = some (.val d)->ar w h ms m xs (O.set i (.val d')) as) (λU U U e=>by contradiction)
  (λy xs r as ih U i e1 e2=>by cases i with|zero=>cases e2|succ i=>exact ih i e1 e2)
  (λy xs Wb v r as e rv ih H i e1 e2=>by cases i with|zero=>(cases e2;exact⟨⟨v,e,hd v rv⟩,H⟩)|succ i=>exact⟨⟨v,e,rv⟩,ih i e1 e2⟩)
  (λy xs b o r as e mr ih U i e1 e2=>by cases i with|zero=>cases e2|succ i=>exact⟨⟨rfl,e⟩,mr,ih i e1 e2⟩) i e1 e2
end
section

theorem tA{l sl v:Addr}{items:Array Value}{Q:Unit->Shared->Prop}(ho:s.heap.get? l=some (aQ "list" vs n))(hs:s.heap.IsSliceOf sl .none .none .none)(hv:s.heap.IsList v items)(JO:l≠v)(hz:vs.length+items.size<=sizeLine)(q:∀h' n',Heap.SameBut l s.heap h'->h'.get? l=some (aQ "list" items.toList n')->Q () { s with heap:=h' }):wpAny (model P0 w) A (setItem (.ref l) (.ref sl) (.ref v)) Q E s:=by
 have hl:s.heap.IsList l vs.toArray:=⟨_,ho,rfl,n,rfl⟩;refine eG (id hs) λos Xv RA WH=>?_;refine Bh (id hv) λov hov hcv nv Pk=>?_;have Zu:s.TypeIs (.ref sl) "slice":=⟨os,Xv,RA⟩;refine RL ?_;refine GA (wpAny_sequenceKey hl.typeIs dk ?_);refine GA (R3 (name:=Str.ofString "__setitem__") hl.typeIs slot_list_setitem
  (RM slot_list_setitem hl.typeIs entry_list_setitem ?_ (args_list_setitem _ _ _)))
 show wpAny _ _ (Builtin.List.listSubscript? (.ref sl) >>= _) _ _ s;refine GA ?_;refine GA (wpAny_specialOf Zu slice_no_index ?_);refine TS rfl (QD ?_);refine GA (wpAny_typeOf Zu ?_);rw[Q5 dk];rw[listSliceParts_eq];refine GA (GA (wpAny_field Xv WH (x:=Value.none) rfl (GA (wpAny_listPart (k:=none) .none ?_))));rw[Q5 (show ¬((rawPart none==rawInt 0)=true)from Rc)];refine GA (wpAny_field Xv WH (x:=Value.none) rfl (GA (wpAny_listPart (k:=none) .none ?_)));refine GA (wpAny_field Xv WH (x:=Value.none) rfl (GA (wpAny_listPart (k:=none) .none (QD ?_))));have hsr:Builtin.List.listSameRef (.ref l) (.ref v)=false:=beq_eq_false_iff_ne.mpr JO;refine Ue (QV (λb=>decide (b=true)) hsr) (GA ?_);refine GA (wpAny_typeOf hv.typeIs ?_);rw[Rb dk];refine GA (SY hov Pk (QD ?_));show wpAny _ _ (Builtin.List.listItems (.ref l) >>= _) _ _ s;refine GA (GA (SY ho rfl (QD ?_)));refine GA (wpAny_of_eq (sliceIndices_raw none none none vs.toArray.size nofun) ?_);have hb:sliceBounds none none none vs.toArray.size=(0,(vs.toArray.size:Int),1):=rfl;rw[hb];refine TS dk (GA (wpAny_rule ?_));have YJ:Builtin.List.listTooLong (vs.toArray.size+items.size)=false:=by rw[QJ];exact Q4 (Sg.mpr hz)
 rw[YJ,Q5 Rc];have hf:vs.toArray.extract 0 (Int.toNat 0)++items++vs.toArray.extract (max 0 (vs.toArray.size:Int)).toNat=items:=by rw[Int.max_eq_right (Rv _),RO];simp
 have hm:∃n',Obj.mapSeq (λxs=>xs.extract 0 (Int.toNat 0)++items++xs.extract (max 0 (vs.toArray.size:Int)).toNat) (aQ "list" vs n)=aQ "list" items.toList n':=by refine⟨if items.size==vs.toArray.size then n else n+1,?_⟩;unfold Obj.mapSeq aQ;dsimp only;rw[hf,Array.toArray_toList]
 refine xE hm λn' hm=>?_;refine GA (T1 ho rfl ?_ (by rw[QJ];exact QC (TR _ _) hz) (by rw[hf];exact Nat.le_succ_of_le (QC (TW _ _) hz)));refine GA (wpAny_letGo (QD ⟨Value.none,rfl,QD (q _ n' (Rz ..) ?_)⟩));rw[Rk _ ho (by rw[hm];rfl),hm]
theorem ye(i:Nat){ds es:List D}(he:Ev T c O e (.list es))(hr:Ev T c O o (.ref a))(hx:c.names[i]? = some x)(hd:O[i]? = some (.mu a (.list ds)))(hz:ds.length+es.length<=sizeLine)(hs:∀ZV,aD c ZV->swapsWith e (some (.Subscript o (.Slice none none none p1) p2)) p.line ZV=pure false)(hp:P .next (O.set i (.mu a (.list es)))):W1 T c O (.Assign [.Subscript o (.Slice none none none p1) p2] e p) P:=by
 constructor;intros;refine wpAny_Assign_Subscript (he.run ok tp R JE λv HX Uf rv=>?_) (hs ZV ok);have Uk:=JE.grow Uf.keep;refine hr.run ok tp R Uk λov Ug Uh ro=>?_;obtain⟨_,rfl⟩:=ro.inv;have Um:=Uk.grow Uh.keep;refine wpAny_Slice (QD (QD (QD ?_)));have Uj:ao Ug { Ug with heap:=Ug.heap.push { cls:=.type "slice",data:=.fields #[.none,.none,.none] } }:=az (s:=Ug) (o:={ cls:=.type "slice",data:=.fields #[.none,.none,.none] }) (t:=Ug.toks);have Uo:=Um.grow Uj.keep;refine nY.el (cV Uo hx hd) λvs n KC JL=>?_;have rv:=(rv.mono (ai (ms:=ms₀++as) Uh.keep)).mono (ai (ms:=ms₀++as) Uj.keep);refine dK.el rv.inv λl ws m U hg Xw=>?_;subst U;have Kc:=ab.mp hg;have JO:a≠l:=λz=>by refine b9.el Uo.ex λm' F S=>?_;exact jg.el (S.muAt hx hd) λl' r e Pv Xu up fz=>Kc.1 (Qy _ (z▸e▸Qy _ QH))
 have af:=(Uf.trans Uh).trans Uj;refine tA KC (Heap.IsSliceOf.new _ _ _ _) (items:=ws.toArray) ⟨_,Kc.2,rfl,m,rfl⟩ JO (by rw[JL.length,QJ,Xw.length];exact hz) λh' n' MG KS=>?_;exact q .next .next _ as _ hp (nq (o':=.list es) Uo hx hd MG ⟨_,_,KS,Xw⟩).1 (af.same.trans ⟨rfl,rfl,rfl⟩) trivial
variable{T:a6}{a:je}
noncomputable def iW(hs:List (Str×Str))(nm:Str):List (Str×Str):=hs.filter λp=>Txt.lower p.1 != nm
theorem zk{b:Addr}(hb:h.get? b=some (aQ "list" ws n))(sub:∀a∈ms',a∈ms\/a=b){p:Str×Str}(r:RV (less h ms) (bp p) v):RV (less h ms') (bp p) v:=by
 obtain⟨a,o,vs,k,rfl,hg,hc,hd,rs⟩:=r.inv;refine cq.el rs.Z0 λv1 U U=>?_;subst U;intro r1 rs;refine cq.el rs.Z0 λv2 U U=>?_;subst U;intro r2 rs;obtain rfl:=rs.Z3;refine xE r1.inv λt1 U=>?_;subst U;refine xE r2.inv λt2 U=>?_;subst U;refine xA (ab.mp hg) λhn hg=>?_;refine .tup (ab.mpr ⟨λz=>?_,hg⟩) hc hd (.cons (.str _ _) (.cons (.str _ _) .nil));rcases sub _ z with z|z
 ·exact hn z
 ·subst z
  rw[hb]at hg;obtain rfl:=QG hg;injection hc with hc
  exact absurd hc dk
theorem xh{b:Addr}(hb:h.get? b=some (aQ "list" ws n))(sub:∀a∈ms',a∈ms\/a=b):∀{ps:List (Str×Str)}{vs:List Value},aX (less h ms) (ps.map bp) vs->aX (less h ms') (ps.map bp) vs:=by
 intro X_;induction X_ with
 |nil=>intro _ r;obtain rfl:=r.Z3;exact .nil
 |cons p ps IH=>intro _ r;refine cq.el r.Z0 λv vs U r1 r2=>?_;subst U;exact .cons (zk hb sub r1) (IH r2)
theorem BI{T:a6}(i j:Nat){x y:Str}{b C:Addr}{es:List D}{rows:List (Str×Str)}(hx:c.names[i]? = some x)(hd:O[i]? = some (.mu b (.list es)))(hy:c.names[j]? = some y)(hi:O[j]? = some (.val (.inst C b)))(Kl:i≠j)(h:oI T c ((O.set i (.val (.list es))).set j (.val (.hdr C es))) e (.list (rows.map bp))):Ev T c O e (.list (rows.map bp)):=by
 constructor;intros;refine b9.el JE.ex λm F S=>?_;obtain⟨l,r,rfl,hm,⟨vs,n,ha,rv⟩,up,fz⟩:=S.muAt hx hd;have nd:=JE.nd;have PD:b∉ms₀:=λz=>by refine xE (JE.old b z) λo e=>?_;rw[JE.new b (Qy _ (QH))]at e;exact nS e
 have Ke:b∉l++r/\(l++r).Nodup:=by
  have:=(RZ (l₁:=l) (a:=b) (l₂:=r)).nodup_iff.mp nd
  exact QY.mp this
 have sub:∀a∈l++r,a∈l++b::r:=λa hb=>by
  rcases Qz.mp hb with z|z
  ·exact QM _ z
  ·exact Qy _ (QA _ z)
 have sk:am (less s.heap (ms₀++(l++b::r))) (less s.heap (ms₀++(l++r))):=aT λa hb=>by
  rcases Qz.mp hb with z|z
  ·exact QM _ z
  ·exact Qy _ (sub a z)
 have hb:less s.heap (ms₀++(l++r)) b=some (aQ "list" vs n):=ab.mpr ⟨λz=>by
  rcases Qz.mp z with z|z
  ·exact PD z
  ·exact Ke.1 z,ha⟩
 have S1:=fz _ _ sk (.inr ⟨.list es,rfl,.list hb (rv.mono sk)⟩);have S2:=ar.reval (d:=.inst C b) (d':=.hdr C es) (λv K5=>by refine RV.instK K5 λU U hi=>?_;subst U;exact .hdr hi hb (rv.mono sk)) hy (by rw[QP Kl];exact hi) S1;refine h.run (as:=l++r) (Q:=Q) ok tp R ⟨⟨m,F,S2⟩,Ke.2,λa hb=>JE.new a (sub a hb),JE.old,λa hb=>JE.loc a (sub a hb)⟩ λa s' WI hn ⟨ws,k,hg,rs⟩=>?_;have relb:=JE.grow WI.keep;have hb':=WI.keep _ _ ha;have M6:a∉ms₀++(l++b::r):=λz=>by refine xE (JE.have a z) λo e=>?_;rw[hn]at e;exact nS e
 refine q _ s' WI (.list (ab.mpr ⟨M6,hg⟩) (xh (ms:=a::(ms₀++(l++r))) hb' (λa' z=>?_) rs));rcases Qz.mp z with z|z
 ·exact .inl (QA _ (QM _ z))
 ·rcases Qz.mp z with z|z
  ·exact .inl (QA _ (Qy _ (QM _ z)))
  ·cases z with
   |head=>exact .inr rfl
   |tail _ z=>exact .inl (QA _ (Qy _ (Qy _ z)))
theorem Gq(H:Hd T a)(b:Addr)(hs:List (Str×Str))(x:Str)(hl:∀p∈hs,dI p.1)(hx:pD (Txt.lower x))(KN:dI x)(hz:hs.length<=1000):
  FH T 4 a.fD [] [.inst a.C b,.str x] [] b (.list (hs.map bp)) (.list ((iW hs (Txt.lower x)).map bp)) .none:=by
 refine G1 (n:=3) (ddv:=[]) (g := "#") (rest:=[]) (wr:=["name"]) H.iD (λU=>.nil) rfl rfl rfl ⟨by decide +kernel,by kernel_rfl,by kernel_rfl,by kernel_rfl,by decide +kernel,by decide +kernel,by decide +kernel,by decide +kernel,by decide +kernel⟩ ?_;refine ac (ak 1 (gf (conv H _ true (Txt.lower x) hx) (aa 0) (.inl ⟨_,rfl⟩) rfl H.mC
  (.cons (ah (eT (aa 1) (Z 6) KN) ad) (Z 2)) (gg cR cp) (Z 8) dk) rfl rfl ?_)
 have he:iW hs (Txt.lower x)=hs.filter λp=>!(Txt.lower p.1==Txt.lower x)&&true:=by unfold iW;congr 1;funext p;rw[So];rfl
 have hf:(hs.map bp).filter (λt=>match t with|.tup [.str a,_]=>!(Txt.lower a==Txt.lower x)&&true|_=>false)=(iW hs (Txt.lower x)).map bp:=by rw[SM,he];rfl
 refine ac (ye 2 (es:=(iW hs (Txt.lower x)).map bp) (BI 2 0 rfl rfl rfl rfl dk (b:=b) (C:=a.C) ?_) (jH (aa 0) H.attr (Z 2)) rfl rfl ?_ (λU ok=>(di ok).trans (Z 1)) ?_)
 ·rw[<-hf,<-Ua (List.filter _ _)]
  refine jI (own:=["kv"]) (fr:=["name"]) (wr':=[]) (fi:=[1]) (fs:=[.str (Txt.lower x)]) (items:=hs.map bp) (f:=id) (g:=λt=>[.val t,.val (.str (Txt.lower x))]) (n':=3)
   (bb (fw (aa 0) H.attr (Z 2)) rfl) (QO _) dk dk rfl rfl dk dk
    dk (Z 1) (by rw[Qs];exact QC hz dk) (Z 5) ?_ ?_ ?_
  ·intro d JX Wj hσ
   refine ay (QR.mp JX) λq U U=>?_;subst U
   have:∃o:Slot,Wj=[o,.val (.str (Txt.lower x))]/\o.ZW=false:=by
    rcases hσ with rfl|⟨d',K0,rfl⟩
    ·exact⟨.no,rfl,rfl⟩
    ·exact⟨_,rfl,rfl⟩
   refine ay this λo U h1=>?_;subst U;exact ae 0 rfl rfl h1
  ·intro d JX
   refine ay (QR.mp JX) λq hq U=>?_;subst U;exact ci (aE (eT (aI (aa 0) ag (CT (k:=0) (j:=0) rfl rfl dk dk)) (Z 6) (hl q hq)) (aa 1) lL) (λU=>aw)
  ·intro d JX _
   refine ay (QR.mp JX) λq hq U=>?_;subst U;exact aa 0
 ·rw[Qs,Qs]
  have:(iW hs (Txt.lower x)).length<=hs.length:=Rp _ _
  exact QC (R8 hz (QC this hz)) dk
 ·exact aL ⟨.inr ⟨rfl,rfl⟩,rfl⟩
end
section

theorem yZ(h:Ev T c O e d):Bp T c O e d O:=
 ⟨@λw A ZV Hy ms₀ as s Q E ok tp R JE q=>h.run ok tp R JE λv s' a rv=>q v s' (JE.grow a.keep) a.same rv⟩
theorem Cs(i:Nat){f b:Addr}{ZV:Env}{ms₀ as:List Addr}{vs kvs:List Value}(hf:FH T n f kn ds kds b ob Mg r)(tp:T.Tp w Hy)(R:aZ c.n A)(JE:aC w c.wr ZV c.names Hy ms₀ as O s.heap)(Uf:ao s HX)(hx:c.names[i]? = some x)(hd:O[i]? = some (.mu b ob))(hn:n<=c.n)(r1:aX (less HX.heap (ms₀++as)) ds vs)(r2:aX (less HX.heap (ms₀++as)) kds kvs)(q:∀v s',aC w c.wr ZV c.names Hy ms₀ as (O.set i (.mu b Mg)) s'.heap->bP s s'->RV (less s'.heap (ms₀++as)) r v->Q v s'):wpAny (model P0 w) A (call (.ref f) vs (kn.zip kvs)) Q E HX:=by
 have Uk:=JE.grow Uf.keep;refine b9.el Uk.ex λm F S=>?_;refine jg.el (S.muAt hx hd) λl r' e Pv mr up fz=>?_;have KI:b∈as:=e▸Qy _ QH;have eq:∀a,a∈((ms₀++as).filter λa=>decide (a≠b))++[b]↔a∈ms₀++as:=λa=>by
  rw[Qz,Q8,QB];constructor
  ·rintro(⟨h,_⟩|rfl)
   ·exact h
   ·exact Qy _ KI
  ·intro h
   by_cases z:a=b
   ·exact .inr z
   ·exact .inl ⟨h,Q7 z⟩
 have to (h:Heap):am (less h (ms₀++as)) (less h (((ms₀++as).filter λa=>decide (a≠b))++[b])):=aT λa ha=>(eq a).mp ha;have fro (h:Heap):am (less h (((ms₀++as).filter λa=>decide (a≠b))++[b])) (less h (ms₀++as)):=aT λa ha=>(eq a).mpr ha;refine hf.run w Hy tp A HX _ vs kvs Q E (λa o Uv=>RJ _ (F.keep _ _ Uv) λz=>?_) (R.less hn) (λa ha=>⟨QS (Q8.mp ha).2,Uk.have a (Q8.mp ha).1⟩) (r1.mono (to _)) (r2.mono (to _)) (mr.keep (to _) λU e=>e) λv s' sm kp L8 rv=>?_
 ·cases z with
  |head=>rw[JE.new _ KI]at Uv;exact nS Uv
  |tail _ z=>contradiction
 ·refine q v s' ?_ (Uf.same.trans sm) (rv.mono (fro _))
  have nd:=JE.nd;rw[e]at nd;have Ke:b∉l++r':=(QY.mp ((RZ (l₁:=l) (a:=b) (l₂:=r')).nodup_iff.mp nd)).1;have hl:=JE.loc b KI;have sk:am (less HX.heap (ms₀++as)) (less s'.heap (ms₀++as)):=λa o qs z=>by rw[ab]at z ⊢;exact⟨z.1,kp a o (λy=>z.1 (Qy _ (y▸KI))) z.2⟩
  refine⟨⟨m,?_,up s'.heap Mg sk (λa ha o e=>kp a o (λy=>Ke (y▸ha)) e) (L8.keep (fro _) λU e=>e)⟩,JE.nd,JE.new,JE.old,JE.loc⟩;refine ay F.ns λml L7 Lc=>?_;refine ay mr.there λob Pw JM=>?_;refine⟨⟨ml,?_,Lc⟩,λy cl hk hc=>?_,F.has,F.apart,F.off,λa o Uv=>kp a o (λy=>?_) (F.keep a o Uv),F.above,F.Z1⟩
  ·exact jy L7 λo es ep ho JM rest=>⟨o,es,ep,kp _ _ (λy=>hl.1 y.symm) ho,JM,rest⟩
  ·refine ay (F.cell y cl hk hc) λo ho MV=>?_
   refine⟨o,kp _ _ (λz=>?_) ho,MV⟩;rw[z,Pw]at ho;obtain rfl:=QG ho;rcases JM with⟨v,n,h⟩|⟨v,n,h⟩<;>rw[MV]at h<;>contradiction
  ·rw[y,JE.new _ KI]at Uv;exact nS Uv
structure FY(T:a6)(C f:Addr):Prop where
 del:∀(w:World)(Hy:Heap),T.Tp w Hy->∀(A:Around)(s:Shared)(x d:Addr)(od:Obj)(k:Value)(Q:Unit->Shared->Prop)(E:Ω),(∀b o,Hy.get? b=some o->s.heap.get? b=some o)->
  s.heap.get? x=some (instObj C d)->s.heap.get? d=some od->wpAny (model P0 w) A (call (.ref f) [.ref x,k]) (λU=>Q ()) E s->wpAny (model P0 w) A (delItem (.ref x) k) Q E s
theorem A8(i:Nat){C f b:Addr}(hf:FH T n f [] [.inst C b,d] [] b ob Mg r)(hD:FY T C f)(ho:Ev T c O o (.inst C b))(he:Ev T c O e d)(hx:c.names[i]? = some x)(hd:O[i]? = some (.mu b ob))(hn:n<=c.n)(hp:P .next (O.set i (.mu b Mg))):W1 T c O (.Delete [.Subscript o e p] p') P:=by
 constructor;intros;refine wpAny_Delete (wpAny_deleteEach_cons (wpAny_delete_Subscript (ho.run ok tp R JE λov HX Uf rv=>he.run ok tp R (JE.grow Uf.keep) λiv Ug Uh ri=>?_)));have rv:=rv.mono (ai (ms:=ms₀++as) Uh.keep);obtain⟨y,b',rfl,d',od,i1,i2,i3,i4⟩:=rv.isInst (.inl ⟨b,rfl⟩);refine b9.el ((JE.grow (Uf.trans Uh).keep).ex) λm F S=>?_;exact hD.del w Hy tp A Ug y d' od iv _ E F.keep (ab.mp i1).2 (ab.mp i2).2 (Cs (n:=n) (kn:=[]) (kds:=[]) (kvs:=[]) (vs:=[.ref y,iv]) i hf tp R JE (Uf.trans Uh) hx hd hn (.cons rv (.cons ri .nil)) .nil λv s' JY sm U=>wpAny_deleteEach_nil (q .next .next _ as s' hp JY sm trivial))
structure FE(T:a6)(C fI:Addr):Prop where
 make:∀(w:World)(Hy:Heap),T.Tp w Hy->∀(A:Around)(s:Shared)(v:Value)(Rr:Result->Shared->Prop),(∀b o,Hy.get? b=some o->s.heap.get? b=some o)->
  codeAny (model P0 w) (A.under (.builtin "type.__call__" ⟨[.ref C,v],[]⟩)) (.call (.ref fI) ⟨[.ref (s.heap.objs.size+1),v],[]⟩) (InitBack (s.heap.objs.size+1) Rr) { s with heap:=(s.heap.push bG).push (instObj C s.heap.objs.size) }->codeAny (model P0 w) A (.call (.ref C) ⟨[v],[]⟩) Rr s
 set:∀(w:World)(Hy:Heap),T.Tp w Hy->∀(A:Around)(s:Shared)(x d:Addr)(v:Value)(Q:Unit->Shared->Prop)(E:Ω),(∀b o,Hy.get? b=some o->s.heap.get? b=some o)->s.heap.get? x=some (instObj C d)->s.heap.get? d=some bG->
  (∀h' od tk,Heap.SameBut d s.heap h'->h'.get? d=some od->lookIn "_headers" od=some (some v)->(∀y:Str,y≠"_headers"->lookIn y od=some none)->Q () { s with heap:=h',toks:=tk })->wpAny (model P0 w) A (setAttr (.ref x) "_headers" v) Q E s
 keeper:∀(w:World)(Hy:Heap),T.Tp w Hy->∃k,(k=Keeper.frame\/k=Keeper.machine\/k=Keeper.boundFrame)/\Looks (model P0 w) Hy (keeperOf (.ref C)) k
 init:n9 T fI (mS "__init__") (mB "__init__") [] ["self","headers"] [] 2
 name:∀(w:World)(Hy:Heap),T.Tp w Hy->T.mg w "Headers" = some (.ref C)
 list:Bl T "list" (.type "list")
 typ:Bl T "type" (.type "type")
def iS(i:Nat):Stmt:=((mB "__init__")[i]?).getD (.Pass ⟨0,0,0,0⟩)
theorem B0:mB "__init__" = [iS 0,iS 1,iS 2,iS 3]:=by kernel_rfl
abbrev yj:Cx:=⟨4,mS "__init__",([("self" : Str),"headers"]:List Str)++([("k" : Str),"v"]:List Str),[]⟩
theorem j5{t:Str}{tn:String}(hT:Bl T "type" (.type "type"))(ht:Bl T t (.type tn))(h:Ev T c O e (.ref a))(hD:∀w h,T.Tp w h->h.get? a=some (aQ "list" vs n))(hk:c.sc.names.lookup ("type" : Str)=some .globalImplicit)(XW:c.sc.names.lookup t=some .globalImplicit)(MZ:(t==("__debug__" : Str))=false)(he:∀ZV,eval (.Call (.Name "type" p') [e] [] p) ZV=(do callWith p (<-eval (.Name "type" p') ZV) [] (backTo p (starEach [e] ZV)) (backToKw p (keywordEach [] ZV))))(JW:Ω1 e)(J0:Ω3 p e)(hm:behindInMarks .IsNot (.Name t p2)=false):Tr T c O (.Compare (.Call (.Name "type" p') [e] [] p) [.IsNot] [.Name t p2] p3) (!(Value.type "list" == Value.type tn)):=by
 constructor;intros;refine T0 (d7 hT rfl hk dk he JW J0 ok tp JE (h.run ok tp R JE λv HX Uf rv=>?_)) hm;obtain⟨_,rfl⟩:=rv.inv;refine b9.el ((JE.grow Uf.keep).ex) λm F S=>?_;exact call_type_of (Tx := "list") ⟨_,F.keep _ _ (hD w Hy tp),rfl⟩ dk (pV ht XW MZ ok tp (JE.grow Uf.keep) (wpAny_isNot_plain rfl (SH (q _ Uf))))
variable{T:a6}{C fI:Addr}{a:je}
theorem aZ.make{C:Addr}{vals:List Value}(R:aZ (n+1) A):aZ n (A.under (.builtin "type.__call__" ⟨.ref C::vals,[]⟩)):=
 ⟨R.handled,by have:=R.depth;show A.depth+1+n<_;exact z7 this,by have:=R.units;show A.units+1+_+_<_;lia⟩
noncomputable abbrev zy(x b:Addr):St:=[.val (.ref x),.val (.ref b),.no,.no]
abbrev TB(T:a6)(b:Addr)(vs:List Value)(n:Nat):a6:=T.plus (λh=>h.get? b=some (aQ "list" vs n)) (λh h' e k=>k _ _ e)
theorem Jo{T:a6}(x b:Addr):W1 T yj (zy x b) (iS 0) (λfl Wj=>fl=.next/\Wj=zy x b):=
 ak 1 (fx (b:=true) (d:=.ref b) (d':=.list []) (aE (aa 1) fB dw) (λU=>aa 1) (λe=>by exact fT e)) rfl rfl ⟨rfl,rfl⟩
theorem Jp(hT:Bl T "type" (.type "type"))(hL:Bl T "list" (.type "list"))(x b:Addr)(vs:List Value)(n:Nat):W1 (TB T b vs n) yj (zy x b) (iS 1) (λfl Wj=>fl=.next/\Wj=zy x b):=
 bM (j5 hT.plus hL.plus (aa 1) (λw h tp=>tp.2) (Z 1) (Z 1) rfl (Z 2) (Z 2) (Z 2) rfl) (λe=>absurd e dk) (λU=>aL ⟨rfl,rfl⟩)
def pK(p:Str×Str):Prop:=pD p.1/\FS p.2
theorem zz(H:Hd T a)(hi:sH a.C sf){l:D}(hP:∀Wj,P .next Wj):∀(hs:List (Str×Str))(o2 o3:Slot),(∀p∈hs,pK p)->o2.ZW=false->o3.ZW=false->jf T yj (Gy (jc (rM (iS 3)) 0)) (rM (jc (rM (iS 3)) 0)) P (hs.map bp) [.val sf,.val l,o2,o3]:=by
 intro X_;induction X_ with
 |nil=>intro _ _ _ _ _;exact hP _
 |cons p hs IH=>intro o2 o3 hr h2 h3;have hp:=hr p (.head _);refine⟨_,cz (an (ae 2 rfl rfl h2) (an (ae 3 rfl rfl h3) bg)),?_⟩;refine ac (iR (yZ (gf (conv H _ true p.1 hp.1) (aa 0) hi rfl H.mC (.cons (ah (aa 2) ad) (Z 2)) (gg cR cp) (Z 8) dk)) (λU ok=>gk ok) (Z 2) ?_);exact ac (iR (yZ (gf (conv H _ false p.2 hp.2) (aa 0) hi rfl H.mC (.cons (ah (aa 3) ad) (Z 2)) (gg cR cp) (Z 8) dk)) (λU ok=>gk ok) (Z 2) (aL (IH _ _ (λq hq=>hr q (.tail _ hq)) rfl rfl)))
theorem Jt(H:Hd T a){es:List D}(hs:List (Str×Str))(hr:∀p∈hs,pK p):W1 T yj [.val (.hdr a.C es),.val (.list (hs.map bp)),.no,.no] (iS 3) (λfl U=>fl=.next):=
 bM (dU cR (Z 5)) (λU=>ac (eA (bb (aa 1) rfl) (zz H (.inr ⟨_,rfl⟩) (λU=>aL rfl) hs .no .no hr rfl rfl) (Z 5))) (λe=>by exact fT e)
theorem Jq{ZV:Env}{ms₀ as:List Addr}{Q:Flow->Shared->Prop}{x a:Addr}(ok:aD yj ZV)(tp:T.Tp w Hy)(R:aZ yj.n A)(JE:aC w yj.wr ZV yj.names Hy ms₀ as (zy x a) s.heap)(q:∀s',ao s s'->wpAny (model P0 w) A (setAttr (.ref x) "_headers" (.ref a)) (λU=>Q .next) E s'):wpAny (model P0 w) A (exec (iS 2) ZV) Q E s:=by
 refine plainObj_wpAny_Assign_Attribute (Ev.run (T:=T) (c:=yj) (vK (d:=.ref a) 1 rfl rfl (Z 1) rfl rfl) ok tp R JE λv HX Uf rv=>?_);obtain⟨_,rfl⟩:=rv.inv;refine Ev.run (T:=T) (c:=yj) (aa 0) ok tp R (JE.grow Uf.keep) λv Ug Uh rv=>?_;obtain⟨_,rfl⟩:=rv.inv;exact q _ (Uf.trans Uh)
theorem CH{ZV:Env}{B h h':Heap}{ms as:List Addr}{wr names:List Str}{d:Addr}(JE:aC w wr ZV names B ms as O h)(hd:h.get? d=some bG)(hB:B.get? d=some bG)(hs:Heap.SameBut d h h')(hm:d∉ms):
  aC w wr ZV names (hideAll B [d]) ms as O h':=by
 refine b9.el JE.ex λm F S=>?_;refine ay F.ns λml hn hl=>?_;have YK:∀a,B.get? a=none->(hideAll B [d]).get? a=none:=λa e=>by
  rcases q:(hideAll B [d]).get? a with _|o
  ·rfl
  ·have:=TH _ q;rw[e]at this;exact nS this
 have sk:am (less h (ms++as)) (less h' (ms++as)):=λa o qs e=>by rw[ab]at e ⊢;refine⟨e.1,(hs.2 a λz=>?_).trans e.2⟩;have e2:=e.2;rw[z,hd]at e2;obtain rfl:=QG e2;revert qs;decide
 refine⟨⟨m,⟨⟨ml,hn.at' λo e=>(hs.2 _ λz=>?_).trans e,hl⟩,λy cl hk hc=>?_,F.has,F.apart,F.off,λb o e=>(hs.2 b λz=>?_).trans (F.keep b o (TH _ e)),YK _ F.above,λx hx c hc=>YK _ (F.Z1 x hx c hc)⟩,ar.off sk (λa ha o e=>(hs.2 a λz=>?_).trans e) (Z 5) S⟩,JE.nd,λa ha=>YK _ (JE.new a ha),λa ha=>?_,JE.loc⟩
 ·have:=F.above;rw[z,hB]at this;exact sN this
 ·refine ay (F.cell y cl hk hc) λo ho MV=>?_
  refine⟨o,(hs.2 _ λz=>?_).trans ho,MV⟩;rw[z,hd]at ho;obtain rfl:=QG ho;contradiction
 ·rw[z,Sm _ (QB.mpr rfl)]at e;exact nS e
 ·have:=JE.new a ha;rw[z,hB]at this;exact sN this
 ·exact xE (JE.old a ha) λo e=>⟨o,RJ _ e λz=>hm (QB.mp z▸ha)⟩
end
section

variable{T:a6}{C fI:Addr}{a:je}
theorem Ad(Hh:Hd T a)(H:FE T a.C fI)(tp:T.Tp w Hy){b:Addr}{hs:List (Str×Str)}(keep:∀b o,Hy.get? b=some o->s.heap.get? b=some o)(R:aZ 6 A)(old:∀a∈ms,∃o,s.heap.get? a=some o)(hr:∀p∈hs,pK p)(X4:b∉ms)(Xj:aX (less s.heap ms) (hs.map bp) ws)(hb:s.heap.get? b=some (aQ "list" ws n))(q:∀x s',ao s s'->s.heap.get? x=none->bO (less s'.heap ms) x a.C b->Q (.ref x) s'):wpAny (model P0 w) A (call (.ref a.C) [.ref b]) Q E s:=by
 refine wpAny_call (H.make w Hy tp A s _ _ keep ?_);refine ay (H.init.at_ w Hy tp) λfd FA hbd=>?_;have kp:∀b o,s.heap.get? b=some o->((s.heap.push bG).push (instObj a.C s.heap.objs.size)).get? b=some o:=λb o e=>QF _ (QF _ e);have k0:∀b o,Hy.get? b=some o->((s.heap.push bG).push (instObj a.C s.heap.objs.size)).get? b=some o:=λb o e=>kp _ _ (keep _ _ e);have PZ:s.heap.get? s.heap.objs.size=none:=aK (QO _);have Xy:s.heap.get? (s.heap.objs.size+1)=none:=aK (SF _);have Xm:((s.heap.push bG).push (instObj a.C s.heap.objs.size)).get? s.heap.objs.size=some bG:=QF _ (Q2 _ rfl);have XH:((s.heap.push bG).push (instObj a.C s.heap.objs.size)).get? (s.heap.objs.size+1)=some (instObj a.C s.heap.objs.size):=by
  have:=Q2 (s.heap.push bG) (o:=instObj a.C s.heap.objs.size) rfl
  rwa [Rq]at this
 have XI:∀a∈ms,a≠s.heap.objs.size/\a≠s.heap.objs.size+1:=λa ha=>by refine xE (old a ha) λo e=>?_;exact⟨λz=>(by rw[z,PZ]at e;exact nS e),λz=>(by rw[z,Xy]at e;exact nS e)⟩
 have MZ:b≠s.heap.objs.size:=λz=>by rw[z,PZ]at hb;exact nS hb
 refine mM (T:=TB T b ws n) (n:=4) (X:=λU=>True) (gs:=[]) (ms:=ms) (ds:=[.ref (s.heap.objs.size+1),.ref b]) (ps:=[("self" : Str),"headers"]) (rest:=[("k" : Str),"v"]) (wr:=[]) (FA.keeps k0) ((T.nolimit w Hy tp).keeps k0) R.make rfl
  (λQ' E' h=>hbd [.ref (s.heap.objs.size+1),.ref b] [] { s with heap:=(s.heap.push bG).push (instObj a.C s.heap.objs.size) } rfl rfl k0 _ _ _ _ (h _ _ (ao.refl _) (.cons (.ref _) (.cons (.ref _) .nil)) trivial)) Rs nofun (λa ha=>⟨nofun,by refine xE (old a ha) λo e=>?_;exact⟨o,kp _ _ e⟩⟩) ⟨T.keeps _ _ _ tp k0,kp _ _ hb⟩
  dk (Z 1) (Z 1) (Z 1) dk nofun dk nofun dk λHX Ug ZV he Uf U Uh ok Kv JE=>?_
 generalize s.heap.objs.size=d at Xm XH PZ Xy XI Uf JE kp k0 MZ ⊢;have RR:=(R.make (C:=a.C) (vals:=[.ref b])).deeper (ZV:=ZV);have Lf:=Uf.keep _ _ Xm;have Zv:=Uf.keep _ _ XH;have aS:∀b o,s.heap.get? b=some o->HX.heap.get? b=some o:=λb o e=>Uf.keep _ _ (kp _ _ e);rw[B0];refine Tm ((Jo (T:=TB T b ws n) (d+1) b).run (Hy:=HX.heap) (ms₀:=ms) (as:=[]) ok Kv RR JE λfl f σ1 Zb Ui ⟨K4,hσ⟩ Uo Ut fr=>?_);subst K4 hσ;obtain rfl:=iB fr;refine Tm ((Jp H.typ H.list (d+1) b ws n).run (Hy:=HX.heap) (ms₀:=ms) (as:=Zb) ok Kv RR Uo λfl f σ1 Xx Un ⟨K4,hσ⟩ UH U0 fr=>?_);subst K4 hσ;obtain rfl:=iB fr;refine Tm (Jq (T:=TB T b ws n) ok Kv RR UH λUE Vr=>?_);have UL:=UH.grow Vr.keep;refine b9.el UL.ex λWc Vi V1=>?_;have Zw:=Vi.keep _ _ Lf;have hx5:=Vi.keep _ _ Zv;refine H.set w Hy tp _ UE _ d _ _ _ (λb o e=>Vi.keep _ _ (aS _ _ (keep _ _ e))) hx5 Zw λh' od tk MG Zc l1 l2=>?_;have PG:d∉ms:=λz=>(XI _ z).1 rfl;have UC:=CH UL Zw Lf MG PG;refine xA UC.under λKd up=>?_;have tpB:(TB T b ws n).Tp w (hideAll HX.heap [d]):=⟨T.keeps _ _ _ tp λb o e=>RJ _ (aS _ _ (keep _ _ e)) λz=>(by
  rw[QB.mp z]at e
  have:=keep _ _ e
  rw[PZ]at this;exact nS this),RJ _ (aS _ _ hb) λz=>MZ (QB.mp z)⟩
 have hdU:(under yj.wr ZV Xx h').get? d=some od:=by
  refine RJ _ Zc λz=>?_;rcases Qw.mp z with z|z
  ·have:=Vi.above;rw[<-z,Lf]at this;exact sN this
  ·have:=UH.new d z;rw[Lf]at this;exact sN this
 have Zx:(under yj.wr ZV Xx h').get? (d+1)=some (instObj a.C d):=up _ _ (RJ _ Zv λz=>absurd (QB.mp z) (Nat.succ_ne_self d));refine b9.el Kd.ex λmU FU SU=>?_;have YL:Xx=[]:=V1.2.2;subst YL;have YM:am (less s.heap ms) (less h' (ms++[])):=λc o qs z=>by
  rw[QN];refine xA (ab.mp z) λz1 z2=>?_;have zd:c≠d:=λy=>by rw[y,PZ]at z2;exact nS z2
  exact ab.mpr ⟨z1,(MG.2 c zd).trans (Vi.keep _ _ (aS _ _ z2))⟩
 have Zy:less h' (ms++[]) b=some (aQ "list" ws n):=YM b _ rfl (ab.mpr ⟨X4,hb⟩);have hiU:bO (less h' (ms++[])) (d+1) a.C b:=⟨d,od,ab.mpr ⟨λz=>(XI _ (by rwa [QN]at z)).2 rfl,TH _ Zx⟩,ab.mpr ⟨λz=>PG (by rwa [QN]at z),Zc⟩,l1,l2⟩;have SU1:=ar.reval (d:=.ref (d+1)) (d':=.hdr a.C (hs.map bp)) (i:=0) (λv K5=>by obtain rfl:=K5.inv;exact .hdr hiU Zy (Xj.mono YM)) rfl rfl SU;have SU2:=ar.reval (d:=.ref b) (d':=.list (hs.map bp)) (i:=1) (λv K5=>by obtain rfl:=K5.inv;exact .list Zy (Xj.mono YM)) rfl rfl SU1;refine Tm ((Jt (T:=TB T b ws n) Hh.plus hs hr).run (ms₀:=ms) (as:=[]) ok ((TB T b ws n).keeps _ _ _ tpB up) RR ⟨⟨mU,FU,SU2⟩,Kd.nd,Kd.new,Kd.old,Kd.loc⟩ λfl f σ1 as3 Ur K4 V2 VD fr=>?_);subst K4;obtain rfl:=iB fr;refine Ud ⟨rfl,?_⟩;refine b9.el V2.ex λWd VE We=>?_;refine q _ Ur ⟨λb o e=>VE.keep _ _ (up _ _ (RJ _ (aS _ _ e) λz=>?_)),?_,?_,?_⟩ Xy ⟨d,od,ab.mpr ⟨λz=>(XI _ z).2 rfl,VE.keep _ _ Zx⟩,ab.mpr ⟨PG,VE.keep _ _ hdU⟩,l1,l2⟩
 ·rw[QB.mp z,PZ]at e;exact nS e
 ·exact VD.gens.trans (Vr.gens.trans (U0.gens.trans (Ut.gens.trans (Uh.gens.trans Uf.gens))))
 ·exact VD.drawn.trans (Vr.drawn.trans (U0.drawn.trans (Ut.drawn.trans (Uh.drawn.trans Uf.drawn))))
 ·exact VD.os.trans (Vr.os.trans (U0.os.trans (Ut.os.trans (Uh.os.trans Uf.os))))
end
section

variable{T:a6}{a:je}{c:Cx}{O:St}{fI:Addr}
theorem zB{x C b:Addr}(hb:h.get? b=some (aQ "list" vs n))(hi:bO (less h ms) x C b):bO (less h (b::ms)) x C b:=by
 refine bO.el hi λd od i1 i2 i3 i4=>?_;refine xA (ab.mp i1) λn1 i1=>?_;refine xA (ab.mp i2) λn2 i2=>?_;refine⟨d,od,ab.mpr ⟨λz=>?_,i1⟩,ab.mpr ⟨λz=>?_,i2⟩,i3,i4⟩
 ·rcases Qw.mp z with z|z
  ·rw[z,hb]at i1;cases i1
  ·exact n1 z
 ·rcases Qw.mp z with z|z
  ·rw[z,hb]at i2;obtain rfl:=QG i2;contradiction
  ·exact n2 z
theorem w9(Hh:Hd T a)(H:FE T a.C fI){hs:List (Str×Str)}{ZV:Env}{ms₀ as:List Addr}(hk:c.sc.names.lookup ("Headers" : Str)=some .globalImplicit)(hn:6<=c.n)(hv:oI T c O e (.list (hs.map bp)))(hr:∀p∈hs,pK p)(he:∀ZV,eval (.Call (.Name "Headers" p') [e] [] p) ZV=(do callWith p (<-eval (.Name "Headers" p') ZV) [] (backTo p (starEach [e] ZV)) (backToKw p (keywordEach [] ZV))))(JW:Ω1 e)(ok:aD c ZV)(tp:T.Tp w Hy)(R:aZ c.n A)(JE:aC w c.wr ZV c.names Hy ms₀ as O s.heap)(q:∀x b s',ao s s'->s.heap.get? b=none->iU w (less s'.heap (b::(ms₀++as))) s'.heap b (.list (hs.map bp))->bO (less s'.heap (b::(ms₀++as))) x a.C b->Q (.ref x) s'):
  wpAny (model P0 w) A (eval (.Call (.Name "Headers" p') [e] [] p) ZV) Q E s:=by
 refine b9.el JE.ex λm F S=>?_;refine Call_ (Name_function_global (by rw[ok.scope];exact ok.kind) (by rw[ok.kindOf];exact hk) ?_ rfl) (he ZV);refine TG (env:=ZV) (by rw[ok.globals];exact(T.glob w Hy tp).keeps F.keep) (H.name w Hy tp) ?_;refine ay (H.keeper w Hy tp) λk hk L=>?_;have J0:((backTo p (starEach [e] ZV)).any (·.1)||(backToKw p (keywordEach [] ZV)).any (·.1.isNone))=false:=by rw[JW ZV];rfl
 refine callWith_of (P:=λh=>∀b o,Hy.get? b=some o->h.get? b=some o) J0 (λh kp=>⟨k,hk,L.keeps kp⟩) ?_;have JZ:wpAny (model P0 w) A (spliced (backTo p (starEach [e] ZV))) (λvs HX=>∃b,ao s HX/\vs=[.ref b]/\s.heap.get? b=none/\iU w (less HX.heap (b::(ms₀++as))) HX.heap b (.list (hs.map bp))) E s:=args_cons (hv.run ok tp R JE λb HX Uf PM mr=>args_nil ⟨b,Uf,rfl,PM,mr⟩) (JW ZV);rw[JW ZV]at JZ ⊢;refine evalArgs_plain (Rt JZ (λvs HX ⟨b,Uf,Z4,PM,mr⟩=>?_) λU U x=>x);subst Z4;refine nY.el (id mr) λws n hb Xw=>?_;have Uk:=JE.grow Uf.keep;have X4:b∉ms₀++as:=λz=>by refine xE (JE.have b z) λo e=>?_;rw[PM]at e;exact nS e
 refine⟨λb o z=>Uf.keep _ _ (F.keep _ _ z),?_⟩;exact Ad Hh H tp (λb o z=>Uf.keep _ _ (F.keep _ _ z)) (R.less hn) Uk.have hr X4 (Xw.mono (aT λU z=>QA _ z)) hb λx s' a' Xy hi=>q x b s' (Uf.trans a') PM (mr.keep (ai a'.keep) λo e=>a'.keep _ _ e) (zB (a'.keep _ _ hb) hi)
theorem yY(Hh:Hd T a)(H:FE T a.C fI){hs:List (Str×Str)}{K:List Nv->Prop}(hk:c.sc.names.lookup ("Headers" : Str)=some .globalImplicit)(hn:6<=c.n)(hv:oI T c O e (.list (hs.map bp)))(hr:∀p∈hs,pK p)(he:∀ZV,eval (.Call (.Name "Headers" p') [e] [] p) ZV=(do callWith p (<-eval (.Name "Headers" p') ZV) [] (backTo p (starEach [e] ZV)) (backToKw p (keywordEach [] ZV))))(JW:Ω1 e)(h':∀b,yl T c O es (λos=>K (.val (.inst a.C b)::.gh b (.list (hs.map bp))::os))):yl T c O (.Call (.Name "Headers" p') [e] [] p::es) K:=by
 constructor;intros;refine args_cons (w9 Hh H hk hn hv hr he JW ok tp R JE λx D Ug Uh M3 mr hi=>?_) rfl;refine ay mr.there λMg ha JM=>?_;have JR:D∉ZV.locals::((c.wr.filterMap λx=>ZV.cells.lookup x)++as):=λz=>by
  refine b9.el JE.ex λm F S=>?_;have hl:=dY F M3;rcases Qw.mp z with z|z
  ·exact hl.2.1 z
  ·rcases Qz.mp z with z|z
   ·exact ay (Rn.mp z) λx hx hc=>hl.2.2 x _ ((ok.kindOf x).trans (ok.wrc x hx)) hc rfl
   ·refine xE (JE.have _ (Qy _ z)) λo e=>?_
    rw[M3]at e;exact nS e
 refine xA (JE.hideOne ok Uh M3 ⟨_,ha⟩ (λb e=>e▸JR)) λUo up=>?_;have W0:∀(Ui:Shared)(new:List Addr),ao Ug Ui->(∀a∈new,Ug.heap.get? a=none)->am (less Ug.heap (D::(ms₀++as))) (less Ui.heap (ms₀++as++(D::new))):=λUi new Uj fr b o qs z=>by
  rw[ab]at z ⊢;refine⟨λy=>?_,Uj.keep _ _ z.2⟩;rcases Qz.mp y with y|y
  ·exact z.1 (QA _ y)
  ·rcases Qw.mp y with y|y
   ·exact z.1 (y▸QH)
   ·rw[fr b y]at z;cases z.2
 refine(h' D).run (ms₀:=D::ms₀) ok (T.keeps _ _ _ tp up) R Uo (λvs Ui new os hk Uj nd fr sv=>q (.ref x::vs) Ui (D::new) _ hk (Uh.trans Uj) (QY.mpr ⟨λz=>?_,nd⟩) (λa ha'=>?_) ⟨.inst (hi.mono (W0 Ui new Uj fr)),⟨rfl,mr.keep (W0 Ui new Uj fr) (Uj.keep _),SV.keep (aT λb hb=>?_) (λU U U e=>e) sv⟩⟩) pos
 ·rw[fr D z]at ha;exact nS ha
 ·rcases Qw.mp ha' with e|ha'
  ·subst e;exact M3
  ·rcases q:s.heap.get? a with _|o
   ·rfl
   ·have:=Uh.keep _ _ q;rw[fr a ha']at this;exact nS this
 ·rcases Qz.mp hb with y|y
  ·exact QM _ (QA _ y)
  ·rcases Qw.mp y with y|y
   ·rw[y];exact QM _ QH
   ·exact Qy _ y
end
theorem uJ{mask finger moves:Nat}{led plain:Bool}{hs:Array Int}{t:SetTable}{o:Array Nat}(h:SetTable.laid mask finger moves led plain hs=some (t,o)):t.plain=plain:=by unfold SetTable.laid at h;simp only[bind,Option.bind_eq_some_iff,pure,Option.some.injEq,T3]at h;refine ay h λU U h=>?_;refine xA h λzE U=>?_;subst zE;rfl
set_option tactic.hygienic true in
theorem tu{t:SetTable}{es:Array (Int×Value)}(h:t.plain=false):(relayAll t es n).2.1.plain=false:=by
 unfold relayAll;split
 ·rename_i t' o e
  dsimp only;split
  ·exact(uJ e).trans h
  ·rfl
 ·rfl
inductive ff(w:World)(h:Heap)(a:Addr)(ks:List Str):Prop
 |mk (o:Obj) (es:Array (Int×Value)) (ep:Nat) (t:SetTable) (r:h.get? a=some o/\o.ExactSet/\o.data=.set es ep t/\ElemsOf (PySem.strKind P0 w) es.toList/\es.toList.map (λe=>strOf e.2)=ks/\t.fits es.size=true/\(ks≠[]->t.plain=false)):ff w h a ks
theorem ff.el{P:Prop}(x:ff w h a ks)(k:∀o es ep t,h.get? a=some o->o.ExactSet->o.data=.set es ep t->ElemsOf (PySem.strKind P0 w) es.toList->es.toList.map (λe=>strOf e.2)=ks->t.fits es.size=true->(ks≠[]->t.plain=false)->P):P:=by obtain⟨o,es,ep,t,h1,h2,h3,h4,h5,h6,h7⟩:=x;exact k o es ep t h1 h2 h3 h4 h5 h6 h7
theorem ff.keep(x:ff w h a ks)(k:∀o,h.get? a=some o->h'.get? a=some o):ff w h' a ks:=by obtain⟨o,es,ep,t,h1,h2⟩:=x;exact⟨o,es,ep,t,k _ h1,h2⟩
theorem mX{k:Str}(h:(PySem.strKind P0 w).is k v=true):strOf v=k/\∃tk,v=.str k tk:=by refine xE (Value.isStrOf_shape h) λtk U=>?_;subst U;exact⟨rfl,tk,rfl⟩
theorem sO{l:List (Int×Value)}(h:ElemsOf (PySem.strKind P0 w) l)(y:Str):(∃e∈l,(PySem.strKind P0 w).is y e.2=true)↔y∈l.map (λe=>strOf e.2):=by
 rw[QR];constructor
 ·rintro⟨e,he,hk⟩
  exact⟨e,he,(mX hk).1⟩
 ·rintro⟨e,he,rfl⟩
  refine xE (h.keys e he) λk hk=>?_;exact⟨e,he,by rw[(mX hk).1];exact hk⟩
theorem pO{o:Obj}{es:Array (Int×Value)}{t:SetTable}{Mt:Array (Int×Value)}{t':SetTable}{Q:Unit->Shared->Prop}(ho:s.heap.get? a=some o)(Kz:o.ExactSet)(hd:o.data=.set es ep t)(Mk:ElemsOf (PySem.strKind P0 w) Mt.toList)(Mm:Mt.toList.map (λe=>strOf e.2)=ks)(hf:t'.fits Mt.size=true)(J0:t'.plain=false)(hb:Mt.size<scanBound)(q:∀h' o',Heap.SameBut a s.heap h'->h'.get? a=some o'->o'.ExactSet->o'.data=.set Mt (ep+1) t'->ff w h' a ks->Q () { s with heap:=h' }):wpAny (model P0 w) A (storeSet a Mt t') Q E s:=by
 refine wpAny_storeSet_of ho hd ?_ (fits_of_scanBound hb);have hg:(s.heap.update a (Obj.putSet Mt t')).get? a=some { o with data:=.set Mt (ep+1) t' }:=by
  have:=Rk (Obj.putSet Mt t') ho (by rw[putSet_of Mt t' hd];rfl)
  rw[putSet_of Mt t' hd]at this;exact this
 exact q _ _ (Rz ..) hg Kz rfl ⟨_,Mt,ep+1,t',hg,Kz,rfl,Mk,Mm,hf,λU=>J0⟩
theorem rF{g:Bool->Sem Unit}(hg:∀(b:Bool)(HX:Shared)(Q':Unit->Shared->Prop),Q' () HX->wpAny (model P0 w) A (g b) Q' E HX){o:Obj}{es:Array (Int×Value)}{t:SetTable}(ho:s.heap.get? a=some o)(Kz:o.ExactSet)(hd:o.data=.set es ep t){KU:Array (Int×Value)}{t2:SetTable}{y:Str}(Mk:ElemsOf (PySem.strKind P0 w) KU.toList)(Mm:(KU.toList.map (λe=>strOf e.2)).Perm (y::ks))(hb:KU.size<scanBound)(hf:t2.fits KU.size=true)(J0:t2.plain=false){Wv:Bool}{R:Option Bool->Shared->Prop}(q:∀h' KP,Heap.SameBut a s.heap h'->ff w h' a KP->KP.Perm (y::ks)->R (some true) { s with heap:=h' }):
  wpAny (model P0 w) A (do
    storeSet a KU t2
    if(!Wv&&t2.tooFull)=true then do
      g (relayAll t2 KU (SetTable.grown KU.size)).2.2
      storeSet a (relayAll t2 KU (SetTable.grown KU.size)).1 (relayAll t2 KU (SetTable.grown KU.size)).2.1
      pure (some true)
     else pure (some true)) R E s:=by
 refine GA (pO ho Kz hd Mk rfl hf J0 hb λh1 o1 O7 MW Yj Lf Yk=>?_);split
 ·have hp:=relayAll_perm t2 KU (SetTable.grown KU.size)
  have JR:=relayAll_fits t2 KU (SetTable.grown KU.size);have Zz:=tu (es:=KU) (n:=SetTable.grown KU.size) J0;generalize relayAll t2 KU (SetTable.grown KU.size)=Rl at hp JR Zz ⊢;obtain⟨es2,t3,gave⟩:=Rl;have hsz:es2.size=KU.size:=by rw[<-SG,hp.length_eq,SG]
  refine GA (hg _ _ _ (GA (pO (s:={ s with heap:=h1 }) MW Yj Lf (Mk.perm hp) rfl JR Zz (by rw[hsz];exact hb) λh2 o2 Yl Py hex2 PO hS2=>QD ?_)));exact q h2 _ (O7.trans Yl) hS2 ((hp.map _).trans Mm)
 ·exact QD (q h1 _ O7 Yk Mm)
theorem add_str{y:Str}{tk:Tok}{Q:Bool->Shared->Prop}(hS:ff w s.heap a ks)(O3:ks.length+1<scanBound)(q:∀b h' KP,Heap.SameBut a s.heap h'->ff w h' a KP->(y∈ks/\KP=ks\/y∉ks/\KP.Perm (y::ks))->Q b { s with heap:=h' }):wpAny (model P0 w) A (setAddHashed a (.str y tk) ((PySem.strKind P0 w).hash y)) Q E s:=by
 refine ff.el (id hS) λo es ep t ho Kz hd Mk Mm hf J0=>?_;have hsz:es.size=ks.length:=by rw[<-Mm,Qs,SG]
 have W2:(PySem.strKind P0 w).is y (.str y tk)=true:=strKind_is _ _ _ _;refine RL (GA (SZ ho hd hf ?_));dsimp only;rw[byScan_of (x:=.str y tk) rfl (by rw[hsz];exact Nat.lt_of_succ_lt O3) Mk,Rb rfl];refine GA (GA (wpAny_rule (GA (wpAny_setScan_of W2 ho hd hf Mk ?_))));cases hr:List.findIdx? (λe=>(PySem.strKind P0 w).is y e.2) es.toList with
 |some j=>
  obtain⟨hj,hpj,_⟩:=List.findIdx?_eq_some_iff_getElem.mp hr;refine QD (QD ?_)
  have:=q false s.heap ks (Heap.SameBut.refl a s.heap) hS (.inl ⟨by rw[<-Mm];exact(sO Mk y).mp ⟨_,RH hj,hpj⟩,rfl⟩)
  exact this
 |none=>
  have hn:y∉ks:=by
   rw[<-Mm];intro z;refine ay ((sO Mk y).mpr z) λe he hp=>?_
   have:=List.findIdx?_eq_none_iff.mp hr e he
   rw[hp]at this;exact fT this
  have ZA:∀(b:Bool){HX:Shared}{Q':Unit->Shared->Prop},Q' () HX->wpAny (model P0 w) A (match b with|true=>rule "set.scan.the-table-gave-way" |false=>pure ()) Q' E HX:=
   λb HX Q' hq=>by cases b<;>first|exact QD hq|exact wpAny_rule hq
  have JP:=layNew_perm t es ((PySem.strKind P0 w).hash y) (.str y tk);have MR:=layNew_fits t es ((PySem.strKind P0 w).hash y) (.str y tk);generalize layNew t es ((PySem.strKind P0 w).hash y) (.str y tk)=L at JP MR ⊢;obtain⟨KU,t1,Wv,gave⟩:=L;rw[Array.toList_push]at JP;have W3:ElemsOf (PySem.strKind P0 w) KU.toList:=(Mk.push W2 rfl).perm JP;have PH:(KU.toList.map (λe=>strOf e.2)).Perm (y::ks):=by refine(JP.map _).trans ?_;rw[QU,Mm];exact List.perm_append_singleton _ _
  have W4:KU.size<scanBound:=by
   have:=PH.length_eq
   rw[Qs,SG,QK]at this;exact lt_of_eq_of_lt this O3
  refine GA (ZA _ ?_);have Ks:∀h' KP,Heap.SameBut a s.heap h'->ff w h' a KP->KP.Perm (y::ks)->Q true { s with heap:=h' }:=λh' KP sb KV hp=>q true h' KP sb KV (.inr ⟨hn,hp⟩);have W5:∀(b:Bool)(HX:Shared)(Q':Unit->Shared->Prop),Q' () HX->wpAny (model P0 w) A (match b with|true=>rule "set.scan.the-table-gave-way" |false=>pure ()) Q' E HX:=λb HX Q' hq=>ZA b hq;cases WM:t1.plain with
  |true=>simp only[↓reduceIte];refine GA ?_;rw[hashByValue_scannable 8 (x:=.str y tk) rfl];exact QD (rF W5 ho Kz hd W3 PH W4 (SetTable.fits_plain_off MR) rfl λh' KP sb KV hp=>QD (Ks h' KP sb KV hp))
  |false=>exact GA (QD (rF W5 ho Kz hd W3 PH W4 MR WM λh' KP sb KV hp=>QD (Ks h' KP sb KV hp)))
noncomputable abbrev oC(led:Bool):Obj:={ cls:=.type "set",dict:=none,data:=.set #[] 0 (.fresh 0 0 led) }
section
variable{w:World}{A:Around}{E:Ω}{s:Shared}{R:Result->Shared->Prop}
theorem CS(h:StrsAre vs ss)(e:vs[i]? = some v):∃x t,v=.str x t/\ss[i]? = some x:=by
 induction h generalizing i with
 |nil=>contradiction
 |cons x t _ ih=>
  rcases i with _|i
  ·obtain rfl:=QG e;exact⟨x,t,rfl,rfl⟩
  ·exact ih e
theorem xd{fp wr:List Addr}{G:Array GenState->Array GenState->Prop}{P:Nat->Value->Prop}{St:Nat->Shared->Prop}(W:WalksS P0 w A.in1 I fp wr G n P St)(S:Addr)(Ww:S∉fp)(ss:List Str)(hP:∀i v,P i v->∃x t,v=.str x t/\ss[i]? = some x)(hn:ss.length=n)(hb:n+1<scanBound):
  ∀(k i:Nat)(s:Shared)(ks:List Str),n-i=k->i<=n->St i s->ff w s.heap S ks->ks.Nodup->ks.length<=i->(∀y,y∈ks↔y∈ss.take i)->
   (∀s' KP,Moved (S::wr) G s s'->ff w s'.heap S KP->KP.Nodup->KP.length<=n->(∀y,y∈KP↔y∈ss)->R (.ok (.ret .none)) s')->
   codeAny (model P0 w) A (.builtin "set.update.loop" ⟨[.ref S,.ref I],[]⟩) R s:=by
 have ZB:S∉wr:=λh=>Ww (W.sub _ h);have MQ:∀b∈wr,b∈S::wr:=λb hb=>QA _ hb;intro k;induction k with
 |zero=>
  intro i s ks hk hi JW hS nd hl JN hR;obtain rfl:i=n:=by exact Iq hk hi
  refine Tc PyProof.Rows.F.entry_set_update_loop ?_;rw[Sw SX _];refine GA (W.done s _ _ JW λs' hm=>?_);exact QD (hR s' ks (hm.mono MQ) (hS.keep λo e=>hm.heap S _ ZB e) nd hl λy=>by rw[JN y,<-hn,Tj])
 |succ k ih=>
  intro i s ks hk hi JW hS nd hl JN hR;have J6:i<n:=by exact Nat.lt_of_sub_eq_succ hk
  refine Tc PyProof.Rows.F.entry_set_update_loop ?_;rw[Sw SX _];refine GA (W.item i s _ _ J6 JW λv s' hPv K1 hm=>?_);refine dE (hP i v hPv) λx t U hx=>?_;subst U;have KV:=hS.keep (h':=s'.heap) λo e=>hm.heap S _ ZB e;refine GA (RL ?_);refine RL (GA ((PySem.strKind P0 w).pyHash (k:=x) (strKind_is _ _ _ _) ?_));refine add_str (s:={ s' with toks:=s'.toks+1 }) KV (by lia) λb h' KP sb hSk hor=>?_;have take:ss.take (i+1)=ss.take i++[x]:=by rw[Sj,hx];rfl
  obtain⟨Ke,Lc,hmem'⟩:KP.Nodup/\KP.length<=i+1/\∀y,y∈KP↔y∈ss.take (i+1):=by
   rcases hor with⟨KI,rfl⟩|⟨hni,hp⟩
   ·refine⟨nd,by exact Nat.le_add_right_of_le hl,λy=>?_⟩
    rw[take,Qz,QB,JN y];exact⟨.inl,λz=>z.elim id λz=>by subst z;exact(JN _).mp KI⟩
   ·refine⟨hp.nodup_iff.mpr (QY.mpr ⟨hni,nd⟩),by rw[hp.length_eq,QK];exact ST hl 1,λy=>?_⟩
    rw[hp.mem_iff,take,Qz,QB,Qw,JN y,or_comm]
  refine QD ⟨plainId_quiet SX _,ih (i+1) _ KP (by exact AR hk) J6 (W.frame _ s' _ _ K1 (SF _) λb hb o e=>?_) hSk Ke Lc hmem' λKa Ym Yn h1 h2 h3 h4=>?_⟩
  ·rw[sb.2 b (λh:b=S=>Ww (by rw[<-h];exact hb))];exact e
  ·refine hR Ka Ym (Moved.trans W.gtrans ((hm.mono MQ).then_heap (SF _) λb o hb e=>?_) Yn) h1 h2 h3 h4
   rw[sb.2 b (λh:b=S=>hb (by rw[h];exact QH))];exact e
theorem u6(e:h.get? a=some (oC led)):ff w h a []:=
 ⟨_,#[],0,_,e,⟨rfl,rfl,rfl⟩,rfl,λe he=>by simp at he,rfl,by rfl,λz=>absurd rfl z⟩
theorem oj{l:Addr}(hh:A.handled=none)(hl:s.heap.get? l=some (aQ "list" vs n))(hi:StrsAre vs ss)(hb:ss.length+1<scanBound)(h:∀(h':Heap)(tk:Nat)(ks:List Str),ff w h' s.heap.objs.size ks->ks.Nodup->ks.length<=ss.length->(∀y,y∈ks↔y∈ss)->(∀b o,s.heap.get? b=some o->h'.get? b=some o)->Q (.ref s.heap.objs.size) { s with heap:=h',toks:=tk }):
  wpAny (model P0 w) A (call (.type "set") [.ref l]) Q E s:=by
 refine vu PySem.F.called_set.mro λc tl hmro=>?_;have ZC:=PySem.F.called_set.made;have MQ:=PySem.F.called_set.sub;refine wpAny_call (codeAny_of_tree ?_);refine QD ⟨Code.quiet_builtin _ dk,Tc PySem.F.entry_type_call ?_⟩;rw[Around.under_plain (weight_type_call_type "set" [.ref l] []) rfl];have h1:=PySem.F.called_set.notType;have h2:=PySem.F.called_set.canCreate;have hct:=PySem.F.typeCall_set_1 (.ref l);repeat (any_goals (first|assumption|wp_step))
 refine codeAny_mono (code_set_new_1 (.ref l) (E:=E) (Q₁:=λZd HX=>∃led:Bool,Zd=.ref s.heap.objs.size/\HX={ s with heap:=s.heap.push (oC led) }) λled=>⟨led,rfl,rfl⟩) λr HX hr=>?_;rcases r with e|fl
 ·exact hr
 ·cases fl with
  |ret Zd=>
   refine ay hr λled U Mp=>?_;subst U;subst Mp;have hS:(s.heap.push (oC led)).get? s.heap.objs.size=some (oC led):=Q2 _ rfl;have hT:Shared.TypeIs { s with heap:=s.heap.push (oC led) } (.ref s.heap.objs.size) "set":=⟨_,hS,rfl⟩;have hli:=PySem.F.called_set.init.lookup;have hbi:=PySem.F.called_set.init.bind (.ref s.heap.objs.size);repeat (any_goals (first|assumption|wp_step))
   refine codeAny_mono (codeAny_call_builtin (R:=wants (λr Ug=>r=.none/\∃h' tk ks,Ug={ s with heap:=h',toks:=tk }/\ff w h' s.heap.objs.size ks/\ks.Nodup/\ks.length<=ss.length/\(∀y,y∈ks↔y∈ss)/\(∀b o,s.heap.get? b=some o->h'.get? b=some o)) E) PySem.F.called_set.init.plain PySem.F.entry_set_init (check_set_init_1 hT ?_)) λVz Ug VF=>?_
   ·have PJ:(s.heap.push (oC led)).get? l=some (aQ "list" vs n):=QF _ hl
    have Mx:(s.heap.push (oC led)).IsList l vs.toArray:=⟨_,PJ,rfl,n,rfl⟩;have Pm:Shared.TypeIs { s with heap:=s.heap.push (oC led) } (.ref l) "list":=⟨_,PJ,rfl⟩;have hsls:=PySem.F.sub_list_set;have hslf:=PySem.F.sub_list_frozenset;have JO:(Value.type "list" == Value.type "dict")=false:=by decide
    unfold Builtin.«set.__init__» noKeywords Builtin.Frozenset.updateFrom;generalize hPI:pyIter=PI;wp_walk;subst hPI;refine wpAny_pyIter_list Mx ?_;refine GA (wpAny_runValue ?_);have XJ:l<s.heap.objs.size:=Rx hl;have hh3:A.in1.in1.in1.handled=none:=by simp[hh]
    have W6:l≠(s.heap.push (oC led)).objs.size:=by rw[Rq];exact RW (RN XJ)
    have Ww:s.heap.objs.size∉[(s.heap.push (oC led)).objs.size,l]:=by rw[Rq];simp only[Qw,QB,Q3,or_false,not_or];exact⟨RW (Rf _),TJ XJ⟩
    have JF:ss.length=vs.toArray.size:=by
     rw[QJ];clear XJ W6 Ww PJ Mx Pm hl h hb;induction hi with
     |nil=>rfl
     |cons x t _ ih=>simp[ih]
    refine xd ((Walks.list hh3 _ l W6 vs.toArray).toS) s.heap.objs.size Ww ss (λi v hv=>CS hi (by simpa using hv)) JF (by rw[<-JF];exact hb) (vs.toArray.size-0) 0 _ [] rfl (Rh _)
     ⟨⟨_,Q2 _ rfl,rfl,rfl⟩,(Mx.push _)⟩ (u6 (led:=led) (QF _ hS)) Rs (QO _) (λy=>by simp) λs' ks hm KV nd Mq JN=>?_
    obtain⟨h',g',d',tk',os'⟩:=s';have eg:g'=s.gens:=hm.gens;have ed:d'=s.drawn:=hm.drawn;have eo:os'=s.os:=hm.os;subst eg;subst ed;subst eo;refine QD ?_;refine QD ⟨rfl,h',tk',ks,rfl,KV,nd,by rw[JF];exact Mq,JN,λb o e=>?_⟩;have J6:=Rx e;exact hm.heap b o (by rw[Rq];simp only[Qw,QB,Q3,or_false,not_or];exact⟨RW J6,RW (RN J6)⟩) (QF _ (QF _ e))
   ·rcases Vz with e|V3
    ·exact VF
    ·cases V3 with
     |ret r=>
      obtain⟨rfl,h',tk,ks,rfl,KV,nd,Mq,JN,Ki⟩:=VF;repeat (any_goals (first|assumption|wp_step))
      exact h _ _ ks KV nd Mq JN Ki
     |_=>exact VF.elim
  |_=>exact hr.elim
end
theorem mH:entryFor table "set.__iter__" = some Builtin.«frozenset.__iter__»:=entryFor_alias (id' := "frozenset.__iter__") (Z 1) (by first|rfl|decide +kernel) dk (Z 1)
theorem nB:Manifest.owners.lookup (String.ofList ['r','o','t','a','r','e','t','i','_','t','e','s'].reverse)=some Manifest.sig_set_iterator:=by kernel_rfl
theorem aR:PySem.Slot "set_iterator" "__next__" "set_iterator.__next__":=
 PySem.Slot.of (owner := "set_iterator") (n := "__next__") (by rw[typeLookup_type,builtinLookup_eq_fast];kernel_rfl) dk dk dk
  (.inl dk) (by rw[isSubtype_type];kernel_rfl)
theorem cQ:entryFor table "set_iterator.__next__" = some Builtin.«set_iterator.__next__»:=entryFor_of_tree (Z 1)
theorem dq(a:Value):argsOk "set_iterator.__next__" ⟨[a],[]⟩:=by unfold argsOk;rw[signature?_of (id := "set_iterator.__next__") (n:=['_','_','t','x','e','n','_','_']) (o:=['r','o','t','a','r','e','t','i','_','t','e','s']) (Z 1) nB];kernel_rfl
theorem jm{α:Type}:∀(xs:List α)(k:Nat)(h:k<xs.length),(xs[k]::xs.eraseIdx k).Perm xs
 |x::xs,0,_=>.rfl
 |x::xs,k+1,h=>by rw[List.getElem_cons_succ,List.eraseIdx_cons_succ];exact(List.Perm.swap ..).trans ((jm xs k (Nat.lt_of_succ_lt_succ h)).cons x)
theorem ul{M:Model}{Xn:Source}{Q:Nat->Shared->Prop}(hn:n≠0)(q:∀k,k<n->Q k { s with drawn:=s.drawn.bump Xn }):wpAny M A (choose Xn n) Q E s:=by
 intro Γ p hΓ;unfold choose;rw[Sem.wp_choose];refine⟨hn,?_⟩
 have:=q (M.w.draws Xn (s.drawn.get Xn)%n) (Sl _ (Nat.pos_of_ne_zero hn))
 exact this
theorem r8{M:Model}{α:Type}:∀(n:Nat)(xs:List α)(s:Shared)(Q:List α->Shared->Prop),xs.length=n->(∀ys d,ys.Perm xs->d.other=s.drawn.other->Q ys { s with drawn:=d })->wpAny M A (drawOrder n xs) Q E s
 |0,xs,s,Q,hl,q=>by obtain rfl:=Ri.mp hl;exact QD (q [] s.drawn .nil rfl)
 |n+1,[],s,Q,hl,q=>by contradiction
 |n+1,x::xs,s,Q,hl,q=>by refine GA (ul (by simp) λk hk=>?_);rw[QE hk];refine GA (r8 n ((x::xs).eraseIdx k) _ _ (by rw[Ti hk,hl];rfl) λys d hp hd=>QD (q _ d ?_ hd));exact(hp.cons _).trans (jm _ _ hk)
def a8(h:Heap)(it a:Addr)(first:Value)(i n ep:Nat):Prop:=∃o,h.get? it=some o/\o.cls=.type "set_iterator"/\o.data=.fields #[first,.int i 0,.ref a,.int n 0,.int ep 0]
theorem xN{α:Type}(next:Nat->Nat):∀(n k:Nat)(xs:List α)(out:Array α),xs.length=n->((pickOrder.go next n k xs out).toList).Perm (xs++out.toList):=by
 intro X_;induction X_ with
 |zero=>intro k xs out h;obtain rfl:=Ri.mp h;exact .rfl
 |succ n IH=>
  intro k xs out h;have e:pickOrder.go next (n+1) k xs out=xs[next k%xs.length]?.elim out λx=>pickOrder.go next n (k+1) (xs.eraseIdx (next k%xs.length)) (out.push x):=by kernel_rfl
  have hk:next k%xs.length<xs.length:=Sl _ (by exact Nat.lt_of_sub_eq_succ h);rw[e,QE hk];refine(IH (k+1) _ _ (by rw[Ti hk,h];rfl)).trans ?_;rw[Array.toList_push];refine List.Perm.trans ?_ ((jm _ _ hk).append_right out.toList);rw[RY,<-QQ];exact List.perm_append_singleton _ _
theorem a8.typeIs{f:Value}(x:a8 s.heap it a f i n ep):s.TypeIs (.ref it) "set_iterator":=
 let⟨o,ho,hc,_⟩:=x;⟨o,ho,hc⟩
theorem a8.keep{f:Value}(x:a8 h it a f i n ep)(k:∀o,h.get? it=some o->h'.get? it=some o):a8 h' it a f i n ep:=
 let⟨o,ho,hc⟩:=x;⟨o,k _ ho,hc⟩
theorem iO{f:Value}{x f':Value}{i':Nat}{Q:Unit->Shared->Prop}(JS:a8 s.heap it a f i n ep)(hk:k<5)(hd:(#[f,Value.int i 0,.ref a,.int n 0,.int ep 0].setIfInBounds k x)=#[f',Value.int i' 0,.ref a,.int n 0,.int ep 0])(q:∀h',a8 h' it a f' i' n ep->Heap.SameBut it s.heap h'->Q () { s with heap:=h' }):wpAny (model P0 w) A (setField (.ref it) k x) Q E s:=by
 refine eG (id JS) λo ho hc JM=>?_;refine wpAny_setField ho JM (by simpa using hk) (q _ ⟨_,Rk _ ho (Obj.isFreed_of_fields (Obj.data_mapFields JM _)),(Obj.cls_mapFields ..).trans hc,?_⟩ (Rz ..));rw[Obj.data_mapFields JM,hd]
theorem pN{o:Obj}{vs:Array Value}{Q:Option Value->Shared->Prop}{P:Fin->Shared->Prop}(hh:A.handled=none)(ho:s.heap.get? it=some o)(hd:o.data=.fields vs)(h5:2<vs.size)(q:∀h',(∀b o,b≠it->s.heap.get? b=some o->h'.get? b=some o)->Q none { s with heap:=h' }):
  wpAny (model P0 w) A.in1 (do setField (.ref it) 2 .none;raiseNew (<-newExc (.type "StopIteration") [])) P (λe s'=>wpAny (model P0 w) A (do if <-isInstance e (.type "StopIteration")then pure none else throw e:Sem (Option Value)) Q E s') s:=by
 refine GA (wpAny_setField ho hd h5 ?_);refine GA ?_;unfold newExc newTuple;refine GA (RK ?_ (by size_fits));refine GA (m:=firstArgMember _ _) (wpAny_of_eq (a:=Value.none) (by first|rfl|(simp only[firstArgMember];rfl)) ?_);refine RK ?_ (by size_fits);unfold raiseNew;refine GA (wpAny_handled ?_);rw[show A.in1.handled=none from hh];refine GA (QD (wpAny_throw ?_));refine GA (wpAny_isInstance (T := "StopIteration") (b:=true) ⟨_,Q2 _ rfl,rfl⟩ isSubtype_stop ?_);exact QD (q _ λb o hb e=>QF _ (QF _ ((Rz ..).2 b hb |>.trans e)))
theorem ny{o:Obj}{es:Array (Int×Value)}{t:SetTable}{x:Value}{Q:Option Value->Shared->Prop}(JS:a8 s.heap it a (.int 0 0) i es.size ep)(ho:s.heap.get? a=some o)(hd:o.data=.set es ep t)(hf:t.fits es.size=true)(hb:w.params.followText "set-order" = true)(hx:((pickOrder (w.params.setOrder a ep) es)[i]?).map (·.2)=some x)(q:∀h',a8 h' it a (.int 0 0) (i+1) es.size ep->Heap.SameBut it s.heap h'->Q (some x) { s with heap:=h' }):wpAny (model P0 w) A (pyNext (.ref it)) Q E s:=by
 refine eG (id JS) λoi O8 Yo KZ=>?_;refine GA (wpAny_attempt (R3 (name:=Str.ofString "__next__") JS.typeIs aR (RM aR JS.typeIs cQ ?_ (dq _))));refine GA (QD ?_);refine GA (wpAny_fieldsOf O8 KZ ?_);refine GA (TQ ho hd hf ?_);rw[Q5 (by simp)];refine GA (GA (SZ ho hd hf ?_));refine GA (GA (SD (QD ?_)));rw[show(model P0 w).w.params.followText "set-order" = true from hb,Rb rfl,Q5 (by simp)];refine GA (GA (SZ ho hd hf ?_));refine GA (GA (SD (QD ?_)));rw[show(model P0 w).w.params.followText "set-order" = true from hb,Rb rfl];refine GA (SD (QD (QD ?_)));refine ay (RF.mp hx) λe he U=>?_;subst U;rw[RO,show(model P0 w).w.params.setOrder a ep=w.params.setOrder a ep from rfl,he];refine GA (iO JS (f':=.int 0 0) (i':=i) dk rfl λh1 MJ O7=>?_);exact GA (iO (s:={ s with heap:=h1 }) MJ (f':=.int 0 0) (i':=i+1) dk rfl λh2 L5 Yl=>(QD ⟨_,rfl,QD (q h2 L5 (O7.trans Yl))⟩))
theorem oB{o:Obj}{es:Array (Int×Value)}{t:SetTable}{Q:Option Value->Shared->Prop}(hh:A.handled=none)(JS:a8 s.heap it a (.int 0 0) i es.size ep)(ho:s.heap.get? a=some o)(hd:o.data=.set es ep t)(hf:t.fits es.size=true)(hb:w.params.followText "set-order" = true)(hx:(pickOrder (w.params.setOrder a ep) es)[i]? = none)(q:∀h',(∀b o,b≠it->s.heap.get? b=some o->h'.get? b=some o)->Q none { s with heap:=h' }):wpAny (model P0 w) A (pyNext (.ref it)) Q E s:=by
 refine eG (id JS) λoi O8 Yo KZ=>?_;refine GA (wpAny_attempt (R3 (name:=Str.ofString "__next__") JS.typeIs aR (RM aR JS.typeIs cQ ?_ (dq _))));refine GA (QD ?_);refine GA (wpAny_fieldsOf O8 KZ ?_);refine GA (TQ ho hd hf ?_);rw[Q5 (by simp)];refine GA (GA (SZ ho hd hf ?_));refine GA (GA (SD (QD ?_)));rw[show(model P0 w).w.params.followText "set-order" = true from hb,Rb rfl,Q5 (by simp)];refine GA (GA (SZ ho hd hf ?_));refine GA (GA (SD (QD ?_)));rw[show(model P0 w).w.params.followText "set-order" = true from hb,Rb rfl];refine GA (SD (QD (QD ?_)));rw[RO,show(model P0 w).w.params.setOrder a ep=w.params.setOrder a ep from rfl,hx];exact pN hh O8 KZ (by simp) q
noncomputable def vl(vs:List Value):Obj:={ cls:=.type "tuple",dict:=none,data:=.seq vs.toArray }
theorem lD{i p:Nat}{o:Obj}{es:Array (Int×Value)}{t:SetTable}{ps:List Nat}{e:Int×Value}{Q:Option Value->Shared->Prop}(JS:a8 s.heap it a (.ref ft) i es.size ep)(ho:s.heap.get? a=some o)(hd:o.data=.set es ep t)(hf:t.fits es.size=true)(PN:s.heap.get? ft=some (vl (ps.map λp:Nat=>rawInt (p:Int))))(hp:ps[i]? = some p)(he:es[p]? = some e)(q:∀h',a8 h' it a (.ref ft) (i+1) es.size ep->Heap.SameBut it s.heap h'->Q (some e.2) { s with heap:=h' }):wpAny (model P0 w) A (pyNext (.ref it)) Q E s:=by
 refine eG (id JS) λoi O8 Yo KZ=>?_;refine GA (wpAny_attempt (R3 (name:=Str.ofString "__next__") JS.typeIs aR (RM aR JS.typeIs cQ ?_ (dq _))));refine GA (QD ?_);refine GA (wpAny_fieldsOf O8 KZ ?_);refine GA (TQ ho hd hf ?_);rw[Q5 (by simp)];refine GA (SY PN rfl ?_);have hv:(ps.map λp:Nat=>rawInt (p:Int)).toArray[(i:Int).toNat]? = some (.int p 0):=by rw[RO,Q6,QX,hp];rfl
 dsimp only;rw[hv];refine GA (GA (SZ ho hd hf ?_));dsimp only;rw[Q5 (by simp),RO,he];refine QD ?_;exact GA (iO JS (f':=.ref ft) (i':=i+1) dk rfl λh1 MJ O7=>(QD ⟨_,rfl,QD (q h1 MJ O7)⟩))
theorem nx{o:Obj}{es:Array (Int×Value)}{t:SetTable}{ps:List Nat}{Q:Option Value->Shared->Prop}(hh:A.handled=none)(JS:a8 s.heap it a (.ref ft) i es.size ep)(ho:s.heap.get? a=some o)(hd:o.data=.set es ep t)(hf:t.fits es.size=true)(PN:s.heap.get? ft=some (vl (ps.map λp:Nat=>rawInt (p:Int))))(hp:ps[i]? = none)(q:∀h',(∀b o,b≠it->s.heap.get? b=some o->h'.get? b=some o)->Q none { s with heap:=h' }):wpAny (model P0 w) A (pyNext (.ref it)) Q E s:=by
 refine eG (id JS) λoi O8 Yo KZ=>?_;refine GA (wpAny_attempt (R3 (name:=Str.ofString "__next__") JS.typeIs aR (RM aR JS.typeIs cQ ?_ (dq _))));refine GA (QD ?_);refine GA (wpAny_fieldsOf O8 KZ ?_);refine GA (TQ ho hd hf ?_);rw[Q5 (by simp)];refine GA (SY PN rfl ?_);have hv:(ps.map λp:Nat=>rawInt (p:Int)).toArray[(i:Int).toNat]? = none:=by rw[RO,Q6,QX,hp];rfl
 dsimp only;rw[hv];refine GA (iO JS (f':=rawInt 0) (i':=i) dk rfl λh1 MJ O7=>?_);exact eG (id MJ) λo1 MW Xz Lf=>pN (s:={ s with heap:=h1 }) hh MW Lf (by simp) λh2 k2=>q h2 λb o hb e=>k2 b o hb ((O7.2 b hb).trans e)
noncomputable abbrev Jj:Array GenState->Array GenState->Prop:=λa b=>b=a
theorem il:PySem.Slot "set_iterator" "__iter__" "set_iterator.__iter__":=
 PySem.Slot.of (owner := "set_iterator") (n := "__iter__") (by rw[typeLookup_type,builtinLookup_eq_fast];kernel_rfl) dk dk dk
  (.inl dk) (by rw[isSubtype_type];kernel_rfl)
theorem lm:entryFor table "set_iterator.__iter__" = some Builtin.«dict_keyiterator.__iter__»:=entryFor_alias (id' := "dict_keyiterator.__iter__") (Z 1) (by first|rfl|decide +kernel) dk (Z 1)
theorem mj(a:Value):argsOk "set_iterator.__iter__" ⟨[a],[]⟩:=by unfold argsOk;rw[signature?_of (id := "set_iterator.__iter__") (n:=['_','_','r','e','t','i','_','_']) (o:=['r','o','t','a','r','e','t','i','_','t','e','s']) (Z 1) nB];kernel_rfl
theorem pg(hT:s.TypeIs (.ref it) "set_iterator")(q:Q (.ref it) s):wpAny (model P0 w) A (pyIter (.ref it)) Q E s:=by exact wpAny_pyIter_slot hT il (RM il hT lm (QD ⟨_,rfl,"set_iterator",_,hT,aR.lookup,q⟩) (mj _))
theorem vr(hh:A.handled=none){o:Obj}{es:Array (Int×Value)}{t:SetTable}(hd:o.data=.set es ep t)(hf:t.fits es.size=true)(hb:w.params.followText "set-order" = true)(JO:a≠it)(Z4:(pickOrder (w.params.setOrder a ep) es).toList.map (·.2)=vs):WalksS P0 w A it [it,a] [it] Jj vs.length (λi v=>vs[i]? = some v) (λi s=>a8 s.heap it a (.int 0 0) i es.size ep/\s.heap.get? a=some o)where
 sub:=λb hb=>by simp at hb;simp[hb]
 grefl:=λU=>rfl
 gtrans:=λU U U h1 h2=>h2.trans h1
 frame:=λi s h' tk st U k=>⟨st.1.keep λo e=>k it (by simp) o e,k a (by simp) _ st.2⟩
 item:=λi s Q E hi st q=>by have hx:vs[i]? = some vs[i]:=QE hi;refine ny st.1 st.2 hd hf hb (x:=vs[i]) ?_ λh' JS sb=>q _ _ hx ⟨JS,(sb.2 a JO).trans st.2⟩ ⟨λb o hb e=>(sb.2 b λz=>hb (by simp[z])).trans e,rfl,rfl,rfl,QO _⟩;rw[<-hx,<-Z4,QX,Array.getElem?_toList]
 done:=λs Q E st q=>by refine oB hh st.1 st.2 hd hf hb ?_ λh' k=>q _ ⟨λb o hb e=>k b o (λz=>hb (by simp[z])) e,rfl,rfl,rfl,QO _⟩;rw[<-Z4,Qs,SG];exact Array.getElem?_eq_none (QO _)
 self:=λi s Q E st q=>pg st.1.typeIs q
theorem tV(hh:A.handled=none){o:Obj}{es:Array (Int×Value)}{t:SetTable}{ps:List Nat}(hd:o.data=.set es ep t)(hf:t.fits es.size=true)(JO:a≠it)(X5:ft≠it)(Wx:∀p∈ps,p<es.size)(Z4:ps.map (λp=>(es.getD p (0,.none)).2)=vs):WalksS P0 w A it [it,a,ft] [it] Jj vs.length (λi v=>vs[i]? = some v) (λi s=>a8 s.heap it a (.ref ft) i es.size ep/\s.heap.get? a=some o/\s.heap.get? ft=some (vl (ps.map λp:Nat=>rawInt (p:Int))))where
 sub:=λb hb=>by simp at hb;simp[hb]
 grefl:=λU=>rfl
 gtrans:=λU U U h1 h2=>h2.trans h1
 frame:=λi s h' tk st U k=>⟨st.1.keep λo e=>k it (by simp) o e,k a (by simp) _ st.2.1,k ft (by simp) _ st.2.2⟩
 item:=λi s Q E hi st q=>by
  have hx:vs[i]? = some vs[i]:=QE hi;have ZD:i<ps.length:=by rw[<-Z4,Qs]at hi;exact hi
  have hp:ps[i]? = some ps[i]:=QE ZD;have J6:=Wx ps[i] (RH ZD);have he:es[ps[i]]? = some es[ps[i]]:=Array.getElem?_eq_getElem J6;have hv:vs[i]=es[ps[i]].2:=by
   have:vs[i]? = some es[ps[i]].2:=by rw[<-Z4,QX,hp,Option.map_some,Array.getD_eq_getD_getElem?,he];rfl
   rw[hx]at this;exact QG this
  refine lD st.1 st.2.1 hd hf st.2.2 hp he λh' JS sb=>q _ _ (hx.trans (QV some hv)) ⟨JS,(sb.2 a JO).trans st.2.1,(sb.2 ft X5).trans st.2.2⟩ ⟨λb o hb e=>(sb.2 b λz=>hb (by simp[z])).trans e,rfl,rfl,rfl,QO _⟩
 done:=λs Q E st q=>by refine nx hh st.1 st.2.1 hd hf st.2.2 ?_ λh' k=>q _ ⟨λb o hb e=>k b o (λz=>hb (by simp[z])) e,rfl,rfl,rfl,QO _⟩;rw[<-Z4,Qs];exact List.getElem?_eq_none (QO _)
 self:=λi s Q E st q=>pg st.1.typeIs q
theorem zH(hS:ff w s.heap a ks)(h2:2<=ks.length)(O4:ks.length<=64)(q:∀(I:Addr)(fp:List Addr)(St:Nat->Shared->Prop)(vs:List Value)(h':Heap)(d:Drawn),(∃ss,StrsAre vs ss/\ss.Perm ks)->(∀A':Around,A'.handled=none->WalksS P0 w A' I fp [I] Jj vs.length (λi v=>vs[i]? = some v) St)->St 0 { s with heap:=h',drawn:=d }->(∀i s',St i s'->s'.TypeIs (.ref I) "set_iterator")->I∈fp->s.heap.get? I=none->
   (∀b∈fp,b=a\/s.heap.get? b=none)->(∀b o,s.heap.get? b=some o->h'.get? b=some o)->d.other=s.drawn.other->Q (.ref I) { s with heap:=h',drawn:=d }):wpAny (model P0 w) A (pyIter (.ref a)) Q E s:=by
 refine ff.el (id hS) λo es ep t ho Kz hd Mk Mm hf J0=>?_;have hT:s.TypeIs (.ref a) "set":=⟨o,ho,Kz.1⟩;have hsz:es.size=ks.length:=by rw[<-Mm,Qs,SG]
 have Pi:t.plain=false:=J0 λz=>by rw[z]at h2;exact absurd h2 dk
 have J6:=Rx ho;refine wpAny_pyIter_slot hT PySem.F.slot_set_iter (RM PySem.F.slot_set_iter hT mH ?_ (PySem.F.args_set_iter_1 _));refine GA ?_;refine QD ?_;refine GA (GA (TQ ho hd hf (QD ?_)));refine GA ?_;refine GA (SZ ho hd hf ?_);refine GA (GA (SD (QD ?_)));have hdr:(!t.plain&&decide (es.size>1))=true:=by rw[Pi,Bool.not_false,Bool.true_and];exact Q7 (by exact Nat.lt_of_lt_of_eq h2 (id (Eq.symm hsz)))
 show wpAny _ _ (pure (!(w.params.followText "set-order")&&(!t.plain&&decide (es.size>1)))) _ _ s;rw[hdr,So];refine QD ?_;have W7:∀l:List (Int×Value),ElemsOf (PySem.strKind P0 w) l->StrsAre (l.map (·.2)) (l.map λe=>strOf e.2):=λl=>by
  induction l with
  |nil=>exact λU=>.nil
  |cons e l ih=>intro h;refine xE (h.keys e (.head _)) λk hk=>?_;obtain⟨h1,tk,h2⟩:=mX hk;rw[QW,QW,h1,h2];exact .cons k tk (ih h.tail)
 cases hb:w.params.followText "set-order" with
 |true=>
  rw[Bool.not_true,Q5 Rc];refine GA (QD ?_);refine GA (wpAny_setEpoch_of ho hd hf ?_);refine GA (RK (QD ⟨_,rfl,"set_iterator",_,⟨_,Q2 _ rfl,rfl⟩,aR.lookup,?_⟩));have hp:((pickOrder (w.params.setOrder a ep) es).toList).Perm es.toList:=by
   have:=xN (w.params.setOrder a ep) es.size 0 es.toList #[] (SG)
   rwa [QN]at this
  refine q _ [s.heap.objs.size,a] (λi s'=>a8 s'.heap s.heap.objs.size a (.int 0 0) i es.size ep/\s'.heap.get? a=some o) ((pickOrder (w.params.setOrder a ep) es).toList.map (·.2)) _ s.drawn ⟨_,W7 _ (Mk.perm hp),Mm▸(hp.map _)⟩ (λA' hA=>vr hA hd hf hb (RW J6) rfl) ⟨⟨_,Q2 _ rfl,rfl,rfl⟩,QF _ ho⟩ (λi s' st=>st.1.typeIs) (by simp) (aK (QO _)) (λb hb=>?_) (λb o e=>QF _ e) rfl;rcases Qw.mp hb with rfl|hb
  ·exact .inr (aK (QO _))
  ·exact .inl (QB.mp hb)
 |false=>
  rw[Bool.not_false,Rb rfl];refine GA (r8 es.size (List.range es.size) s _ RI λps d hp JX=>?_);refine GA (wpAny_newTuple ?_ (by rw[Qs,hp.length_eq,RI,hsz];exact QC O4 dk));have KS:(s.heap.push (vl (ps.map λp:Nat=>rawInt (p:Int)))).get? a=some o:=QF _ ho;refine GA (wpAny_setEpoch_of KS hd hf ?_);refine GA (RK (QD ⟨_,rfl,"set_iterator",_,⟨_,Q2 _ rfl,rfl⟩,aR.lookup,?_⟩));have YN:∀p∈ps,p<es.size:=λp h=>Q1.mp (hp.mem_iff.mp h);have ZE:(ps.map λp=>es.getD p (0,Value.none)).Perm es.toList:=by
   refine(hp.map _).trans (.of_eq ?_);refine List.ext_getElem (by simp) λi h1 h2=>?_;have hi:i<es.size:=by simpa using h2
   simp[hi]
  have Wx:(ps.map λp=>es.getD p (0,Value.none)).map (·.2)=ps.map (λp=>(es.getD p (0,.none)).2):=by rw[QZ];rfl
  refine q _ [(s.heap.push (vl (ps.map λp:Nat=>rawInt (p:Int)))).objs.size,a,s.heap.objs.size] (λi s'=>a8 s'.heap (s.heap.push (vl (ps.map λp:Nat=>rawInt (p:Int)))).objs.size a (.ref s.heap.objs.size) i es.size ep/\s'.heap.get? a=some o/\s'.heap.get? s.heap.objs.size=some (vl (ps.map λp:Nat=>rawInt (p:Int)))) (ps.map (λp=>(es.getD p (0,.none)).2)) _ d
   ⟨_,Wx▸W7 _ (Mk.perm ZE),Mm▸(ZE.map _)⟩ (λA' hA=>tV hA hd hf (by rw[Rq];exact RW (RN J6)) (by rw[Rq];exact RW (Rf _)) YN rfl)
   ⟨⟨_,Q2 _ rfl,rfl,rfl⟩,QF _ KS,QF _ (Q2 _ rfl)⟩ (λi s' st=>st.1.typeIs) (by simp) (aK (by rw[Rq];exact SF _)) (λb hb=>?_) (λb o e=>QF _ (QF _ e)) JX
  simp only[Qw,Q3,or_false]at hb;rcases hb with rfl|rfl|rfl
  ·exact .inr (aK (by rw[Rq];exact SF _))
  ·exact .inl rfl
  ·exact .inr (aK (QO _))
theorem oE:splitId "set.__len__" = some ("set","__len__"):=by kernel_rfl
theorem zr{Q:Bool->Shared->Prop}(hT:s.TypeIs (.ref a) "set")(q:Q false s):wpAny (model P0 w) A (Builtin.List.listLengthHint (.ref a)) Q E s:=by refine GA (wpAny_specialOf hT PySem.F.slot_set_len.lookup ?_);dsimp only;rw[oE];refine GA (wpAny_isInstance hT sub_set_self ?_);rw[Bool.not_true,Q5 Rc];exact TS dk (GA (wpAny_typeOf hT (QD q)))
theorem rU{Q:List Value->Shared->Prop}(hh:A.handled=none)(hS:ff w s.heap a ks)(h2:2<=ks.length)(O4:ks.length<=64)(q:∀(vs:List Value)(ss:List Str)(h':Heap)(tk:Nat)(d:Drawn),StrsAre vs ss->ss.Perm ks->(∀b o,s.heap.get? b=some o->h'.get? b=some o)->d.other=s.drawn.other->Q vs { s with heap:=h',toks:=tk,drawn:=d }):wpAny (model P0 w) A (collect (.ref a)) Q E s:=by
 obtain⟨o,es,ep,t,ho,Kz,_⟩:=id hS;have J6:=Rx ho;refine GA (wpAny_runValue (Tc PySem.F.entry_proto_collect ?_));rw[Sw PySem.F.plain_proto_collect _];refine GA (RK ?_);refine QD ⟨plainId_quiet PySem.F.plain_list_iadd _,Tc PySem.F.entry_list_iadd ?_⟩;rw[Sw PySem.F.plain_list_iadd _];show wpAny _ A.in1 (Builtin.List.listExtendWith (.ref s.heap.objs.size) (.ref a) (.ref s.heap.objs.size)) _ _ _;have Yk:ff w (s.heap.push { cls:=.type "list",data:=.seq ([]:List Value).toArray }) a ks:=hS.keep λo e=>QF _ e;have hT:Shared.TypeIs { s with heap:=s.heap.push { cls:=.type "list",data:=.seq ([]:List Value).toArray } } (.ref a) "set":=⟨o,QF _ ho,Kz.1⟩;refine GA (wpAny_typeOf hT ?_);have h1:Builtin.List.listSameRef (.ref s.heap.objs.size) (.ref a)=false:=beq_eq_false_iff_ne.mpr (TJ J6);have h3:(Value.type "set" == Value.type "list")=false:=by decide
 have h4:(Value.type "set" == Value.type "tuple")=false:=by decide
 refine Ue (by rw[h1,h3,h4];decide) ?_;have hL:(s.heap.push { cls:=.type "list",data:=.seq ([]:List Value).toArray }).get? s.heap.objs.size=some { cls:=.type "list",data:=.seq ([]:List Value).toArray }:=Q2 _ rfl;refine GA (zH Yk h2 O4 λI fp St vs h' d Z4 hW JW PK hI XA hfp hk hd=>?_);refine ay Z4 λss Z4 JP=>?_;have YO:=hk _ _ hL;have hT':Shared.TypeIs { s with heap:=h',drawn:=d } (.ref a) "set":=⟨o,hk _ _ (QF _ ho),Kz.1⟩;refine GA (RL (zr hT' ?_));refine TS dk ?_;refine GA (wpAny_rule (GA ?_));have YO:=hk _ _ hL;refine GA (T1 YO rfl ?_);have ZF:=Rk (Obj.mapSeq (·.push Value.none)) YO rfl;refine T1 ZF rfl ?_;have hL3:=Rk (Obj.mapSeq (·.pop)) ZF rfl;have ZG:∀b o,b≠s.heap.objs.size->h'.get? b=some o->((h'.update s.heap.objs.size (Obj.mapSeq (·.push Value.none))).update s.heap.objs.size (Obj.mapSeq (·.pop))).get? b=some o:=
  λb o hb e=>(R5 _ _ (Ne.symm hb)).trans ((R5 _ _ (Ne.symm hb)).trans e)
 have ZH:s.heap.objs.size∉fp:=λz=>by
  rcases hfp _ z with e|e
  ·exact absurd e (TJ J6)
  ·rw[hL]at e;exact sN e
 have hA2:A.in1.in1.handled=none:=by simp[hh]
 have W:=hW A.in1.in1 hA2;have JF:vs.length=ks.length:=by rw[Z4.length,JP.length_eq]
 refine QD ⟨plainId_quiet PySem.F.plain_extend_loop _,codeAny_extend_loopS (hW A.in1 hh) (by rw[JF];exact QC O4 dk) _ ZH _ vs.length 0 _ _ _ rfl (Rh _)
  ((hW A.in1 hh).frame 0 ({ s with heap:=h',drawn:=d }:Shared) _ s.toks JW (QO _) λb hb o e=>ZG b o (λh=>ZH (h▸hb)) e) hL3 (ItemsOf.nil _) λs' acc c' hm KV M4=>?_⟩
 refine GA (wpAny_load KV ?_);have hav:acc.toList=vs:=by
  refine List.ext_getElem? λi=>?_;rw[Array.getElem?_toList];cases hi:acc[i]? with
  |some v=>exact(M4.2 i v hi).symm
  |none=>
   have:acc.size<=i:=Array.getElem?_eq_none_iff.mp hi
   rw[M4.1]at this;exact(List.getElem?_eq_none this).symm
 dsimp only;rw[hav];obtain⟨M5,g2,d2,Yq,os2⟩:=s';have eg:g2=s.gens:=hm.gens;have ed:d2=d:=hm.drawn;have eo:os2=s.os:=hm.os;subst eg;subst ed;subst eo;refine QD (q vs ss M5 Yq d2 Z4 JP (λb o e=>?_) hd);have hb:b≠s.heap.objs.size:=RW (Rx e);have e1:=hk b o (QF _ e);refine hm.heap b o (λz=>?_) (ZG b o hb e1);rcases Qw.mp z with z|z
 ·exact hb z
 ·have e1:=QF { cls:=.type "list",data:=.seq ([]:List Value).toArray } e
  rw[QB.mp z]at e1
  have:=XA.symm.trans e1
  exact nS this
section
open PySem.Spec (ltCps)
abbrev rm(a b:Str):Prop:=ltCps b.cps.toList a.cps.toList=false
theorem gL{a b:Str}:rm a b↔a.cps.toList<=b.cps.toList:=by unfold rm;rw[ltCps_eq,decide_eq_false_iff_not,List.not_lt]
theorem pA{a b c:Str}(h:rm a b)(h':rm b c):rm a c:=gL.mpr (List.le_trans (gL.mp h) (gL.mp h'))
theorem zN{a b:Str}(h:rm a b)(h':rm b a):a=b:=by have e:=List.le_antisymm (gL.mp h) (gL.mp h');obtain⟨⟨x⟩⟩:=a;obtain⟨⟨y⟩⟩:=b;simp only at e;subst e;rfl
theorem xU:∀(l:List Str)(p:Str),risingS p l=true->(p::l).Pairwise rm:=by
 intro X_;induction X_ with
 |nil=>intro p _;exact List.pairwise_singleton _ _
 |cons x r IH=>
  intro p h;have h':(!ltCps x.cps.toList p.cps.toList&&risingS x r)=true:=h;rw[R9,Si]at h';have ih:=IH x h'.2;refine SO.mpr ⟨λy hy=>?_,ih⟩;rcases Qw.mp hy with rfl|hy
  ·exact h'.1
  ·exact pA (a:=p) (b:=x) h'.1 ((SO.mp ih).1 y hy)
theorem x5{l:List Str}(h:sortedS l=true):l.Pairwise rm:=by
 rcases l with _|⟨x,r⟩
 ·exact .nil
 ·exact xU r x h
theorem li:∀{l l':List Str},l.Pairwise rm->l'.Pairwise rm->l.Perm l'->l=l'
 |[],l',_,_,p=>(List.nil_perm.mp p).symm
 |a::r,[],_,_,p=>absurd p.length_eq (by simp)
 |a::r,b::r',h,h',p=>by
  have e:a=b:=by
   rcases Qw.mp (p.mem_iff.mp (QH (a:=a)))with e|ha
   ·exact e
   ·rcases Qw.mp (p.mem_iff.mpr (QH (a:=b)))with e|hb
    ·exact e.symm
    ·exact zN ((SO.mp h).1 b hb) ((SO.mp h').1 a ha)
  subst e;rw[li (SO.mp h).2 (SO.mp h').2 (List.Perm.cons_inv p)]
structure gZ(l R:List Str):Prop where
 pw:R.Pairwise rm
 nd:R.Nodup
 mem:∀y,y∈R↔y∈l
theorem gZ.uniq{l l' R R':List Str}(h:gZ l R)(h':gZ l' R')(e:∀y,y∈l↔y∈l'):R=R':=
 li h.pw h'.pw ((List.perm_ext_iff_of_nodup h.nd h'.nd).mpr λy=>(h.mem y).trans ((e y).trans (h'.mem y).symm))
open Classical in
noncomputable def eP(l:List Str):List Str:=if h:∃R,gZ l R then h.choose else[]
theorem oM{l R:List Str}(h:gZ l R):eP l=R:=by
 unfold eP
 have:∃R,gZ l R:=⟨R,h⟩
 rw[dif_pos this];exact this.choose_spec.uniq h λU=>.rfl
theorem vf(hh:A.handled=none)(hS:ff w s.heap a ks)(h2:2<=ks.length)(O4:ks.length<64)(q:∀(vs:List Value)(ss:List Str)(L:Addr)(n:Nat)(h':Heap)(tk:Nat)(d:Drawn),StrsAre vs ss->ss.Perm ks->ss.Pairwise rm->h'.get? L=some (aQ "list" vs n)->s.heap.get? L=none->(∀b o,s.heap.get? b=some o->h'.get? b=some o)->d.other=s.drawn.other->Q (.ref L) { s with heap:=h',toks:=tk,drawn:=d }):
  wpAny (model P0 w) A (call (.builtin "sorted") [.ref a]) Q E s:=by
 refine Calls.call_function_entry kind_sorted plain_sorted entry_sorted (args_sorted1 _) ?_;refine GA (m:=checkCount "sorted" 1 1 _) (QD ?_);refine GA (rU hh hS h2 (RE O4) λvs ss h' tk d Z4 hp k hd=>?_);have JF:vs.length=ks.length:=by rw[Z4.length,hp.length_eq]
 refine GA (wpAny_newList ?_ (by rw[JF];exact QC (RE O4) dk));have YQ:(h'.push (seqObj "list" vs.toArray 0)).get? h'.objs.size=some (seqObj "list" vs.toArray 0):=Q2 _ rfl;refine GA (RL (RM slot_list_sort ⟨_,YQ,rfl⟩ entry_list_sort (list_sort_treeK strKind_oneLt YQ Z4.keysOf (λVC Wf rest e=>keyKind_strs (by rw[<-e];exact Z4)) (by rw[JF];exact O4) λKo a1 a2=>⟨_,rfl,?_⟩) (args_list_sort _)));refine eG (sorted_out_str Z4 a1 a2) λYp h1 M5 h3=>?_;refine xE (sortedHeap_at (out:=(arrOf Ko).map (·.2)) YQ) λe he=>?_;refine QD ⟨_,rfl,q ((arrOf Ko).map (·.2)).toList Yp h'.objs.size e _ _ _ h1 (M5.trans hp) (x5 h3) ?_ ?_ (λb o eb=>?_) hd⟩
 ·exact he
 ·rcases q:s.heap.get? h'.objs.size with _|o
  ·rfl
  ·exact absurd (Rx (k _ _ q)) (Ts _)
 ·have J6:=Rx (k _ _ eb)
  have:=sortedHeap_old (h:=h'.push (seqObj "list" vs.toArray 0)) (a:=h'.objs.size) (b:=b) (vs:=vs) (out:=(arrOf Ko).map (·.2)) (RW J6) (by rw[Rq];exact RN J6)
  exact this.trans (QF _ (k _ _ eb))
theorem wy:∀{ss:List Str}{vs:List Value},aX g (ss.map .str) vs->StrsAre vs ss:=by
 intro X_;induction X_ with
 |nil=>intro _ h;obtain rfl:=h.Z3;exact .nil
 |cons x ss IH=>intro _ h;refine cq.el h.Z0 λv vs U r h1=>?_;subst U;refine xE r.inv λt U=>?_;subst U;exact .cons x t (IH h1)
theorem wn(h:StrsAre vs ss):aX g (ss.map .str) vs:=by
 induction h with
 |nil=>exact .nil
 |cons x t _ ih=>exact .cons (.str x t) ih
theorem uA(Km:Bl T "sorted" (.builtin "sorted"))(Kp:Bl T "set" (.type "set"))(he:Ev T c O e (.list (ss.map .str)))(JF:ss.length<64)(h2:∃x∈ss,∃y∈ss,x≠y)(hk1:c.sc.names.lookup ("sorted" : Str)=some .globalImplicit)(Wy:c.sc.names.lookup ("set" : Str)=some .globalImplicit)(t1:∀ZV,eval (.Call (.Name "set" p2) [e] [] p1) ZV=(do callWith p1 (<-eval (.Name "set" p2) ZV) [] (backTo p1 (starEach [e] ZV)) (backToKw p1 (keywordEach [] ZV))))(t2:Ω1 e)(t3:∀ZV,(backTo p1 (starEach [e] ZV)).any (·.1)=false)(t4:∀ZV,eval (.Call (.Name "sorted" p4) [.Call (.Name "set" p2) [e] [] p1] [] p3) ZV=(do callWith p3 (<-eval (.Name "sorted" p4) ZV) [] (backTo p3 (starEach [.Call (.Name "set" p2) [e] [] p1] ZV)) (backToKw p3 (keywordEach [] ZV))))(t5:∀ZV,starEach [.Call (.Name "set" p2) [e] [] p1] ZV=(false,eval (.Call (.Name "set" p2) [e] [] p1) ZV)::starEach [] ZV)(t6:∀ZV,(backTo p3 (starEach [.Call (.Name "set" p2) [e] [] p1] ZV)).any (·.1)=false):
  Ev T c O (.Call (.Name "sorted" p4) [.Call (.Name "set" p2) [e] [] p1] [] p3) (.list ((eP ss).map .str)):=by
 constructor;intros;refine d7 Km rfl hk1 dk t4 t5 t6 ok tp JE ?_;refine d7 Kp rfl Wy dk t1 t2 t3 ok tp JE ?_;refine he.run ok tp R JE λv HX Uf rv=>?_;refine dK.el rv.inv λl vs n U hg JL=>?_;subst U;refine xA (ab.mp hg) λKH hg=>?_;refine oj (w:=w) R.handled hg (wy JL) (by unfold scanBound;lia) λh1 tk1 ks hS nd Mq JN k1=>?_;have YR:2<=ks.length:=by obtain⟨x,hx,y,hy,Kj⟩:=h2;have KN:=(JN x).mpr hx;have Na:=(JN y).mpr hy;exact A4 KN Na Kj
 refine vf (s:={ HX with heap:=h1,toks:=tk1 }) R.handled hS YR (by exact Nat.lt_of_le_of_lt Mq JF) λvs' Yp L n' M5 Yq d Z4 hp hpw hL hLn k2 hd=>?_;have e:eP ss=Yp:=oM ⟨hpw,hp.nodup_iff.mpr nd,λy=>hp.mem_iff.trans (JN y)⟩;rw[e]at q;have af:ao HX { HX with heap:=M5,toks:=Yq,drawn:=d }:=⟨λb o z=>k2 _ _ (k1 _ _ z),rfl,hd,rfl⟩;refine q _ _ (Uf.trans af) (.list (vs:=vs') (n:=n') (ab.mpr ⟨λz=>?_,hL⟩) (wn Z4));refine xE ((JE.grow Uf.keep).have _ z) λo z=>?_
 have:=k1 _ _ z
 rw[hLn]at this;exact nS this
end
theorem DZ:∀x<5,∀k<5,PyData.eqv (bE x).py (bE k).py=(k==x):=by decide +kernel
theorem jS(hk:k<5):∀{p:List Nat},(∀x∈p,x<5)->((uc (p.map bE)).any λy=>PyData.eqv y (bE k).py)=p.contains k:=by
 intro X_;induction X_ with
 |nil=>intro _;exact rfl
 |cons x p IH=>intro h;show(PyData.eqv (bE x).py (bE k).py||(uc (p.map bE)).any λy=>PyData.eqv y (bE k).py)=_;rw[DZ x (h x (.head _)) k hk,IH λy hy=>h y (.tail _ hy)];rfl
theorem rN(a b:Bool):(!PyData.eqv (D.bool a).py (D.bool b).py)=(a != b):=by cases a<;>cases b<;>decide +kernel
theorem vU:∀t:List (List Nat),Str.join (aj [32]) (t.map aj)=aj (ia t)
 |[]=>rfl
 |[c]=>rfl
 |c::d::t=>by have e:=vU (d::t);have h:Str.join (aj [32]) ((c::d::t).map aj)=aj c++aj [32]++Str.join (aj [32]) ((d::t).map aj):=rfl;rw[h,e,bq,bq,QQ];rfl
theorem sJ(t:List (List Nat)):Txt.join (aj [32]) (t.map aj)=aj (ia t):=(beq_iff_eq.mp (join_plain_closes _ _)).trans (vU t)
theorem pC:∀m<3,Txt.mul (aj [58]) ((m:Nat):Int)=aj (List.replicate m 58):=by decide +kernel
def edOk(q:List Nat×Nat):Prop:=(∀x∈q.1,x<5)/\q.2<3/\q.1.length<=30
def Qk(q:List Nat×Nat):D:=.str (aj (fP q.1 q.2))
def kj(ps:List D)(d:D):Bool:=(uc ps).any λy=>PyData.eqv y d.py
def ud(ps:List D)(d:D):Bool:=(!PyData.eqv (D.bool (kj ps d)).py (D.bool (kj ps (bE 0))).py)&&true
def ND:D->D
 |.list [.list ps,.int m]=>.str (Txt.join (aj [32]) (((List.range 5).filter λk=>ud ps (bE k)).map λk=>aj (dp k))++Txt.mul (aj [58]) m)
 |_=>.none
theorem Fb{p:List Nat}(h:∀x∈p,x<5)(hk:k<5):ud (p.map bE) (bE k)=(p.contains k != p.contains 0):=by unfold ud kj;rw[rN,So,jS hk h,jS dk h]
theorem Fa{q:List Nat×Nat}(h:edOk q):ND (kh q)=Qk q:=by
 show D.str (Txt.join (aj [32]) (((List.range 5).filter λk=>ud (q.1.map bE) (bE k)).map λk=>aj (dp k))++Txt.mul (aj [58]) ((q.2:Nat):Int))=_;have e:((List.range 5).filter λk=>ud (q.1.map bE) (bE k))=(List.range 5).filter λk=>q.1.contains k != q.1.contains 0:=R1 λk hk=>Fb h.1 (Q1.mp hk);rw[e,pC q.2 h.2.1];have e2:(((List.range 5).filter λk=>q.1.contains k != q.1.contains 0).map λk=>aj (dp k))=(((List.range 5).filter λk=>q.1.contains k != q.1.contains 0).map dp).map aj:=by rw[QZ];rfl
 rw[e2,sJ,bq];rfl
theorem D5:∀k<5,i9 0 (bE k)=true:=by decide +kernel
theorem kr(h:k<5):i9 1 (bE k)=true:=D5 k h
theorem ij{p:List Nat}(h:∀x∈p,x<5):i9 2 (.list (p.map bE))=true:=by show(p.map bE).all (i9 1)=true;rw[QL];intro d hd;refine ay (QR.mp hd) λk hk U=>?_;subst U;exact kr (h k hk)
theorem EK:∀m<3,PySem.MulOk (aj [58]) ((m:Nat):Int):=λm hm=>by
 refine⟨?_,?_,?_⟩
 ·have:∀m<3,(decide (((m:Nat):Int) < -2^63)||decide (((m:Nat):Int)>=2^63))=false:=by decide
  exact this m hm
 ·intro h1 h2
  have:∀m<3,(((m:Nat):Int)==1||(aj [58]).length==0)=false->¬(((m:Nat):Int)<1)->¬(((aj [58]).length:Int)>(2^63-1) / ((m:Nat):Int)):=by decide +kernel
  exact this m hm h2 h1
 ·intro h1 h2
  have:∀m<3,Builtin.Str.tooLong ((aj [58]).length*(((m:Nat):Int)).toNat)=false:=by decide +kernel
  exact this m hm
theorem w6(p:List Nat):((bZ.filter (ud (p.map bE))).map id)=(((List.range 5).filter λk=>ud (p.map bE) (bE k)).map λk=>aj (dp k)).map D.str:=by rw[Ua,QZ,show bZ=(List.range 5).map bE from rfl,SM];rfl
theorem BG:∀k<5,(aj (dp k)).length<=2:=by decide +kernel
theorem wz(l:List Nat)(h:∀k∈l,k<5):((l.map λk=>aj (dp k)).map (·.length)).sum<=2*l.length:=by
 induction l with
 |nil=>exact QO _
 |cons k l ih=>
  rw[QW,QW,Ry,QK]
  have:=ih λx hx=>h x (.tail _ hx)
  have:=BG k (h k (.head _))
  lia
theorem AU(f:Nat->Bool):((((List.range 5).filter f).map λk=>aj (dp k)).map (·.length)).sum+(((List.range 5).filter f).map λk=>aj (dp k)).length*(aj [32]).length<=16777216:=by have h1:=wz ((List.range 5).filter f) λk hk=>Q1.mp (Q8.mp hk).1;have h2:((List.range 5).filter f).length<=5:=Rp f (List.range 5);rw[Qs,show(aj [32]).length=1 from rfl];lia
theorem pi:∀t:List (List Nat),(ia t).length<=(t.map (·.length)).sum+t.length
 |[]=>Rh _
 |[a]=>by show a.length<=_;simp
 |a::b::t=>by
  have:=pi (b::t)
  show(a++32::ia (b::t)).length<=_;rw[Qu,QK,QW,Ry,QK (a:=a)];lia
theorem xu(hf:cf T "_law_sides" ["edges"] (fh 79) (bF 79))(hE:FD T 3 "_law_ends" [] (.list bZ))(Km:Bl T "sorted" (.builtin "sorted"))(Kp:Bl T "set" (.type "set"))(ZX:List (List Nat×Nat))(Kf:∀q∈ZX,edOk q)(JF:ZX.length<60)(h2:∃x∈(ZX.map λq=>fP q.1 q.2).filter (λs=>!s.isEmpty),∃y∈(ZX.map λq=>fP q.1 q.2).filter (λs=>!s.isEmpty),x≠y):
  Fn T 6 "_law_sides" [.list (ZX.map kh)] (.list ((eP (((ZX.map λq=>fP q.1 q.2).filter λs=>!s.isEmpty).map aj)).map .str)):=by
 refine eU (n:=5) (rest:=["sides"]) (wr:=[]) hf rfl ?_;refine ac (cA 1 (own:=["part","length"]) (fr:=[]) (wr':=["part"]) (fi:=[]) (fs:=[]) (items:=ZX.map kh) (p:=λU=>true) (f:=ND) (g:=λd=>match d with|.list [p,m]=>[.val p,.val m]|_=>[]) (n':=4)
  (bb (aa 0) rfl) dk dk dk rfl rfl dk dk dk (Z 1) (by rw[Qs];exact QC (RE JF) dk) (Z 5) ?_ (λU U=>aw) ?_ rfl rfl rfl (Z 1) (λU ok=>(di ok).trans (Z 1)) ?_)
 ·intro t ht Wj hσ
  refine ay (QR.mp ht) λq U U=>?_;subst U;obtain⟨o,o',rfl,g1,g2⟩:=j8 hσ λd' JX=>by refine ay (QR.mp JX) λq U U=>?_;subst U;exact⟨_,_,rfl⟩
  exact j2 (an (ae 0 rfl rfl g1) (an (ae 1 rfl rfl g2) bg))
 ·intro t ht _
  refine ay (QR.mp ht) λq hq U=>?_;subst U;have Pd:=Kf q hq;refine eR (iA aA (ys:=((List.range 5).filter λk=>ud (q.1.map bE) (bE k)).map λk=>aj (dp k)) (Ev.to (bW (own:=["name"]) (fr:=["part"]) (wr':=[]) (fi:=[0]) (fs:=[aW q.1]) (items:=bZ) (p:=ud (q.1.map bE)) (f:=id) (g:=λd=>[.val d,.val (aW q.1)]) (n':=4)
    (bb (oS (kA hE dk)) rfl) (QO _) dk dk rfl rfl dk dk dk (Z 1) dk (Z 5) ?_ ?_ ?_) (QV D.list (w6 q.1)))
   (Z 6) (Z 2) (AU _)) (w8 aA (aa 1) (EK q.2 Pd.2.1)) ?_
  ·intro d hd Wj hσ
   have:∃o:Slot,Wj=[o,.val (aW q.1)]/\o.ZW=false:=by
    rcases hσ with rfl|⟨d',K0,rfl⟩
    ·exact⟨.no,rfl,rfl⟩
    ·exact⟨_,rfl,rfl⟩
   refine ay this λo U g1=>?_;subst U;exact ae 0 rfl rfl g1
  ·intro d hd
   have JX:i9 1 d=true:=by refine ay (QR.mp (show d∈(List.range 5).map bE from hd)) λk hk U=>?_;subst U;exact kr (Q1.mp hk)
   exact ci (aE (dM (aa 0) (aa 1) (d5 (k:=1) (k':=1) JX (ij Pd.1) dk) rfl) (dM aA (aa 1) (d5 (k:=1) (k':=1) (a:=bE 0) (kr dk) (ij Pd.1) dk) rfl) (jE (k:=0) (k':=0) rfl rfl dk)) (λU=>aw)
  ·intro d hd _
   exact aa 0
  ·have e:(((List.range 5).filter λk=>ud (q.1.map bE) (bE k)).map λk=>aj (dp k))=(((List.range 5).filter λk=>ud (q.1.map bE) (bE k)).map dp).map aj:=by rw[QZ];rfl
   rw[e,sJ,pC q.2 Pd.2.1,aM,aM,List.length_replicate];have h1:=pi (((List.range 5).filter λk=>ud (q.1.map bE) (bE k)).map dp);have h2:=wz ((List.range 5).filter λk=>ud (q.1.map bE) (bE k)) λk hk=>Q1.mp (Q8.mp hk).1;have h4:((List.range 5).filter λk=>ud (q.1.map bE) (bE k)).length<=5:=Rp _ (List.range 5);have e3:(((List.range 5).filter λk=>ud (q.1.map bE) (bE k)).map dp).map (·.length)=(((List.range 5).filter λk=>ud (q.1.map bE) (bE k)).map λk=>aj (dp k)).map (·.length):=by rw[e,QZ,QZ,QZ];exact Ra λk U=>(aM _).symm
   rw[e3,Qs]at h1;have h3:=Pd.2.1
   have:sizeLine=16777216:=rfl
   lia
 ·have e0:((ZX.map kh).filter λU=>true).map ND=(ZX.map λq=>fP q.1 q.2).map λs=>.str (aj s):=by rw[RD.mpr (Z 5),QZ,QZ];exact Ra λq hq=>Fa (Kf q hq)
  rw[e0];refine ac (bf (uA Km Kp (ss:=((ZX.map λq=>fP q.1 q.2).filter λs=>!s.isEmpty).map aj) (Ev.to (bW (own:=["side"]) (fr:=[]) (wr':=[]) (fi:=[]) (fs:=[]) (items:=(ZX.map λq=>fP q.1 q.2).map λs=>.str (aj s)) (p:=λd=>match d with|.str s=>s != aj []&&true|_=>false) (f:=id) (g:=λd=>[.val d]) (n':=4)
    (bb (aa 1) rfl) dk dk dk rfl rfl dk dk dk (Z 1) (by rw[Qs,Qs];exact QC (RE JF) dk) (Z 5) ?_ ?_ ?_) (QV D.list ?_)) ?_ ?_ (Z 1) (Z 1) (Z 2) (Z 2) (Z 2) (Z 2) (Z 2) (Z 2)) (.inl rfl))
  ·intro d hd Wj hσ
   have:∃o:Slot,Wj=[o]/\o.ZW=false:=by
    rcases hσ with rfl|⟨d',K0,rfl⟩
    ·exact⟨.no,rfl,rfl⟩
    ·exact⟨_,rfl,rfl⟩
   refine ay this λo U g1=>?_;subst U;exact ae 0 rfl rfl g1
  ·intro d hd
   refine ay (QR.mp hd) λx U U=>?_;subst U;exact ci (aE (aa 0) aA lL) (λU=>aw)
  ·intro d hd _
   exact aa 0
  ·rw[Ua,SM,QZ]
   have:((λd:D=>match d with|.str s=>s != aj []&&true|_=>false)∘λs:List Nat=>D.str (aj s))=λs=>!s.isEmpty:=funext λs=>by
    show(aj s != aj []&&true)=_;rw[So];rcases s with _|⟨a,l⟩
    ·exact bne_self_eq_false _
    ·exact bne_iff_ne.mpr λz=>by cases gR.mp z
   rw[this];rfl
  ·rw[Qs]
   exact Nat.lt_of_le_of_lt (Rp _ _) (by rw[Qs];lia)
  ·obtain⟨x,hx,y,hy,Kj⟩:=h2
   exact⟨aj x,Sf hx,aj y,Sf hy,λz=>Kj (gR.mp z)⟩
structure F3(t:NT):Prop where
 txt:t.txt.length+5<=9*t.part.length
 ZX:t.ZY.length+2<=3*t.part.length
 sz:t.sz+1=2*t.part.length
theorem r9(p:List Nat)(m:Nat):(k7 p m).length<=1:=by unfold k7;split<;>simp
theorem bJ:∀t:NT,F3 t:=by
 intro X_;induction X_ with
 |leaf k m=>
  have h1:=ql k;have h2:=dP m;have h3:=r9 [k] m;refine⟨?_,?_,rfl⟩
  ·show(dp k++eJ m).length+5<=9*1
   rw[Qu];lia
  ·show(k7 [k] m).length+2<=3*1
   lia
 |node a b m IHa IHb=>
  obtain⟨a1,a2,a3⟩:=IHa;obtain⟨b1,b2,b3⟩:=IHb;have h2:=dP m;have h3:=r9 (a.part++b.part) m;refine⟨?_,?_,?_⟩
  ·show(40::(a.txt++44::(b.txt++41::eJ m))).length+5<=9*(a.part++b.part).length
   simp only[Qu,QK];lia
  ·show(a.ZY++(b.ZY++(a.part++b.part,0)::k7 (a.part++b.part) m)).length+2<=3*(a.part++b.part).length
   simp only[Qu,QK];lia
  ·show a.sz+b.sz+1+1=2*(a.part++b.part).length
   rw[Qu];lia
theorem jT:∀{t:NT},t.ok->∀x∈t.part,x<5:=by
 intro t;induction t with
 |leaf k m=>intro h x hx;rw[QB.mp hx];exact h.1
 |node a b m IHa IHb=>exact λh x hx=>(Qz.mp hx).elim (IHa h.1 x) (IHb h.2.1 x)
theorem yQ{p:List Nat}{m:Nat}(hp:∀x∈p,x<5)(hm:m<3){q:List Nat×Nat}(h:q∈k7 p m):(∀x∈q.1,x<5)/\q.2<3/\q.1.length<=p.length:=by
 unfold k7 at h;split at h
 ·contradiction
 ·rw[QB.mp h];exact⟨hp,hm,QO _⟩
theorem uw:∀{t:NT},t.ok->∀q∈t.ZY,(∀x∈q.1,x<5)/\q.2<3/\q.1.length<=t.part.length:=by
 intro t;induction t with
 |leaf k m=>exact λh q hq=>yQ (p:=[k]) (λx hx=>by rw[QB.mp hx];exact h.1) h.2 hq
 |node a b m IHa IHb=>
  intro h q hq;have hl:(NT.node a b m).part.length=a.part.length+b.part.length:=Qu;have hp:∀x∈a.part++b.part,x<5:=jT (t:=.node a b m) h;have hq:q∈a.ZY++(b.ZY++(a.part++b.part,0)::k7 (a.part++b.part) m):=hq;rw[Qz,Qz,Qw]at hq;rcases hq with hq|hq|rfl|hq
  ·refine jd (IHa h.1 q hq) λh1 h2 h3=>?_
   exact⟨h1,h2,by lia⟩
  ·refine jd (IHb h.2.1 q hq) λh1 h2 h3=>?_
   exact⟨h1,h2,by lia⟩
  ·exact⟨hp,Tt 2,QO _⟩
  ·exact yQ hp h.2.2 hq
structure et(t:be):Prop where
 ok:t.ok
 five:t.part.length=5
section
variable{t:be}
theorem et.sz(h:et t):t.x.sz+t.y.sz+t.z.sz<=30:=by
 have e:t.x.part.length+(t.y.part.length+t.z.part.length)=5:=by have:=h.five;unfold be.part at this;rw[Qu,Qu]at this;exact this
 have h1:=(bJ t.x).sz;have h2:=(bJ t.y).sz;have h3:=(bJ t.z).sz;lia
theorem et.txt(h:et t):t.txt.length<=60:=by
 have e:t.x.part.length+(t.y.part.length+t.z.part.length)=5:=by have:=h.five;unfold be.part at this;rw[Qu,Qu]at this;exact this
 have h1:=(bJ t.x).txt;have h2:=(bJ t.y).txt;have h3:=(bJ t.z).txt;unfold be.txt;simp only[Qu,QK,Ro];lia
theorem et.ZX(h:et t):t.ZY.length<60:=by
 have e:t.x.part.length+(t.y.part.length+t.z.part.length)=5:=by have:=h.five;unfold be.part at this;rw[Qu,Qu]at this;exact this
 have h1:=(bJ t.x).ZX;have h2:=(bJ t.y).ZX;have h3:=(bJ t.z).ZX;unfold be.ZY;simp only[Qu,QK,Ro];lia
theorem et.edOk(h:et t):∀q∈t.ZY,edOk q:=by
 have e:t.x.part.length+(t.y.part.length+t.z.part.length)=5:=by have:=h.five;unfold be.part at this;rw[Qu,Qu]at this;exact this
 refine jd h.ok λo1 o2 o3=>?_;intro q hq;unfold be.ZY at hq;rw[Qz,Qz,Qz,QB]at hq;rcases hq with hq|hq|hq|rfl
 ·refine jd (uw o1 q hq) λg1 g2 g3=>?_
  exact⟨g1,g2,by lia⟩
 ·refine jd (uw o2 q hq) λg1 g2 g3=>?_
  exact⟨g1,g2,by lia⟩
 ·refine jd (uw o3 q hq) λg1 g2 g3=>?_
  exact⟨g1,g2,by lia⟩
 ·refine⟨λx hx=>?_,Tt 2,by rw[h.five];decide⟩
  have hx:x∈t.x.part++(t.y.part++t.z.part):=hx;rw[Qz,Qz]at hx;rcases hx with hx|hx|hx
  ·exact jT o1 x hx
  ·exact jT o2 x hx
  ·exact jT o3 x hx
end
section
variable{who len:Nat->Nat}
theorem j3(hw:∀x<5,who x<5)(hl:∀x,len x<3):∀{t:LT},(∀x∈t.part,x<5)->(t.Z5 who len).ok
 |.leaf x,h=>⟨hw x (h x (.head _)),hl x⟩
 |.node a b w,h=>⟨j3 hw hl λx hx=>h x (QM _ hx),j3 hw hl λx hx=>h x (Qy _ hx),hl w⟩
theorem nT(hw:∀x<5,who x<5)(hl:∀x,len x<3){a b c:LT}(h:∀t∈[a,b,c],∀x∈t.part,x<5)(h5:([a,b,c].flatMap LT.part).length=5):et (qY who len a b c):=by refine⟨⟨j3 hw hl (h a (.head _)),j3 hw hl (h b (.tail _ (.head _))),j3 hw hl (h c (.tail _ (.tail _ (.head _))))⟩,?_⟩;show((a.Z5 who len).part++((b.Z5 who len).part++(c.Z5 who len).part)).length=5;rw[fN,fN,fN];have e:[a,b,c].flatMap LT.part=a.part++(b.part++(c.part++[])):=rfl;rw[e]at h5;simp only[Qu,Qs,Ro]at h5 ⊢;exact Eq.symm ((λ{a b}=>Nat.succ_inj.mp) (QV Nat.succ (id (Eq.symm h5))))
theorem Eh:jK.all (λF=>(F.flatMap LT.part).length==5)=true:=by decide +kernel
theorem oW(hw:∀x<5,who x<5)(hl:∀x,len x<3){a b c:LT}{F:List LT}(hF:F∈jK)(hp:[a,b,c].Perm F):et (qY who len a b c):=by refine xA (mL (z:=0) dk hF true) λU h2=>?_;refine nT hw hl (λt ht=>h2 t (QM _ (hp.mem_iff.mp ht))) ?_;rw[(hp.flatMap_right _).length_eq];exact beq_iff_eq.mp (QL.mp Eh F hF)
theorem uv(hw:∀x<5,who x<5)(hl:∀x,len x<3)(b:Bool):et (bt who len b):=by
 have hp:=(vW b).part;cases b with
 |true=>exact nT hw hl hp dk
 |false=>exact nT hw hl hp dk
end
theorem q9(ed:List Ed)(i j:Nat):ba ed i j=ba ed j i:=by
 unfold ba;have e:(λq:Ed=>q.1.contains i != q.1.contains j)=λq:Ed=>q.1.contains j != q.1.contains i:=funext λq=>by cases q.1.contains i<;>cases q.1.contains j<;>rfl
 rw[e]
theorem Fo(i j:Nat):∀(ed:List Ed),(∀q∈ed,q.2<3)->ba ed i j<=2*ed.length:=by
 intro X_;induction X_ with
 |nil=>intro _;exact QO _
 |cons q ed IH=>
  intro h;have ih:=IH λq hq=>h q (.tail _ hq);have hq:=h q (.head _);unfold ba at ih ⊢;rw[Sc];split
  ·rw[QW,Ry,QK];lia
  ·rw[QK];lia
section
variable(T:a6)(c:Cx)
structure NQ(O:St)(e:PySem.Expr)(iss:List (List Int)):Prop where
 run:∀{w:World}{A:Around}{ZV:Env}{Hy:Heap}{ms₀ as:List Addr}{s:Shared}{Q:Ω}{E:Ω},
  ∀(ok:aD c ZV)(tp:T.Tp w Hy)(R:aZ c.n A)(JE:aC w c.wr ZV c.names Hy ms₀ as O s.heap)(q:∀(D:Addr)(gs:List Addr)(n:Nat)(s':Shared),ao s s'->gs.length=iss.length->(D::gs).Nodup->(∀a∈D::gs,s.heap.get? a=none)->s'.heap.get? D=some (aQ "list" (gs.map .ref) n)->
   (∀ms,∀q∈gs.zip iss,iU w (less s'.heap ms) s'.heap q.1 (.list (q.2.map .int)))->(∀a∈D::gs,∃o,s'.heap.get? a=some o)->Q (.ref D) s'),wpAny (model P0 w) A (eval e ZV) Q E s
end
theorem sq{p:D->Bool}{f:D->D}{g:D->St}{iss:List (List Int)}(JS:It T c O JU iter items)(hn:n'<=c.n)(KR:Ω7 scope c)(JV:(scope.names.map (·.1)).Nodup)(J9:fr.length=fs.length)(JR:Ω6 c O fi fr fs)(K3:Ω5 .free fr scope)(KE:Ω5 .cell wr' scope)(nd:(own++fr).Nodup)(J1:scope.kind=.function)(hsz:items.length<=sizeLine)(hs:Ω4 iter)(hT:∀d∈items,∀Wj,Wj=own.map (λU=>Slot.no)++fs.map .val\/(∃d'∈items,Wj=g d')->Tg ⟨n',aP scope c.sc,own++fr,wr'⟩ Wj JU d (g d))(hb:∀d∈items,dc T ⟨n',aP scope c.sc,own++fr,wr'⟩ (g d) KD (p d))(he:∀d∈items,p d=true->IF true T ⟨n',aP scope c.sc,own++fr,wr'⟩ (g d) J4 (f d))(K4:∀d∈items,∃ds,f d=.list ds)(hd:(items.filter p).map f=iss.map λis=>.list (is.map .int)):
  NQ T c O (.ListComp J4 [⟨JU,iter,KD,0⟩] scope pos) iss:=by
 constructor;intros;rw[eval_ListComp];refine mz (b:=true) (use:=none) JS.toP hn KR JV J9 JR K3 KE nd J1 hsz hs hT hb he (λU=>K4) ok tp R JE λs' D C ml vs n a hD hC MU hl Z4 Ze KH nw=>⟨ml,Ze,λUF Uu=>?_⟩;refine xA (nw rfl) λYr Pz=>?_;obtain⟨gs,rfl⟩:∃gs:List Addr,vs=gs.map .ref:=by
  clear Yr Z4 hl nw;induction vs with
  |nil=>exact⟨[],rfl⟩
  |cons v vs ih=>refine ay (Pz v (.head _)) λa zE U=>?_;subst zE;refine xE (ih λu hu=>Pz u (.tail _ hu)) λgs U=>?_;subst U;exact⟨a::gs,rfl⟩
 have WJ:gs.Nodup:=by rw[List.nodup_iff_pairwise_ne,List.pairwise_map]at Yr;exact Yr.imp λh z=>h (QV _ z)
 have YS:∀a∈gs,s.heap.get? a=none:=λa ha=>by refine ay (Pz _ (Sf ha)) λb e h=>?_;obtain rfl:=Sn e;exact h
 rw[hd]at Z4;have PA:gs.length=iss.length:=by have:=Z4.length;simpa using this
 have L9:∀a∈gs,a≠D/\∃vs n,s'.heap.get? a=some (aQ "list" vs n):=λa ha=>by
  obtain⟨i,hi⟩:=Tz (Sf (f:=Value.ref) ha);refine ay (Z4.back hi) λd JX rv=>?_;refine ay (QR.mp (Rj JX)) λds WH U=>?_;subst U;refine dK.el (RV.inv rv) λU U U zE e U=>?_;obtain rfl:=Sn zE
  ·rw[ab]at e
   exact⟨λz=>e.1 (z▸QH),⟨_,_,e.2⟩⟩
 have XK:∀a∈D::gs,a≠C:=λa ha z=>by
  subst z;rcases Qw.mp ha with z|z
  ·exact MU z.symm
  ·obtain⟨_,v,n,h⟩:=L9 _ z
   refine jy Ze λo'' es ep Lg K0 U=>?_;rw[h]at Lg;obtain rfl:=QG Lg;contradiction
 have k5:∀b,b≠C->∀o,s'.heap.get? b=some o->UF.get? b=some o:=λb hb o e=>(Uu.2 b hb).trans e;have MK:=CJ (w:=w) (ms':=[]) Z4;refine q D gs n { s' with heap:=UF } ⟨λb o e=>k5 b (dQ e hC) _ (a.keep b o e),a.gens,a.drawn,a.os⟩ PA (QY.mpr ⟨λz=>(L9 D z).1 rfl,WJ⟩) (λb hb=>?_) (k5 D (XK D (.head _)) _ hl) (λms q' hq=>?_) λb hb=>?_
 ·rcases Qw.mp hb with z|z
  ·rw[z];exact hD
  ·exact YS b z
 ·exact nY.el (MK q' hq) λvs n e1 e2=>⟨vs,n,k5 _ (XK _ (QA _ (Ta hq).1)) _ e1,nI e2⟩
 ·rcases Qw.mp hb with z|z
  ·rw[z];exact⟨_,k5 D (XK D (.head _)) _ hl⟩
  ·obtain⟨_,v,n,h⟩:=L9 _ z
   exact⟨_,k5 b (XK b hb) _ h⟩
theorem aC.hideL{ZV:Env}{ms₀ as:List Addr}{gs:List Addr}(ok:aD c ZV)(JE:aC w c.wr ZV c.names Hy ms₀ as O s.heap)(Uf:ao s HX)(hn:∀a∈gs,s.heap.get? a=none)(ha:∀a∈gs,∃o,HX.heap.get? a=some o):
  aC w c.wr ZV c.names (Lake.W.under c.wr ZV as HX.heap) (gs++ms₀) as O HX.heap/\∀b o,Hy.get? b=some o->(Lake.W.under c.wr ZV as HX.heap).get? b=some o:=by
 refine xA ((JE.grow Uf.keep).under) λKd up=>?_;refine b9.el JE.ex λUQ UA UG=>?_;have F:=UA.grow Uf.keep;have hb:∀b∈gs,b∉ZV.locals::((c.wr.filterMap λx=>ZV.cells.lookup x)++as):=λb hb z=>by
  have hl:=dY UA (hn b hb);rcases Qw.mp z with z|z
  ·exact hl.2.1 z
  ·rcases Qz.mp z with z|z
   ·exact ay (Rn.mp z) λx hx hc=>hl.2.2 x _ ((ok.kindOf x).trans (ok.wrc x hx)) hc rfl
   ·refine xE (JE.have _ (Qy _ z)) λo e=>?_
    rw[hn b hb]at e;exact nS e
 refine⟨⟨⟨UQ,⟨F.ns,F.cell,F.has,F.apart,F.off,λb o e=>TH _ e,Sm _ (QH),λx hx cl hc=>Sm _ (QA _ (QM _ (Rn.mpr ⟨x,hx,hc⟩)))⟩,?_⟩,Kd.nd,Kd.new,λb hb'=>?_,JE.loc⟩,up⟩
 ·refine ar.off (λb o U z=>?_) (λb U o e=>Uf.keep _ _ e) (Z 5) UG
  rw[ab]at z ⊢;refine⟨λy=>?_,Uf.keep _ _ z.2⟩;rw[QQ]at y;rcases Qz.mp y with y|y
  ·rw[hn b y]at z;cases z.2
  ·exact z.1 y
 ·rcases Qz.mp hb' with e|hb'
  ·exact xE (ha b e) λo e'=>⟨o,RJ _ e' (hb b e)⟩
  ·exact Kd.old b hb'
theorem SV.ghs{os:List Nv}(H:SV w h ms os vs new):∀(gs:List Addr)(iss:List (List Int)),gs.length=iss.length->(∀q∈gs.zip iss,iU w (less h ms) h q.1 (.list (q.2.map .int)))->SV w h ms ((gs.zip iss).map (λq=>Nv.gh q.1 (.list (q.2.map .int)))++os) vs (gs++new)
 |[],[],_,_=>H
 |g::gs,is::iss,hl,hm=>SV.gh_ (hm (g,is) (.head _)) (SV.ghs H gs iss (Nat.succ.inj hl) λq hq=>hm q (.tail _ hq))
 |[],_::_,hl,_=>by contradiction
 |_::_,[],hl,_=>by contradiction
theorem sp{iss:List (List Int)}{K:List Nv->Prop}(h:NQ T c O e iss)(h':∀(D:Addr)(gs:List Addr),gs.length=iss.length->yl T c O es (λos=>K (.own D (.list (gs.map .ref))::((gs.zip iss).map (λq=>Nv.gh q.1 (.list (q.2.map .int)))++os))))(he:Ω2 e es):yl T c O (e::es) K:=by
 constructor;intros;refine args_cons (h.run ok tp R JE λD gs n Ug Uh PA WJ hn hD MK Zf=>?_) (he ZV);refine xA (JE.hideL ok Uh hn Zf) λUo up=>?_;refine(h' D gs PA).run (ms₀:=((D::gs)++ms₀)) ok (T.keeps _ _ _ tp up) R Uo (λvs Ui new os hk Uj nd fr sv=>?_) pos;have XE:∀a∈D::gs,a∉new:=λa ha z=>by refine xE (Zf a ha) λo e=>?_;rw[fr a z]at e;exact nS e
 have sv':SV w Ui.heap (ms₀++as++(D::(gs++new))) os vs new:=SV.keep (aT λb hb=>by
  simp only[Qz,Qw]at hb ⊢;rcases hb with(hb|hb)|(hb|hb|hb)
  ·exact .inl (.inl (.inr hb))
  ·exact .inl (.inr hb)
  ·exact .inl (.inl (.inl (.inl hb)))
  ·exact .inl (.inl (.inl (.inr hb)))
  ·exact .inr hb) (λU U U e=>e) sv
 refine q (.ref D::vs) Ui (D::(gs++new)) _ hk (Uh.trans Uj) ?_ (λa ha=>?_) ⟨⟨rfl,rfl⟩,⟨_,n,Uj.keep _ _ hD,CG gs⟩,SV.ghs sv' gs iss PA λq' hq=>?_⟩
 ·rw[<-RY,TC]
  exact⟨WJ,nd,λa ha b hb z=>XE a ha (z▸hb)⟩
 ·have ha':a∈D::gs\/a∈new:=by
   rcases Qw.mp ha with z|z
   ·exact .inl (z▸QH)
   ·rcases Qz.mp z with z|z
    ·exact .inl (QA _ z)
    ·exact .inr z
  rcases ha' with z|z
  ·exact hn a z
  ·cases q:s.heap.get? a with
   |none=>rfl
   |some o=>have:=Uh.keep _ _ q;rw[fr a z]at this;exact nS this
 ·exact nY.el (MK [] q' hq) λvs' n' e1 e2=>⟨vs',n',Uj.keep _ _ e1,nI e2⟩
theorem oK(i:Nat){ZV:Env}{ms₀ as:List Addr}{Q:Unit->Shared->Prop}(hr:Ev T c O o (.ref a))(hx:c.names[i]? = some x)(hd:O[i]? = some (.mu a (.list ds)))(hi:Ev T c O slice (.int (k:Int)))(hk:k<ds.length)(h2:(k:Int)<2^63)(ok:aD c ZV)(tp:T.Tp w Hy)(R:aZ c.n A)(JE:aC w c.wr ZV c.names Hy ms₀ as O s.heap)(rv:RV (less s.heap (ms₀++as)) d v)(q:∀s',aC w c.wr ZV c.names Hy ms₀ as (O.set i (.mu a (.list (ds.set k d)))) s'.heap->bP s s'->am (less s.heap (ms₀++as)) (less s'.heap (ms₀++as))->Q () s'):wpAny (model P0 w) A (assign (.Subscript o slice p2) ZV v) Q E s:=by
 rw[assign_Subscript];refine GA (RL (hr.run ok tp R JE λov HX Uf ro=>?_));obtain⟨_,rfl⟩:=ro.inv;have Uk:=JE.grow Uf.keep;refine GA (RL (hi.run ok tp R Uk λiv Ug Uh ri=>?_));cases ri with|int _ t=>?_
 have Um:=Uk.grow Uh.keep;refine nY.el (cV Um hx hd) λvs n KC JL=>?_;have af:=Uf.trans Uh;refine GA (Tv (GA (RL (nM KC h2 (by rw[JL.length];exact hk) λh' n' Lc MG=>wpAny_release ?_))));have m:=nq (o':=.list (ds.set k d)) Um hx hd MG ⟨_,_,Lc,JL.set k (rv.mono (ai (ms:=ms₀++as) af.keep))⟩;exact q _ m.1 (af.same.trans ⟨rfl,rfl,rfl⟩) ((ai (ms:=ms₀++as) af.keep).trans m.2)
theorem nW(i j:Nat){x y:Str}{o1 s1 o2 s2 e:PySem.Expr}{q1 q2 tp p:Pos}{kt:Nat}{a b:Addr}{ds es:List D}{d1 d2:D}{k l:Nat}(h:Ev T c O e (.tup [d1,d2]))(Y5:Ev T c O o1 (.ref a))(hx:c.names[i]? = some x)(hd:O[i]? = some (.mu a (.list ds)))(Xo:Ev T c O s1 (.int (k:Int)))(hk:k<ds.length)(Wy:(k:Int)<2^63)(hr2:Ev T c (O.set i (.mu a (.list (ds.set k d1)))) o2 (.ref b))(hy:c.names[j]? = some y)(PO:(O.set i (.mu a (.list (ds.set k d1))))[j]? = some (.mu b (.list es)))(Xp:Ev T c (O.set i (.mu a (.list (ds.set k d1)))) s2 (.int (l:Int)))(hl:l<es.length)(K7:(l:Int)<2^63)(hs:∀ZV,swapsWithSole [.Tuple [.Subscript o1 s1 q1,.Subscript o2 s2 q2] kt tp] e p.line ZV=pure false)(hw:∀ZV,aD c ZV->swappedStores [.Tuple [.Subscript o1 s1 q1,.Subscript o2 s2 q2] kt tp] e ZV=pure none)(X6:∀ZV,assignEach [.Subscript o1 s1 q1,.Subscript o2 s2 q2] ZV=[(false,assign (.Subscript o1 s1 q1) ZV),(false,assign (.Subscript o2 s2 q2) ZV)])(hp:P .next ((O.set i (.mu a (.list (ds.set k d1)))).set j (.mu b (.list (es.set l d2))))):W1 T c O (.Assign [.Tuple [.Subscript o1 s1 q1,.Subscript o2 s2 q2] kt tp] e p) P:=by
 constructor;intro w A ZV Hy ms₀ as s Q E ok Kv R JE q;refine Assign_Tuple (h.run ok Kv R JE λv HX Uf rv=>?_) (hs ZV) (hw ZV ok);obtain⟨t,ot,vs,n,rfl,hg,J8,JM,JL⟩:=rv.inv;have Kc:=ab.mp hg;refine wpAny_assign_Tuple R.handled (items:=vs.toArray) ⟨_,Kc.2,J8,n,JM⟩ (by rw[X6 ZV,QJ];exact JL.length.symm) (by rw[X6 ZV];rfl) λh' KN=>?_;have Uh:=Uf.trans (cD KN);have k₂:=(cD KN).keep;refine cq.el JL.Z0 λv1 U U=>?_;subst U;intro r1 JL;refine cq.el JL.Z0 λv2 U U=>?_;subst U;intro r2 JL;obtain rfl:=JL.Z3;rw[X6 ZV];have Um:=JE.grow Uh.keep;have r1:=r1.mono (ai (ms:=ms₀++as) k₂);have r2:=r2.mono (ai (ms:=ms₀++as) k₂);refine assignInOrder_cons (oK i (d:=d1) Y5 hx hd Xo hk Wy ok Kv R Um r1 λUi Uo Ut V4=>?_);exact assignInOrder_cons (oK j (d:=d2) hr2 hy PO Xp hl K7 ok Kv R Uo (r2.mono V4) λUn UH U0 Wg=>assignInOrder_nil (q .next .next _ as Un hp UH (Uh.same.trans (Ut.trans U0)) trivial))
theorem nV(i:Nat){o:Slot}(h:Ev T c O e d)(hx:c.names[i]? = some x)(ho:O[i]? = some o)(hm:o.ZW=false)(hk:b8 c x=true)(hs:∀ZV,aD c ZV->swapsWith e (some (.Name x p')) p.line ZV=pure false)(hp:P .next (O.set i (.val d))):W1 T c O (.Assign [.Name x p'] e p) P:=by
 constructor;intros;exact wpAny_Assign_Name (h.run ok tp R JE λv s' a rv=>(bU ok (JE.grow a.keep) hx ho hm hk rv λKa M0 sm U=>q .next .next _ as Ka hp M0 (a.same.trans sm) trivial)) (hs ZV ok)
noncomputable abbrev Ob:List Str:=["edges","less","words","ends","edge","place","other","fits","far","short","a","b","k","pair","way","told","low","0","1","2","3","4","5","6","7","8","9"]
abbrev cF:Cx:=⟨6,fh 80,Ob,["words","ends","edge","place","other","a","b"]⟩
def ue(E:List Ed):D:=.list ((List.range 5).map λn=>.str (aj (au E n)))
theorem yh(E:List Ed)(q:Ed)(n:Nat):au (E++[q]) n=au E n++[gN q.2 E.length (q.1.contains n)]:=by unfold au;rw[List.zipIdx_append,QU,RP];rfl
noncomputable def Ow(ps:List D)(x y:Str):D->D|.tup [.str w,nm]=>.str (w++(if kj ps nm then x else y))|_=>.none
theorem vZ:∀m∈[1,2],∀i<7,(Str.ofString "abcdegh").cps[i]? = some (gN m i true)/\(([Str.ofString "ABCDEGH",Str.ofString "klmnopq"]:List Str).getD (m-1) "").cps[i]? = some (gN m i false):=by decide +kernel
theorem Ew:(Str.ofString "abcdegh").length=7/\(Str.ofString "ABCDEGH").length=7/\(Str.ofString "klmnopq").length=7:=by decide +kernel
theorem C9{E:List Ed}{q:Ed}(hq:∀x∈q.1,x<5)(i:Nat)(hi:E.length=i):(lG ((List.range 5).map λn=>.str (aj (au E n))) bZ).map (Ow (q.1.map bE) (aj [gN q.2 i true]) (aj [gN q.2 i false]))=(List.range 5).map λn=>.str (aj (au (E++[q]) n)):=by unfold lG;rw[show bZ=(List.range 5).map bE from rfl,List.zip_map',QZ,QZ];refine Ra λn hn=>?_;show D.str (aj (au E n)++(if kj (q.1.map bE) (bE n)then _ else _))=_;unfold kj;rw[jS (Q1.mp hn) hq,yh,hi];cases q.1.contains n<;>rw[<-bq]<;>rfl
theorem JC(hE:Fn T 3 "_law_ends" [] (.list bZ)){o2 o3:Slot}(h2:O[2]? = some o2)(m2:o2.ZW=false)(h3:O[3]? = some o3)(m3:o3.ZW=false)(hp:P .next ((O.set 2 (.val (ue []))).set 3 (.val (.list bZ)))):W1 T cF O (jc (bF 80) 0) P:=
 dm (aV (ah (av (aF rfl)) (ah (yW hE dk (Z 1) rfl (Z 2)) ad)) dk)
  (cz (an (ae 2 rfl h2 m2) (an (ae 3 rfl ((QP dk).trans h3) m3) bg))) (Z 2) (λU ok=>(bo ok).trans (Z 1)) hp
theorem zX{q:Ed}{o6:Slot}(hm:q.2∈[1,2])(hi:i<7)(h4:O[4]? = some (.val (kh q)))(h5:O[5]? = some (.val (.int (i:Int))))(h6:O[6]? = some o6)(m6:o6.ZW=false)(hp:P .next (O.set 6 (.val (.str (aj [gN q.2 i false]))))):W1 T cF O (jc (c8 (bF 80) 1) 0) P:=by
 have hl:=(vZ q.2 hm i hi).2;have XM:((i:Nat):Int)<2^63:=ey hi dk;have e1:∀p1 p2 kk p3,Ev T cF O (.Subscript (.Name "edge" p1) (.Constant (.int 1) kk p2) p3) (.int ((q.2:Nat):Int)):=λp1 p2 kk p3=>aI (aa 4 h4) ag (aH (k:=1) (j:=1) rfl rfl dk dk);simp only[Qw,Q3,or_false]at hm;rcases hm with hm|hm
 ·rw[hm]at hl e1 hp
  refine ak 6 (d:=.str (aj [gN 1 i false])) (aI (aI (av (aF (ds:=[.str "ABCDEGH",.str "klmnopq"]) rfl)) (Ev.to (bu (e1 _ _ _ _) ag) (d':=.int 0) rfl) (aH (j:=0) rfl rfl dk dk)) (aa 5 h5) (lW (j:=i) (Ew.2.1▸cO i 7 hi) hl fk XM)) h6 m6 hp
 ·rw[hm]at hl e1 hp
  refine ak 6 (d:=.str (aj [gN 2 i false])) (aI (aI (av (aF (ds:=[.str "ABCDEGH",.str "klmnopq"]) rfl)) (Ev.to (bu (e1 _ _ _ _) ag) (d':=.int 1) rfl) (aH (j:=1) rfl rfl dk dk)) (aa 5 h5) (lW (j:=i) (Ew.2.2▸cO i 7 hi) hl fk XM)) h6 m6 hp
theorem zY(hZ:Bl T "zip" (.type "zip")){E:List Ed}{q:Ed}(hE:E.length=i)(hm:q.2∈[1,2])(hq:∀x∈q.1,x<5)(hi:i<7)(h2:O[2]? = some (.val (ue E)))(h3:O[3]? = some (.val (.list bZ)))(h4:O[4]? = some (.val (kh q)))(h5:O[5]? = some (.val (.int (i:Int))))(h6:O[6]? = some (.val (.str (aj [gN q.2 i false]))))(hp:P .next (O.set 2 (.val (ue (E++[q]))))):W1 T cF O (jc (c8 (bF 80) 1) 1) P:=by
 have hl:=(vZ q.2 hm i hi).1;have XM:((i:Nat):Int)<2^63:=ey hi dk;have Ma:[4,5,6].map (λi=>(cF.names[i]?,O[i]?))=([("edge" : Str),"place","other"].zip [kh q,.int (i:Int),.str (aj [gN q.2 i false])]).map λq=>(some q.1,some (Slot.val q.2)):=by simp only[QW,Tq,h4,h5,h6];rfl
 have Kh:∀d∈lG ((List.range 5).map λn=>D.str (aj (au E n))) bZ,∃n,n<5/\d=.tup [.str (aj (au E n)),bE n]:=λd hd=>by unfold lG at hd;rw[show bZ=(List.range 5).map bE from rfl,List.zip_map',QZ]at hd;refine ay (QR.mp hd) λn hn U=>?_;subst U;exact⟨n,Q1.mp hn,rfl⟩
 refine nV 2 (se (own:=["word","name"]) (fr:=["edge","place","other"]) (wr':=[]) (fi:=[4,5,6]) (fs:=[kh q,.int (i:Int),.str (aj [gN q.2 i false])]) (items:=lG ((List.range 5).map λn=>.str (aj (au E n))) bZ) (p:=λU=>true) (f:=Ow (q.1.map bE) (aj [gN q.2 i true]) (aj [gN q.2 i false]))
  (g:=λd=>match d with|.tup [x,y]=>[.val x,.val y,.val (kh q),.val (.int (i:Int)),.val (.str (aj [gN q.2 i false]))]|_=>[]) (n':=5)
  (zD hZ (aa 2 h2) (aa 3 h3)) dk dk dk rfl Ma dk dk dk (Z 1) (by unfold lG;rw[Qs,TE,Qs];exact QC (TD _ _) dk) (Z 5) ?_ (λU U=>aw) ?_) rfl h2 rfl (Z 1) (λU ok=>(di ok).trans (Z 1)) ?_
 ·intro t ht Wj hσ
  refine ay (Kh t ht) λn hn U=>?_;subst U;obtain⟨o,o',rfl,g1,g2⟩:=j8 (fs:=[.val (kh q),.val (.int (i:Int)),.val (.str (aj [gN q.2 i false]))]) hσ λd' JX=>by refine ay (Kh d' JX) λn U U=>?_;subst U;exact⟨_,_,rfl⟩
  exact cz (an (ae 0 rfl rfl g1) (an (ae 1 rfl rfl g2) bg))
 ·intro t ht _
  refine ay (Kh t ht) λn hn U=>?_;subst U;refine eR (aa 0) (Ev.to (fx (b:=kj (q.1.map bE) (bE n)) (d:=.str (aj [gN q.2 i true])) (d':=.str (aj [gN q.2 i false])) (aE (aa 1) (aI (aa 2) ag (aH (k:=0) (j:=0) rfl rfl dk dk)) (d5 (k:=1) (k':=1) (kr hn) (ij hq) dk))
   (λU=>aI aA (aa 3) (lW (j:=i) (Ew.1▸cO i 7 hi) hl fk XM)) (λU=>aa 4)) (by cases kj (q.1.map bE) (bE n)<;>rfl)) ?_
  have hw:(aj (au E n)).length=i:=by rw[aM];unfold au;rw[Qs,Tu];exact hE
  have h1:∀b:Bool,(if b=true then aj [gN q.2 i true]else aj [gN q.2 i false]).length=1:=λb=>by cases b<;>rfl
  rw[hw,h1];exact QC (ST (RE hi) 1) dk
 ·rw[RD.mpr (Z 5),C9 hq i hE];exact hp
def vg(ZX:List Ed)(ls w:D)(o4 o5 o6:Slot)(rest:St):St:=.val (.list (ZX.map kh))::.val ls::.val w::.val (.list bZ)::o4::o5::o6::rest
noncomputable def H5:D->Bool|.list [_,.int m]=>decide (m>0)&&true|_=>false
theorem CF(ZX:List Ed):((ZX.map kh).filter H5).map id=(aG ZX).map kh:=by rw[Ua,SM];congr 1;refine R1 λq U=>?_;show(decide (((q.2:Nat):Int)>0)&&true)=_;rw[So];exact decide_eq_decide.mpr (by exact Int.natCast_pos)
inductive NS(ZX:List Ed)(ls:D)(rest:St)(i:Nat)(O:St):Prop
 |mk (o4 o5 o6:Slot) (m4:o4.ZW=false) (m5:o5.ZW=false) (m6:o6.ZW=false) (e:O=vg ZX ls (ue ((aG ZX).take i)) o4 o5 o6 rest):NS ZX ls rest i O
theorem zW(hEn:Bl T "enumerate" (.type "enumerate"))(hZ:Bl T "zip" (.type "zip")){ZX:List Ed}(H:d3 ZX)(Kf:∀q∈ZX,edOk q)(JF:ZX.length<60){ls:D}{o4 o5 o6:Slot}{rest:St}(m4:o4.ZW=false)(m5:o5.ZW=false)(m6:o6.ZW=false)(hp:∀o4 o5 o6:Slot,o4.ZW=false->o5.ZW=false->o6.ZW=false->P .next (vg ZX ls (ue (aG ZX)) o4 o5 o6 rest)):W1 T cF (vg ZX ls (ue []) o4 o5 o6 rest) (jc (bF 80) 1) P:=by
 refine eA (eC hEn (Ev.to (bW (own:=["edge"]) (fr:=[]) (wr':=[]) (fi:=[]) (fs:=[]) (items:=ZX.map kh) (p:=H5) (f:=id) (g:=λd=>[.val d]) (n':=5)
   (bb (aa 0) rfl) dk dk dk rfl rfl dk dk dk (Z 1) (by rw[Qs];exact QC (RE JF) dk) (Z 5) ?_ ?_ ?_) (QV D.list (CF ZX))))
  (gp (NS ZX ls rest) ?_ ?_ ⟨o4,o5,o6,m4,m5,m6,rfl⟩) (Z 5)
 ·intro d hd Wj hσ
  refine ay (bL (fs:=[]) hσ λd' JX=>⟨_,rfl⟩) λo U g=>?_;subst U;exact ae 0 rfl rfl g
 ·intro d hd
  refine ay (QR.mp hd) λq U U=>?_;subst U;exact ci (aE (aI (aa 0) ag (aH (k:=1) (j:=1) rfl rfl dk dk)) ag jk) (λU=>aw)
 ·intro d hd _
  exact aa 0
 ·rintro O ⟨o4,o5,o6,h4,h5,h6,rfl⟩
  rw[dz,Qs,Tj];exact hp _ _ _ h4 h5 h6
 ·rintro i d O hd ⟨o4,o5,o6,h4,h5,h6,rfl⟩
  refine ay (gc hd) λy hy U=>?_;subst U;rw[QX]at hy;refine ay (RF.mp hy) λq hq U=>?_;subst U;have ZI:=(Q0.mp hq).1;have hi:i<7:=RS ZI H.len;have ZJ:=Rj hq;have hm:=H.pm q ZJ;have hq5:=(Kf q (Q8.mp ZJ).1).1;have YJ:((aG ZX).take i).length=i:=by rw[Ru,Tb (RE ZI)]
  have P6:(aG ZX).take (i+1)=(aG ZX).take i++[q]:=by rw[Sj,hq];rfl
  refine⟨_,cz (an (ae 5 rfl rfl h5) (an (ae 4 rfl rfl h4) bg)),?_⟩;refine ac (zX hm hi rfl rfl rfl h6 ?_);refine ac (zY hZ YJ hm hq5 hi rfl rfl rfl rfl rfl ?_);exact aL ⟨_,_,_,rfl,rfl,rfl,by rw[P6];rfl⟩
def yp(T:a6):Prop:=∀(a b:List Nat)(m:Int),a.length<=60->b.length<=60->(∀x∈a,x<128)->(∀x∈b,x<128)->Fn T 5 "_levenshtein_distance" [.str (aj a),.str (aj b),.int m] (.int (lev a b m))
theorem EE:∀m∈[1,2],∀i<7,∀b:Bool,gN m i b<128:=by decide +kernel
theorem rf{ZX:List Ed}(H:d3 ZX)(n:Nat):(au (aG ZX) n).length<=7/\∀x∈au (aG ZX) n,x<128:=by
 refine⟨by unfold au;rw[Qs,Tu];exact H.len,λx hx=>?_⟩;obtain⟨⟨q,i⟩,hq,rfl⟩:=QR.mp hx;have h1:=List.mem_zipIdx hq;have h2:=List.mem_zipIdx' hq;have J6:i<(aG ZX).length:=by lia
 refine EE q.2 (H.pm q ?_) i (RS J6 H.len) _;rw[h2.2];exact RH _
theorem Fp(E:List Ed)(hn:n<5):((List.range 5).map λn=>D.str (aj (au E n)))[n]? = some (.str (aj (au E n))):=by rw[QX,RX hn];rfl
theorem gH(i:Nat){E:List Ed}(hn:n<5)(h:O[i]? = some (.val (ue E)))(hc:FP c i "words" = true)(he:Ev T c O e (.int (n:Int)))(hs:∀o i,subscripted e false o i=operate [o,i] (getItem o i):=by intros;rfl):Ev T c O (.Subscript (.Name "words" p1) e p3) (.str (aj (au E n))):=
 aI (aa i h hc) he (aH (j:=n) (cO n _ (by rw[Qs];exact hn)) (Fp E hn) fk (ey hn dk)) hs
theorem Ce(hL:yp T)(hS:Bl T "str" (.type "str")){ZX:List Ed}(H:d3 ZX){ls:D}{o4 o5 o6 o7:Slot}{rest:St}(m7:o7.ZW=false)(hp:P .next (vg ZX ls (ue (aG ZX)) o4 o5 o6 (.val (.bool true)::rest))):
  W1 T cF (vg ZX ls (ue (aG ZX)) o4 o5 o6 (o7::rest)) (jc (bF 80) 2) P:=by
 refine xA (zU H 0) λt1 t2=>?_;refine xA (rf H 0) λw1 w2=>?_;have w3:((au (aG ZX) 0).drop 1++(au (aG ZX) 0).take 1).length<=60:=by rw[Qu,Rg,Ru];lia
 have w4:∀x∈(au (aG ZX) 0).drop 1++(au (aG ZX) 0).take 1,x<128:=λx hx=>by
  rcases Qz.mp hx with h|h
  ·exact w2 x (Su h)
  ·exact w2 x (RQ h)
 have hlv:=λm=>hL (au (aG ZX) 0) _ m (QC w1 dk) w3 w2 w4;refine ak 7 (d:=.bool true) (Ev.to (dM (bW (own:=["bound"]) (fr:=["words"]) (wr':=[]) (fi:=[2]) (fs:=[ue (aG ZX)]) (items:=[.int 8,.int 0]) (p:=λU=>true) (f:=λd=>match d with|.int k=>.str (toString (lev (au (aG ZX) 0) ((au (aG ZX) 0).drop 1++(au (aG ZX) 0).take 1) k))|_=>.none) (g:=λd=>[.val d,.val (ue (aG ZX))]) (n':=5)
   (mY (aV (aF rfl) dk) rfl) dk dk dk rfl rfl dk dk dk (Z 1) dk (Z 5) ?_ (λU U=>aw) ?_) (av (aF (ds:=[.str "4",.str "1"]) rfl)) (vF (k:=3) (k':=3) ?_ ?_ dk) rfl) (QV D.bool ?_)) rfl m7 hp
 ·intro d hd Wj hσ
  refine ay (bL (fs:=[.val (ue (aG ZX))]) hσ λd' JX=>⟨_,rfl⟩) λo U g=>?_;subst U;exact ae 0 rfl rfl g
 ·intro d hd _
  have JX:∃k:Int,(k=8\/k=0)/\d=.int k:=by
   simp only[Qw,Q3,or_false]at hd;rcases hd with rfl|rfl
   ·exact⟨8,.inl rfl,rfl⟩
   ·exact⟨0,.inr rfl,rfl⟩
  refine ay JX λk hk U=>?_;subst U;have hz:(aj (au (aG ZX) 0)).length<=sizeLine:=QC w1 dk;have Wy:(lev (au (aG ZX) 0) ((au (aG ZX) 0).drop 1++(au (aG ZX) 0).take 1) k).natAbs.log2<1920:=by
   rcases hk with rfl|rfl
   ·rw[t1];decide
   ·rw[t2];decide
  refine bh hS rfl (ji Wy) (ah (bk (hlv k) (ah (gH 1 (n:=0) dk rfl (Z 1) ag)
   (ah (Ev.to (eR (bK (gH 1 (n:=0) dk rfl (Z 1) ag) (.int ag) .no hz) (bK (gH 1 (n:=0) dk rfl (Z 1) ag) .no (.int ag) hz) ?_) (QV D.str ?_)) (ah (aa 0) ad)))) ad)
  ·rw[show Txt.slice (aj (au (aG ZX) 0)) (some 1) none=aj ((au (aG ZX) 0).drop 1)from wt _ 1,wq,aM,aM,Rg,Ru]
   exact QC (m:=14) (by lia) dk
  ·rw[show Txt.slice (aj (au (aG ZX) 0)) (some 1) none=aj ((au (aG ZX) 0).drop 1)from wt _ 1,wq,bq]
 ·show i9 3 (.list [D.str (toString (lev (au (aG ZX) 0) ((au (aG ZX) 0).drop 1++(au (aG ZX) 0).take 1) 8)),D.str (toString (lev (au (aG ZX) 0) ((au (aG ZX) 0).drop 1++(au (aG ZX) 0).take 1) 0))])=true
  rw[t1,t2];decide +kernel
 ·decide +kernel
 ·show PyData.eqv (D.list [D.str (toString (lev (au (aG ZX) 0) ((au (aG ZX) 0).drop 1++(au (aG ZX) 0).take 1) 8)),D.str (toString (lev (au (aG ZX) 0) ((au (aG ZX) 0).drop 1++(au (aG ZX) 0).take 1) 0))]).py _=true
  rw[t1,t2];decide +kernel
theorem k9{l r:PySem.Expr}(ha:Ev T c O l (.list ds))(hb:Ev T c O r (.int k))(hsz:ds.length*k<=2^20)(hk:k<=1000):oI T c O (.BinOp l .Mult r p) (.list (List.replicate k ds).flatten):=by
 constructor;intros;refine wpAny_BinOp (ha.run ok tp R JE λx HX Uf rx=>?_);refine hb.run ok tp R (JE.grow Uf.keep) λy Ug Uh ry=>?_;have rx:=rx.mono (ai (ms:=ms₀++as) Uh.keep);refine dK.el rx.inv λa vs n U hg JL=>?_;subst U;refine RV.intK ry λu U=>?_;subst U;have Um:=(JE.grow Uf.keep).grow Uh.keep;have ho:=(ab.mp hg).2;have hl:vs.toArray.size*((k:Int)).toNat<=2^24:=by rw[QJ,JL.length,RO];exact QC hsz dk
 refine EJ (items:=vs.toArray) (k:=n) ho (by exact s6) (by lia) hl ?_;rw[listMul_foldl_if,RO];have hn:s.heap.get? Ug.heap.objs.size=none:=by
  rcases q:s.heap.get? Ug.heap.objs.size with _|o
  ·rfl
  ·exact absurd (Rx (Uh.keep _ _ (Uf.keep _ _ q))) (Ts _)
 refine q _ _ ((Uf.trans Uh).trans az) hn ⟨(List.replicate k vs).flatten,0,dC rfl,(JL.rep k).mono λb o U e=>?_⟩;rw[ab]at e ⊢;refine⟨λz=>?_,QF _ e.2⟩;rcases Qw.mp z with z|z
 ·have:=e.2;rw[z,aK (QO _)]at this;exact nS this
 ·exact e.1 z
noncomputable def eZ(M:Nat->Nat->Int)(i:Nat):List D:=(List.range 5).map λj=>.int (M i j)
noncomputable def jV(G:Nat->Addr):List D:=(List.range 5).map λi=>.ref (G i)
def AK(ZX:List Ed)(ls:D)(o4 o5 o6 o7:Slot)(F S:Addr)(oa ob ok op ow ot ol:Slot)(G H:Nat->Addr)(M N:Nat->Nat->Int):St:=
 vg ZX ls (ue (aG ZX)) o4 o5 o6 (o7::.mu F (.list (jV G))::.mu S (.list (jV H))::oa::ob::ok::op::ow::ot::ol::((List.range 5).map λi=>Slot.mu (G i) (.list (eZ M i)))++(List.range 5).map λi=>Slot.mu (H i) (.list (eZ N i)))
theorem Cg{ZX:List Ed}{ls:D}{o4 o5 o6 o7 oa ob ok op ow ot ol:Slot}(hp:∀(F S:Addr)(G H:Nat->Addr),P .next (AK ZX ls o4 o5 o6 o7 F S oa ob ok op ow ot ol G H (λU U=>0) (λU U=>0))):
  W1 T cF (vg ZX ls (ue (aG ZX)) o4 o5 o6 (o7::.no::.no::oa::ob::ok::op::ow::ot::ol::List.replicate 10 .no)) (jc (bF 80) 3) P:=by
 have f1:(((List.range 5).map λn=>D.str (aj (au (aG ZX) n))).filter (λU=>true)).map (λU=>D.list (List.replicate 5 [D.int 0]).flatten)=(List.replicate 5 ([0,0,0,0,0]:List Int)).map λis=>.list (is.map .int):=rfl;have hT1:∀(sc:Scope),b8 ⟨5,aP sc cF.sc,["word"],[]⟩ "word" = true->∀d∈(List.range 5).map λn=>D.str (aj (au (aG ZX) n)),∀Wj,Wj=([("word" : Str)].map (λU=>Slot.no))++([]:List D).map .val\/(∃d'∈(List.range 5).map λn=>D.str (aj (au (aG ZX) n)),Wj=[Slot.val d'])->∀p,Tg ⟨5,aP sc cF.sc,["word"],[]⟩ Wj (.Name "word" p) d [.val d]:=λsc hs d hd Wj hσ p=>by refine ay (bL (fs:=[]) hσ λd' JX=>⟨_,rfl⟩) λo U g=>?_;subst U;exact ae 0 rfl rfl g hs
 refine bz (n:=2) (ns:=["far","short"]) (sp (iss:=List.replicate 5 ([0,0,0,0,0]:List Int)) (sq (own:=["word"]) (fr:=[]) (wr':=[]) (fi:=[]) (fs:=[]) (items:=(List.range 5).map λn=>.str (aj (au (aG ZX) n))) (p:=λU=>true) (f:=λU=>.list (List.replicate 5 [D.int 0]).flatten) (g:=λd=>[.val d]) (n':=5)
   (bb (aa 2) rfl) dk dk dk rfl rfl dk dk dk (Z 1) (show 5<=sizeLine by decide) (Z 5) ?_ (λU U=>aw) (λU U U=>oI.b (k9 (k:=5) (av (aF rfl)) ag dk dk)) (λU U=>⟨_,rfl⟩) f1)
  (λF gs hg=>sp (iss:=List.replicate 5 ([0,0,0,0,0]:List Int)) (sq (own:=["word"]) (fr:=[]) (wr':=[]) (fi:=[]) (fs:=[]) (items:=(List.range 5).map λn=>.str (aj (au (aG ZX) n))) (p:=λU=>true) (f:=λU=>.list (List.replicate 5 [D.int 0]).flatten) (g:=λd=>[.val d]) (n':=5)
   (bb (aa 2) rfl) dk dk dk rfl rfl dk dk dk (Z 1) (show 5<=sizeLine by decide) (Z 5) ?_ (λU U=>aw) (λU U U=>oI.b (k9 (k:=5) (av (aF rfl)) ag dk dk)) (λU U=>⟨_,rfl⟩) f1)
   (λS hs hh=>gJ ?_) (Z 2)) (Z 2)) rfl dk (Z 2) (λU ok=>(bo ok).trans (Z 1))
 ·intro d hd Wj hσ
  refine ay (bL (fs:=[]) hσ λd' JX=>⟨_,rfl⟩) λo U g=>?_;subst U;exact ae 0 rfl rfl g
 ·intro d hd Wj hσ
  refine ay (bL (fs:=[]) hσ λd' JX=>⟨_,rfl⟩) λo U g=>?_;subst U;exact ae 0 rfl rfl g
 ·refine rg (five hg) λg0 g1 g2 g3 g4 U=>?_;subst U
  refine rg (five hh) λh0 h1 h2 h3 h4 U=>?_;subst U;refine⟨rfl,_,fX 26 rfl rfl rfl (Z 1) (fX 25 rfl rfl rfl (Z 1) (fX 24 rfl rfl rfl (Z 1) (fX 23 rfl rfl rfl (Z 1) (fX 22 rfl rfl rfl (Z 1) (dW 9 rfl rfl rfl (Z 1)
   (fX 21 rfl rfl rfl (Z 1) (fX 20 rfl rfl rfl (Z 1) (fX 19 rfl rfl rfl (Z 1) (fX 18 rfl rfl rfl (Z 1) (fX 17 rfl rfl rfl (Z 1) (dW 8 rfl rfl rfl (Z 1) ix))))))))))),?_⟩
  exact hp F S (λi=>[g0,g1,g2,g3,g4].getD i 0) (λi=>[h0,h1,h2,h3,h4].getD i 0)
noncomputable abbrev dH(J4 t1 i1:PySem.Expr)(J5:List PySem.Expr)(t2 i2:PySem.Expr)(J3:List PySem.Expr)(scope:Scope)(pos:Pos):PySem.Expr:=.ListComp J4 [⟨t1,i1,J5,0⟩,⟨t2,i2,J3,0⟩] scope pos
section
variable{w:World}{A:Around}{s:Shared}{J4 t1 i1 t2 i2:PySem.Expr}{J5 J3:List PySem.Expr}{scope:Scope}{pos:Pos}{it acc:Value}{ZV:Env}{R:Result->Shared->Prop}
theorem ou:compTurn (dH J4 t1 i1 J5 t2 i2 J3 scope pos) 0 it acc ZV=(do
   standAt i1.pos
   match <-pyNext it with
   |none=>pure (.done .next)
   |some v=>
    letOwnedTupleGo t1 it v
    assign t1 ZV v
    let ok <-iQ J5 ZV
    if ok then
     let x <-eval i2 ZV
     standAt i2.pos
     let x <-foldedSetIterable i2 ZV x
     let _ <-runOwn (.compStart (dH J4 t1 i1 J5 t2 i2 J3 scope pos) 1 (<-holding [x] (pyIter x)) acc ZV) ZV
    again (.compLoop (dH J4 t1 i1 J5 t2 i2 J3 scope pos) 0 it acc ZV)):=by rfl
theorem ox:compTurn (dH J4 t1 i1 J5 t2 i2 J3 scope pos) 1 it acc ZV=(do
   standAt i2.pos
   match <-pyNext it with
   |none=>pure (.done .next)
   |some v=>
    letOwnedTupleGo t2 it v
    assign t2 ZV v
    let ok <-iQ J3 ZV
    if ok then
     (do let _ <-call (.builtin "list.append") [acc,<-eval J4 ZV])
    again (.compLoop (dH J4 t1 i1 J5 t2 i2 J3 scope pos) 1 it acc ZV)):=by rfl
theorem rV(I:Nat->Shared->Prop)(turn:∀n s,I n s->∀E:Value->Shared->Prop,wpAny (model P0 w) A (pyNext it) (λr HX=>match r with
   |none=>R (.ok .next) HX
   |some v=>wpAny (model P0 w) A (letOwnedTupleGo t2 it v) (λU UX=>wpAny (model P0 w) A (assign t2 ZV v) (λU Ug=>
     wpAny (model P0 w) A (iQ J3 ZV) (λok Ui=>
      if ok=true then wpAny (model P0 w) A (eval J4 ZV) (λx Un=>
       wpAny (model P0 w) A (call (.builtin "list.append") [acc,x]) (λU UE=>∃m,m<n/\I m UE) E Un) E Ui
      else ∃m,m<n/\I m Ui) E Ug) E UX) E HX) E s)(n:Nat)(h:I n s):
  codeAny (model P0 w) A (.compLoop (dH J4 t1 i1 J5 t2 i2 J3 scope pos) 1 it acc ZV) R s:=by
 refine codeAny_loop rfl I (λn s hI=>?_) n h;show wpAny _ A ((compTurn (dH J4 t1 i1 J5 t2 i2 J3 scope pos) 1 it acc ZV).onRaise (λx=>do noteFrame x ZV;theTreesLotGoes x)) _ _ s;refine wpAny_noted ?_;rw[ox];refine GA (Tv (GA (Rt (turn n s hI _) (λr HX UY=>?_) λU U h'=>h')));rcases r with _|v
 ·exact QD UY
 ·refine GA (Rt UY (λU UX Vb=>?_) λU U h'=>h')
  refine GA (Rt Vb (λU Ug Up=>GA (Rt Up (λok Ui UI=>?_) λU U h'=>h')) λU U h'=>h');rcases ok with _|_
  ·exact QD ⟨rfl,UI⟩
  ·exact GA (GA (Rt UI (λx Un Ul=>GA (Rt Ul (λU UE UF=>QD (QD ⟨rfl,UF⟩)) λU U h'=>h')) λU U h'=>h'))
theorem qe(I:Nat->Shared->Prop)(turn:∀n s,I n s->∀E:Value->Shared->Prop,wpAny (model P0 w) A (pyNext it) (λr HX=>match r with
   |none=>R (.ok .next) HX
   |some v=>wpAny (model P0 w) A (letOwnedTupleGo t1 it v) (λU UX=>wpAny (model P0 w) A (assign t1 ZV v) (λU Ug=>
     wpAny (model P0 w) A (iQ J5 ZV) (λok Ui=>
      if ok=true then wpAny (model P0 w) A (eval i2 ZV) (λx Un=>wpAny (model P0 w) A (pyIter x) (λZg UE=>
       codeAny (model P0 w) (A.mark none) (.compStart (dH J4 t1 i1 J5 t2 i2 J3 scope pos) 1 Zg acc ZV) (λr Us=>match r with|.ok _=>∃m,m<n/\I m Us|.error ev=>cameBackBy (model P0 w) A ZV E ev Us) UE) E Un) E Ui
      else ∃m,m<n/\I m Ui) E Ug) E UX) E HX) E s)(hs:∀ZV x,foldedSetIterable i2 ZV x=pure x)(n:Nat)(h:I n s):
  codeAny (model P0 w) A (.compLoop (dH J4 t1 i1 J5 t2 i2 J3 scope pos) 0 it acc ZV) R s:=by
 refine codeAny_loop rfl I (λn s hI=>?_) n h;show wpAny _ A ((compTurn (dH J4 t1 i1 J5 t2 i2 J3 scope pos) 0 it acc ZV).onRaise (λx=>do noteFrame x ZV;theTreesLotGoes x)) _ _ s;refine wpAny_noted ?_;rw[ou];refine GA (Tv (GA (Rt (turn n s hI _) (λr HX UY=>?_) λU U h'=>h')));rcases r with _|v
 ·exact QD UY
 ·refine GA (Rt UY (λU UX Vb=>?_) λU U h'=>h')
  refine GA (Rt Vb (λU Ug Up=>GA (Rt Up (λok Ui UI=>?_) λU U h'=>h')) λU U h'=>h');rcases ok with _|_
  ·exact QD ⟨rfl,UI⟩
  ·refine GA (Rt UI (λx Un Ul=>?_) λU U h'=>h')
   rw[hs];refine GA (Tv (GA (QD (GA (RL (Rt Ul (λZg UE UF=>?_) λU U h'=>h'))))));refine GA (wpAny_runOwn (codeAny_mono UF λr Us VM=>?_));cases r with
   |ok f=>exact QD ⟨rfl,VM⟩
   |error e=>exact VM
theorem qf
  (h0:codeAny (model P0 w) A (.compLoop (dH J4 t1 i1 J5 t2 i2 J3 scope pos) 1 it acc ZV) R s)
  (h:∀E:Value->Shared->Prop,wpAny (model P0 w) A (pyIter it) (λZh s'=>codeAny (model P0 w) A (.compLoop (dH J4 t1 i1 J5 t2 i2 J3 scope pos) 1 Zh acc ZV) R s') E s) :
  codeAny (model P0 w) A (.compStart (dH J4 t1 i1 J5 t2 i2 J3 scope pos) 1 it acc ZV) R s:=by
 refine codeAny_of_tree ?_;show wpAny _ _ ((compStart (dH J4 t1 i1 J5 t2 i2 J3 scope pos) 1 it acc ZV).onRaise (λx=>do noteFrame x ZV;standAt theWindowsPlace)) _ _ s;refine wpAny_notedAt ?_;refine GA (SD (wpAny_ite ?_));split
 ·first
   |exact GA (QD (QD (And.intro rfl h0)))
   |exact QD (And.intro rfl h0)
 ·exact GA (wpAny_rule (GA (Tv (GA (Rt (h _) (λZh s' h'=>QD (And.intro rfl h')) λU U x=>x)))))
end
noncomputable def ju(items:List D)(items2:D->List D)(p:D->Bool)(p2:D->D->Bool)(f2:D->D->D):List D:=(items.filter p).flatMap λd=>((items2 d).filter (p2 d)).map (f2 d)
theorem pE{items2:D->List D}{p:D->Bool}{p2:D->D->Bool}{f2:D->D->D}(h:ds[i]? = some d):ju (ds.take (i+1)) items2 p p2 f2=ju (ds.take i) items2 p p2 f2++(if p d then((items2 d).filter (p2 d)).map (f2 d)else[]):=by unfold ju;rw[Sj,h,Option.toList_some,SP,TO];cases q:p d<;>simp[q]
theorem CC(ds:List D){items2:D->List D}{p:D->Bool}{p2:D->D->Bool}{f2:D->D->D}:(ju ds items2 p p2 f2).length<=(ds.map λd=>(items2 d).length).sum:=by
 induction ds with
 |nil=>exact QO _
 |cons d ds ih=>
  unfold ju at ih ⊢;rw[QW,Ry];rcases q:p d with _|_
  ·rw[List.filter_cons_of_neg (by rw[q];decide)];exact Nat.le_add_left_of_le ih
  ·rw[List.filter_cons_of_pos q,List.flatMap_cons,Qu,Qs]
   have:=Rp (p2 d) (items2 d)
   exact R8 this ih
theorem xJ{items2:D->List D}{p:D->Bool}{p2:D->D->Bool}{f2:D->D->D}(h:ds[i]? = some d)(hN:(ds.map λd=>(items2 d).length).sum<=N):
  (ju (ds.take i) items2 p p2 f2).length+(items2 d).length<=N:=by
 have h1:=CC (ds.take i) (items2:=items2) (p:=p) (p2:=p2) (f2:=f2);have h3:(ds.map λd=>(items2 d).length).sum=((ds.take i).map λd=>(items2 d).length).sum+((ds.drop i).map λd=>(items2 d).length).sum:=by rw[<-List.sum_append,<-QU,List.take_append_drop]
 have h4:ds.drop i=d::ds.drop (i+1):=by obtain⟨hl,e⟩:=Q0.mp h;rw[Ty hl,e]
 rw[h4,QW,Ry]at h3;lia
theorem aZ.mark(R:aZ n A):aZ n (A.mark none):=R
inductive NV(items pre:List Lake.W.D)(p:Lake.W.D->Bool)(f:Lake.W.D->Lake.W.D)(g:Lake.W.D->Lake.W.St)(w:World)(Ug Ur:Shared)(fq wr MS:List Addr)(St2:Nat->Heap->Prop)(cc:Cx)(JH:Env)(L:Addr)(σ1:Lake.W.St)(k:Nat)(s':Shared):Prop
 |mk (j:Nat) (Wj:Lake.W.St) (us:List Value) (m:Nat) (hk:k=items.length-j) (hj:j<=items.length) (hσ:Wj=σ1\/∃d'∈items,Wj=g d') (V:wM w wr MS cc JH L Ug Wj us m (pre++((items.take j).filter p).map f) s') (st:St2 j s'.heap) (kf:∀b∈fq,∀o,Ur.heap.get? b=some o->s'.heap.get? b=some o) (sk:am (less Ur.heap MS) (less s'.heap MS)):NV items pre p f g w Ug Ur fq wr MS St2 cc JH L σ1 k s'
inductive NW(items:List Lake.W.D)(items2:Lake.W.D->List Lake.W.D)(p:Lake.W.D->Bool)(p2:Lake.W.D->Lake.W.D->Bool)(f2:Lake.W.D->Lake.W.D->Lake.W.D)(g:Lake.W.D->Lake.W.St)(g2:Lake.W.D->Lake.W.D->Lake.W.St)(w:World)(Ug:Shared)(wr MS:List Addr)(St1:Nat->Heap->Prop)(cc:Cx)(JH:Env)(L:Addr)(σ0:Lake.W.St)(k:Nat)(s':Shared):Prop
 |mk (i:Nat) (Wj:Lake.W.St) (vs:List Value) (n:Nat) (hk:k=items.length-i) (hi:i<=items.length) (hσ:Wj=σ0\/(∃d'∈items,Wj=g d'\/∃d''∈items2 d',Wj=g2 d' d'')) (V:wM w wr MS cc JH L Ug Wj vs n (ju (items.take i) items2 p p2 f2) s') (st:St1 i s'.heap):NW items items2 p p2 f2 g g2 w Ug wr MS St1 cc JH L σ0 k s'
theorem yG{t1 i1 t2 i2 J4:PySem.Expr}{items pre:List D}{p:D->Bool}{f:D->D}{g:D->St}{s Ug Ur:Shared}{old fq fp wr pv OL MS wr2:List Addr}{St2:Nat->Heap->Prop}{cc:Cx}{I L:Addr}{σ0 σ1:St}{Y:Result->Shared->Prop}(en:ce T w s Ug old wr pv OL MS cc JH L Ul σ0)(wk:Wk w A t2 I fp wr2 (less Ur.heap MS) items St2)(st:St2 0 Ur.heap)(R:aZ cc.n A)(V:wM w wr MS cc JH L Ug σ1 vs n pre Ur)(Mv:∀a∈pv,∀h:Heap,(∀b∈fq,∀o,Ur.heap.get? b=some o->h.get? b=some o)->∃o,h.get? a=some o)(hT:∀d∈items,∀Wj,(Wj=σ1\/∃d'∈items,Wj=g d')->Tg cc Wj t2 d (g d))(hb:∀d∈items,dc T cc (g d) J3 (p d))(he:∀d∈items,p d=true->Ev T cc (g d) J4 (f d))(Y6:∀b o,b∉wr->Ug.heap.get? b=some o->b∉wr2)(Y7:∀b∈fq,b∉wr2)(fqP:∀b∈fq,∃o,Ur.heap.get? b=some o/\bI o=true)(fqL:L∉fq)(X7:L∉wr2)(fpL:L∉fp)(hsz:pre.length+items.length<=sizeLine)(Ks:∀s' Wj us m,(Wj=σ1\/∃d'∈items,Wj=g d')->wM w wr MS cc JH L Ug Wj us m (pre++(items.filter p).map f) s'->(∀b∈fq,∀o,Ur.heap.get? b=some o->s'.heap.get? b=some o)->Y (.ok .next) s'):
  codeAny (model P0 w) A (.compLoop (dH J4 t1 i1 J5 t2 i2 J3 scope pos) 1 (.ref I) (.ref L) JH) Y Ur:=by
 refine rV (I:=NV items pre p f g w Ug Ur fq wr MS St2 cc JH L σ1) ?_ (items.length-0)
  ⟨0,_,vs,n,rfl,Rh _,.inl rfl,by simpa using V,st,λb U o e=>e,.refl _⟩
 rintro k s' ⟨j,Wj,us,m,rfl,hj,hσ,V',Ko,kf,sk⟩ E';by_cases J6:j<items.length
 ·have Ph:items[j]? = some items[j]:=QE J6
  generalize items[j]=d at Ph;have JN:d∈items:=Rj Ph;refine wk.turn Ph Ko λv Un hv UN mv=>?_;have Uy:rp wr Ug.heap Un.heap:=λb o hb e=>mv.keep b o (Y6 b o hb e) (V'.kp b o hb e);have UZ:=mv.keep _ _ X7 V'.hD;have Vj:∀b∈fq,∀o,Ur.heap.get? b=some o->Un.heap.get? b=some o:=λb hb o e=>mv.keep _ _ (Y7 b hb) (kf b hb o e);have Vc:jh w cc.wr JH cc.names MS Wj Un.heap:=V'.rc.step en.dIn (λb o hf U e=>mv.keep b o (λhb=>by rw[wk.Z2 j _ Ko b hb o e]at hf;exact fT hf) e) (en.Z7 Uy ⟨_,UZ⟩ λa ha=>Mv a ha _ Vj) ⟨_,V'.hD,rfl⟩;have U3:=en.tpU _ Uy;have ZK:=(mv.recOnly (wk.Z2 j _ Ko)).less (ms:=MS);refine(hT d JN Wj hσ).run (as:=[]) en.okC R Vc.rel (by rw[QN];exact hv _ (sk.trans ZK) (en.Z7 V'.kp ⟨_,V'.hD⟩ λa ha=>Mv a ha _ kf)) λUE UL Vd UJ=>?_;refine(hb d JN).run (as:=[]) en.okC U3 R UL λUs Uw=>?_;have UC:=UL.grow Uw.keep;have UO:rp wr Ug.heap Us.heap:=λb o hb e=>by refine b9.el UC.ex λm F S=>?_;exact F.keep b o (en.und _ b o (.inl (by rw[e];rfl)) (Uy b o hb e))
  have U4:Us.heap.get? L=some (aQ "list" us m):=Uw.keep _ _ (UJ.list UZ);have UR:St2 (j+1) Us.heap:=wk.frame _ _ _ UN λb hb o e=>by refine ay (wk.plain _ _ UN b hb) λo' e' hk=>?_;rw[e]at e';obtain rfl:=QG e';exact Uw.keep _ _ (UJ b o hk e)
  have VN:∀b∈fq,∀o,Ur.heap.get? b=some o->Us.heap.get? b=some o:=λb hb o e=>by refine ay (fqP b hb) λo' e' hk=>?_;rw[e]at e';obtain rfl:=QG e';exact Uw.keep _ _ (UJ b o hk (Vj b hb o e))
  have Vk:am (less s'.heap MS) (less Us.heap MS):=(ZK.trans UJ.less).trans (ai Uw.keep);have Ve:bP Ug Us:=((V'.sm.trans mv.same).trans Vd).trans Uw.same;have P7:=V'.Z4.mono Vk;have Vk:=sk.trans Vk;rcases hp:p d with _|_
  ·rw[Q5 dk]
   refine⟨items.length-(j+1),by exact SR items.length j J6,j+1,g d,us,m,rfl,J6,.inr ⟨d,JN,rfl⟩,⟨UC.core,U4,?_,UO,Ve⟩,UR,VN,Vk⟩;rw[fS Ph,hp];simpa using P7
  ·rw[Rb rfl]
   refine(he d JN hp).run (as:=[]) en.okC U3 R UC λy V5 UU ry=>?_;rw[QN]at ry;have Yy:us.toArray.size<=sizeLine:=by have e1:=P7.length;have e2:((items.take j).filter p).length<=(items.take j).length:=Rp _ _;rw[Qu,Qs]at e1;rw[QJ];rw[Ru]at e2;lia
   refine wpAny_list_append_plain (hsz:=Yy) ⟨m,UU.keep _ _ U4⟩ λUS J0 MT=>?_;refine xE J0 λVf UT=>?_;have UT:US.get? L=some (aQ "list" (us++[y]) Vf):=by rw[UT];simp[aQ]
   have Vg:rp wr Ug.heap US:=λb o hb e=>(MT.2 b (λz=>by rw[z,en.dNew]at e;exact nS e)).trans (UU.keep _ _ (UO b o hb e));have U6:am (less V5.heap MS) (less US MS):=λa o U e=>by rw[ab]at e ⊢;exact⟨e.1,(MT.2 a λz=>e.1 (z▸en.dIn)).trans e.2⟩
   have VO:∀b∈fq,∀o,Ur.heap.get? b=some o->US.get? b=some o:=λb hb o e=>(MT.2 b λz=>fqL (z▸hb)).trans (UU.keep _ _ (VN b hb o e));refine⟨items.length-(j+1),by exact SR items.length j J6,j+1,g d,us++[y],Vf,rfl,J6,.inr ⟨d,JN,rfl⟩,⟨?_,UT,?_,Vg,(Ve.trans UU.same).trans ⟨rfl,rfl,rfl⟩⟩,?_,VO,Vk.trans ((ai UU.keep).trans U6)⟩
   ·exact(UC.grow UU.keep).core.step en.dIn (λb o U hb e=>(MT.2 b hb).trans e) (en.Z7 Vg ⟨_,UT⟩ λa ha=>Mv a ha _ VO) ⟨_,UU.keep _ _ U4,rfl⟩
   ·rw[fS Ph,hp,Rb rfl,<-QQ]
    exact((P7.mono (ai UU.keep)).mono U6).app (.cons (ry.mono U6) .nil)
   ·exact wk.frame _ _ _ UR λb hb o e=>(MT.2 b λz=>fpL (z▸hb)).trans (UU.keep _ _ e)
 ·have hj:j=items.length:=by exact D7 hj J6
  subst hj;refine wk.done s' _ _ Ko λUn mv=>?_;have Uy:rp wr Ug.heap Un.heap:=λb o hb e=>mv.keep b o (Y6 b o hb e) (V'.kp b o hb e);have Vj:∀b∈fq,∀o,Ur.heap.get? b=some o->Un.heap.get? b=some o:=λb hb o e=>mv.keep _ _ (Y7 b hb) (kf b hb o e);have P7:=V'.Z4;rw[Tj]at P7;exact Ks Un Wj us m hσ ⟨V'.rc.step en.dIn (λb o hf U e=>mv.keep b o (λhb=>by rw[wk.Z2 _ _ Ko b hb o e]at hf;exact fT hf) e) (en.Z7 Uy ⟨_,mv.keep _ _ X7 V'.hD⟩ λa ha=>Mv a ha _ Vj) ⟨_,V'.hD,rfl⟩,mv.keep _ _ X7 V'.hD,P7.mono (mv.recOnly (wk.Z2 _ _ Ko)).less,Uy,V'.sm.trans mv.same⟩ Vj
theorem ur{t1 i1 t2 i2 J4:PySem.Expr}{items2:D->List D}{p:D->Bool}{p2:D->D->Bool}{f2:D->D->D}{g:D->St}{g2:D->D->St}{old fp wr pv OL MS:List Addr}{St1:Nat->Heap->Prop}{cc:Cx}{I L:Addr}{X:Result->Shared->Prop}(en:ce T w s Ug old wr pv OL MS cc JH L Ul σ0)(wk:Bm w A t1 I fp wr pv (less Ug.heap OL) items St1)(st:St1 0 Ug.heap)(R:aZ cc.n A)(hsz:(items.map λd=>(items2 d).length).sum<=sizeLine)(Kp:∀ZV x,foldedSetIterable i2 ZV x=pure x)(hT:∀d∈items,∀Wj,(Wj=σ0\/(∃d'∈items,Wj=g d'\/∃d''∈items2 d',Wj=g2 d' d''))->Tg cc Wj t1 d (g d))(hb:∀d∈items,dc T cc (g d) J5 (p d))(L5:∀d∈items,It T cc (g d) t2 i2 (items2 d))(Pm:∀d∈items,∀d'∈items2 d,∀Wj,(Wj=g d\/∃d''∈items2 d,Wj=g2 d d'')->Tg cc Wj t2 d' (g2 d d'))(Wz:∀d∈items,∀d'∈items2 d,dc T cc (g2 d d') J3 (p2 d d'))(he:∀d∈items,∀d'∈items2 d,p2 d d'=true->Ev T cc (g2 d d') J4 (f2 d d'))(Ks:∀s' ml vs n,rp wr Ug.heap s'.heap->bP Ug s'->s'.heap.get? L=some (aQ "list" vs n)->aX (less s'.heap MS) (ju items items2 p p2 f2) vs->s'.heap.Ns JH.locals ml->ml "_headers" = none->X (.ok .next) s')(U2:Ui.heap=Ul)(Ut:bP Ug Ui):
  codeAny (model P0 w) A (.compLoop (dH J4 t1 i1 J5 t2 i2 J3 scope pos) 0 (.ref I) (.ref L) JH) X Ui:=by
 subst U2;refine qe (I:=NW items items2 p p2 f2 g g2 w Ug wr MS St1 cc JH L σ0) ?_ Kp (items.length-0)
  ⟨0,_,[],0,rfl,Rh _,.inl rfl,⟨en.rc,en.hD,.nil,λb o U e=>en.k₂ b o e,Ut⟩,wk.frame _ _ _ st λb U o e=>en.k₂ b o e⟩
 rintro k s' ⟨i,Wj,vs,n,rfl,hi,hσ,V,Ko⟩ E';have WR:L∉fp:=λhb=>by refine ay (wk.plain 0 _ st _ hb) λo' e' U=>?_;rw[en.dNew]at e';exact nS e'
 have MM:L∉wr:=λhb=>WR (wk.sub _ hb);have Mv:∀i(h:Heap),St1 i h->∀a∈pv,∃o,h.get? a=some o:=λi h st a ha=>by refine ay (wk.priv i h st a ha) λo e U=>?_;exact⟨o,e⟩
 by_cases J6:i<items.length
 ·have KZ:items[i]? = some items[i]:=QE J6
  generalize items[i]=d at KZ;have JN:d∈items:=Rj KZ;refine wk.turn KZ Ko λv Un hv UN mv=>?_;have Uy:rp wr Ug.heap Un.heap:=λb o hb e=>mv.keep b o hb (V.kp b o hb e);have UZ:=mv.keep _ _ MM V.hD;have Vc:jh w cc.wr JH cc.names MS Wj Un.heap:=V.rc.stepL (Xs:=L::pv) (λX hX=>by
    rcases Qw.mp hX with z|z
    ·exact z▸en.dIn
    ·exact en.olIn _ (en.pvIn _ z))
   (λb o hf hX e=>mv.keep b o (λhb=>by rw[wk.Z2 i _ Ko b hb (λz=>hX (QA _ z)) o e]at hf;exact fT hf) e) (en.Z7 Uy ⟨_,UZ⟩ (Mv _ _ UN)) (λX hX=>by
    rcases Qw.mp hX with z|z
    ·exact z▸⟨_,V.hD,rfl⟩
    ·exact wk.priv i _ Ko X z)
  have U3:=en.tpU _ Uy;refine(hT d JN Wj hσ).run (as:=[]) en.okC R Vc.rel (by rw[QN];exact hv _ (en.gKeep (wk.Z2 0 _ st) Uy) (en.Z7 V.kp ⟨_,V.hD⟩ (Mv _ _ Ko))) λUE UL Vd UJ=>?_;refine(hb d JN).run (as:=[]) en.okC U3 R UL λUs Uw=>?_;have UC:=UL.grow Uw.keep;have UO:rp wr Ug.heap Us.heap:=λb o hb e=>by refine b9.el UC.ex λm F S=>?_;exact F.keep b o (en.und _ b o (.inl (by rw[e];rfl)) (Uy b o hb e))
  have UR:St1 (i+1) Us.heap:=wk.frame _ _ _ UN λb hb o e=>by refine ay (wk.plain _ _ UN b hb) λo' e' hk=>?_;rw[e]at e';obtain rfl:=QG e';exact Uw.keep _ _ (UJ b o hk e)
  have U5:wM w wr MS cc JH L Ug (g d) vs n (ju (items.take i) items2 p p2 f2) Us:=⟨UC.core,Uw.keep _ _ (UJ.list UZ),V.Z4.mono (((en.mvSeq (wk.Z2 i _ Ko) mv).trans UJ.less).trans (ai Uw.keep)),UO,((V.sm.trans mv.same).trans Vd).trans Uw.same⟩;rcases hp:p d with _|_
  ·rw[Q5 dk]
   refine⟨items.length-(i+1),by exact SR items.length i J6,i+1,g d,vs,n,rfl,J6,.inr ⟨d,JN,.inl rfl⟩,?_,UR⟩;rw[pE KZ,hp];simpa using U5
  ·rw[Rb rfl]
   refine(L5 d JN).run (as:=[]) en.okC (en.tpU _ UO) R U5.rc.rel λWh V6 V7 Wi Ur UD V8 VP U8 Va=>?_;have U8:=U8 (A.mark none) (R.less (Rh _)).mark;rw[QN]at U8 VP;have VQ:∀b o,Us.heap.get? b=some o->b∉V7:=λb o e hb=>by rw[V8 b hb]at e;exact nS e
   have W8:L∉V6:=λhb=>VP _ hb en.dIn;have VG:St1 (i+1) Ur.heap:=wk.frame _ _ _ UR λb hb o e=>UD.keep _ _ e;refine(λgW=>qf gW λE''=>U8.self 0 _ _ _ Va gW) ?_;refine yG (fq:=fp) en U8 Va R.mark (V:=⟨(U5.rc.rel.grow UD.keep).core,UD.keep _ _ U5.hD,U5.Z4.mono (ai UD.keep),λb o hb e=>UD.keep _ _ (U5.kp b o hb e),U5.sm.trans UD.same⟩)
     (λa ha h kf=>Mv (i+1) h (wk.frame _ _ _ VG kf) a ha) (Pm d JN) (Wz d JN) (he d JN) (λb o hb e=>VQ b o (UO b o hb e)) (λb hb=>?_) (λb hb=>wk.plain _ _ VG b hb) WR (λhb=>W8 (U8.sub _ hb)) W8 (xJ KZ hsz)
     (λs' σ'' us m Ys V'' kf=>⟨items.length-(i+1),by exact SR items.length i J6,i+1,σ'',us,m,rfl,J6,.inr ⟨d,JN,Ys⟩,?_,wk.frame _ _ _ VG kf⟩)
   ·exact ay (wk.plain _ _ UR b hb) λo e U=>VQ b o e
   ·rw[pE KZ,hp,Rb rfl]
    exact V''
 ·have hi:i=items.length:=by exact D7 hi J6
  subst hi;refine wk.done s' _ _ Ko λUn mv=>?_;obtain⟨m,⟨ml,hn,hl,KH⟩,hc,S⟩:=V.rc.ex;have Z4:=V.Z4;rw[Tj]at Z4;exact Ks Un ml vs n (λb o hb e=>mv.keep b o hb (V.kp b o hb e)) (V.sm.trans mv.same) (mv.keep _ _ MM V.hD) (Z4.mono (en.mvSeq (wk.Z2 _ _ Ko) mv)) (hn.at' λo e=>mv.keep _ o (λhb=>by refine ay (wk.plain 0 _ st _ (wk.sub _ hb)) λo' e' U=>?_;rw[en.lNew]at e';exact nS e') e) KH
theorem uq{t1 i1 t2 i2 J4:PySem.Expr}{items2:D->List D}{p:D->Bool}{p2:D->D->Bool}{f2:D->D->D}{g:D->St}{g2:D->D->St}(JS:It T c O t1 i1 items)(hn:n'<=c.n)(KR:Ω7 scope c)(JV:(scope.names.map (·.1)).Nodup)(J9:fr.length=fs.length)(JR:Ω6 c O fi fr fs)(K3:Ω5 .free fr scope)(KE:Ω5 .cell wr' scope)(nd:(own++fr).Nodup)(J1:scope.kind=.function)(hsz:(items.map λd=>(items2 d).length).sum<=sizeLine)(hs:∀ZV x,foldedSetIterable i1 ZV x=pure x)(Kp:∀ZV x,foldedSetIterable i2 ZV x=pure x)(hT:∀d∈items,∀Wj,(Wj=own.map (λU=>Slot.no)++fs.map .val\/(∃d'∈items,Wj=g d'\/∃d''∈items2 d',Wj=g2 d' d''))->Tg ⟨n',aP scope c.sc,own++fr,wr'⟩ Wj t1 d (g d))(hb:∀d∈items,dc T ⟨n',aP scope c.sc,own++fr,wr'⟩ (g d) J5 (p d))(L5:∀d∈items,It T ⟨n',aP scope c.sc,own++fr,wr'⟩ (g d) t2 i2 (items2 d))(Pm:∀d∈items,∀d'∈items2 d,∀Wj,(Wj=g d\/∃d''∈items2 d,Wj=g2 d d'')->Tg ⟨n',aP scope c.sc,own++fr,wr'⟩ Wj t2 d' (g2 d d'))(Wz:∀d∈items,∀d'∈items2 d,dc T ⟨n',aP scope c.sc,own++fr,wr'⟩ (g2 d d') J3 (p2 d d'))(he:∀d∈items,∀d'∈items2 d,p2 d d'=true->Ev T ⟨n',aP scope c.sc,own++fr,wr'⟩ (g2 d d') J4 (f2 d d')){ZV:Env}{ms₀ as:List Addr}{use:Option (Value->Sem Unit)}(ok:aD c ZV)(tp:T.Tp w Hy)(R:aZ c.n A)(JE:aC w c.wr ZV c.names Hy ms₀ as O s.heap)(Ks:∀s' D C ml vs n,ao s s'->s.heap.get? D=none->s.heap.get? C=none->D≠C->s'.heap.get? D=some (aQ "list" vs n)->aX (less s'.heap (D::(ms₀++as))) (ju items items2 p p2 f2) vs->s'.heap.Ns C ml->ml "_headers" = none->compPost (model P0 w) A E use Q (.ref D) C (.ok .next) s'):
  wpAny (model P0 w) A (comprehension (dH J4 t1 i1 J5 t2 i2 J3 scope pos) scope ZV pz0 (newList []) false (eval i1 ZV) use) Q E s:=by
 refine mD JS.toP hn KR JV J9 JR K3 KE nd J1 hs ok tp R JE λI fp wr pv OL MS St Ug D Ul JH en ms wk st Ui U2 Ut=>?_;refine ur en wk st (R.less hn) hsz Kp hT hb L5 Pm Wz he (λs' ml vs n kp sm hD Z4 hn KH=>?_) U2 Ut;refine Ks s' D JH.locals ml vs n ⟨λb o e=>en.keep kp e,sm.gens.trans en.after.gens,sm.drawn.trans en.after.drawn,sm.os.trans en.after.os⟩ (jL en.after en.dNew) (jL en.after en.lNew) en.loc hD (Z4.mono λa o U e=>?_) hn KH;rw[ab]at e ⊢;refine⟨λz=>e.1 ?_,e.2⟩;rcases Qw.mp z with z|z
 ·exact z▸en.dIn
 ·exact en.olIn _ (en.oldIn _ z)
theorem sd{t1 i1 t2 i2 J4:PySem.Expr}{items2:D->List D}{p:D->Bool}{p2:D->D->Bool}{f2:D->D->D}{g:D->St}{g2:D->D->St}(JS:It T c O t1 i1 items)(hn:n'<=c.n)(KR:Ω7 scope c)(JV:(scope.names.map (·.1)).Nodup)(J9:fr.length=fs.length)(JR:Ω6 c O fi fr fs)(K3:Ω5 .free fr scope)(KE:Ω5 .cell wr' scope)(nd:(own++fr).Nodup)(J1:scope.kind=.function)(hsz:(items.map λd=>(items2 d).length).sum<=sizeLine)(hs:∀ZV x,foldedSetIterable i1 ZV x=pure x)(Kp:∀ZV x,foldedSetIterable i2 ZV x=pure x)(hT:∀d∈items,∀Wj,(Wj=own.map (λU=>Slot.no)++fs.map .val\/(∃d'∈items,Wj=g d'\/∃d''∈items2 d',Wj=g2 d' d''))->Tg ⟨n',aP scope c.sc,own++fr,wr'⟩ Wj t1 d (g d))(hb:∀d∈items,dc T ⟨n',aP scope c.sc,own++fr,wr'⟩ (g d) J5 (p d))(L5:∀d∈items,It T ⟨n',aP scope c.sc,own++fr,wr'⟩ (g d) t2 i2 (items2 d))(Pm:∀d∈items,∀d'∈items2 d,∀Wj,(Wj=g d\/∃d''∈items2 d,Wj=g2 d d'')->Tg ⟨n',aP scope c.sc,own++fr,wr'⟩ Wj t2 d' (g2 d d'))(Wz:∀d∈items,∀d'∈items2 d,dc T ⟨n',aP scope c.sc,own++fr,wr'⟩ (g2 d d') J3 (p2 d d'))(he:∀d∈items,∀d'∈items2 d,p2 d d'=true->Ev T ⟨n',aP scope c.sc,own++fr,wr'⟩ (g2 d d') J4 (f2 d d')):
  Ev T c O (dH J4 t1 i1 J5 t2 i2 J3 scope pos) (.list (ju items items2 p p2 f2)):=by
 constructor;intros;rw[eval_ListComp];refine uq (use:=none) JS hn KR JV J9 JR K3 KE nd J1 hsz hs Kp hT hb L5 Pm Wz he ok tp R JE λs' D C ml vs n a hD hC MU hl Z4 hn KH=>⟨ml,hn,λUF Uu=>q _ _ ⟨λb o e=>?_,a.gens,a.drawn,a.os⟩ ?_⟩
 ·exact(Uu.2 b (dQ e hC)).trans (a.keep b o e)
 ·have JO:D∉ms₀++as:=λz=>by refine xE (JE.have _ z) λo e=>?_;rw[hD]at e;exact nS e
  refine .list (vs:=vs) (n:=n) ?_ (Z4.mono λa o qs e=>?_)
  ·rw[ab]
   exact⟨JO,(Uu.2 _ MU).trans hl⟩
  ·rw[ab]at e ⊢
   refine⟨λz=>e.1 (QA _ z),(Uu.2 a λz=>?_).trans e.2⟩;subst z
   have:=dS qs
   rw[eL hn KH e.2]at this;exact fF this

theorem ar.forget{as:List Addr}(e:O[i]? = some (.val d))(H:ar w h ms m xs O as):ar w h ms m xs (O.set i .no) as:=
 H.ind (P:=λxs O as=>∀i,O[i]? = some (.val d)->ar w h ms m xs (O.set i .no) as) (λU U e=>by contradiction)
  (λy xs r as ih H i e=>by cases i with|zero=>cases e|succ i=>exact ih i e)
  (λy xs d' v r as hv rv ih H i e=>by cases i with|zero=>exact H|succ i=>exact⟨⟨v,hv,rv⟩,ih i e⟩)
  (λy xs b o r as hu mr ih H i e=>by cases i with|zero=>cases e|succ i=>exact⟨⟨rfl,hu⟩,mr,ih i e⟩) i e
theorem aC.forget{ZV:Env}{names:List Str}{ms₀ as:List Addr}(i:Nat)(e:O[i]? = some (.val d))(R:aC w wr ZV names Hy ms₀ as O h):aC w wr ZV names Hy ms₀ as (O.set i .no) h:=by exact b9.el R.ex λm F S=>⟨⟨m,F,S.forget e⟩,R.nd,R.new,R.old,R.loc⟩
theorem pS(i:Nat)(h:Tg c O JU d Wj)(e:Wj[i]? = some (.val d')):Tg c O JU d (Wj.set i .no):=by constructor;intro w A ZV Hy ms₀ as s v Q E ok R JE rv q;exact h.run ok R JE rv λs' JY sm pk=>q s' (JY.forget i e) sm pk
theorem vJ{x y:PySem.Expr}{a b:Bool}(hx:Ev T c O x (.bool a))(hy:a=true->Ev T c O y (.bool b)):Ev T c O (.BoolOp .And [x,y] p) (.bool (a&&b)):=by
 constructor;intros;refine BoolOp_and (hx.run ok tp R JE λv HX Uf rv=>(j6 (b:=a)).run w A HX _ v _ E rv λUg Uh=>?_);rcases a with _|_
 ·exact q _ _ (Uf.trans Uh) (rv.mono (ai Uh.keep))
 ·exact BoolOp_one ((hy rfl).run ok tp R (JE.grow (Uf.trans Uh).keep) λv Ui Uj rv=>q _ _ ((Uf.trans Uh).trans Uj) rv)
noncomputable def eY:List (Nat×Nat):=[(0,1),(0,2),(0,3),(0,4),(1,2),(1,3),(1,4),(2,3),(2,4),(3,4)]
noncomputable def IK(p:Nat×Nat):D:=.list [.int p.1,.int p.2]
noncomputable def fj:D->Int|.int a=>a|_=>0
theorem xK:ju (rng 0 5) (λd=>rng (fj d+1) 5) (λU=>true) (λU U=>true) (λd d'=>.list [d,d'])=eY.map IK:=by rfl
theorem nH{a b:Int}(h:d∈rng a b):∃k:Nat,d=.int (a+k)/\a+k<b:=by refine ay (QR.mp h) λk hk U=>?_;subst U;exact⟨k,rfl,by have:=Q1.mp hk;lia⟩
theorem GQ(hR:Ω8 T)(he:e=(match jc (bF 80) 4 with|.For _ (.Call _ [e] _ _) _ _ _=>e|_=>.Constant .none 0 ⟨0,0,0,0⟩)):Ev T cF O e (.list (eY.map IK)):=by
 subst he;refine Ev.to (sd (own:=["a","b"]) (fr:=[]) (wr':=[]) (fi:=[]) (fs:=[]) (items:=rng 0 5) (items2:=λd=>rng (fj d+1) 5) (p:=λU=>true) (p2:=λU U=>true) (f2:=λd d'=>.list [d,d']) (g:=λd=>[.val d,.no]) (g2:=λd d'=>[.val d,.val d']) (n':=5)
  (dO hR ag rfl dk dk) dk dk dk rfl rfl dk dk dk (Z 1) dk (Z 5) (Z 5) ?_ (λU U=>aw) ?_ ?_ (λU U U U=>aw) ?_) (QV D.list xK)
 ·rintro d hd Wj hσ
  rcases hσ with rfl|⟨d',_,rfl|⟨d'',_,rfl⟩⟩
  ·exact ae 0 rfl rfl rfl
  ·exact ae 0 rfl rfl rfl
  ·exact pS 1 (ae 0 rfl rfl rfl) rfl
 ·intro d hd
  refine ay (nH hd) λk U hk=>?_;subst U;exact kE hR (bH (aa 0) ag) ag rfl (by exact Tf (2^62) (0+k+1)) (by show(0+(k:Int))+1<2^62;lia) dk dk
 ·rintro d hd d' JX Wj hσ
  rcases hσ with rfl|⟨d'',_,rfl⟩
  ·exact ae 1 rfl rfl rfl
  ·exact ae 1 rfl rfl rfl
 ·intro d hd d' JX _
  exact av (ah (aa 0) (ah (aa 1) ad)) (show 2<=sizeLine by decide)
def bS(k:Nat):Stmt:=jc (c8 (bF 80) 4) k
theorem GP{a b:Nat}{oa ob:Slot}(KG:O[13]? = some (.val (IK (a,b))))(ha:O[10]? = some oa)(ma:oa.ZW=false)(hb:O[11]? = some ob)(mb:ob.ZW=false)(hp:P .next ((O.set 10 (.val (.int a))).set 11 (.val (.int b)))):W1 T cF O (bS 0) P:=
 dm (aa 13 KG) (j2 (an (ae 10 rfl ha ma) (an (ae 11 rfl ((QP dk).trans hb) mb) bg))) (Z 2) (λU ok=>(bo ok).trans (Z 1)) hp
noncomputable def Fm(a b:Nat):D->Bool|.list [.list ps,_]=>(!PyData.eqv (D.bool (kj ps (bE a))).py (D.bool (kj ps (bE b))).py)&&true|_=>false
noncomputable def IC:D->D|.list [_,m]=>m|_=>.none
theorem Bc{ZX:List Ed}(Kf:∀q∈ZX,edOk q){a b:Nat}(ha:a<5)(hb:b<5):((ZX.map kh).filter (Fm a b)).map IC=((ZX.filter λq=>q.1.contains a != q.1.contains b).map λq=>((q.2:Nat):Int)).map D.int:=by
 rw[SM,QZ,QZ];have e:ZX.filter (Fm a b∘kh)=ZX.filter λq=>q.1.contains a != q.1.contains b:=R1 λq hq=>by show((!PyData.eqv (D.bool (kj (q.1.map bE) (bE a))).py (D.bool (kj (q.1.map bE) (bE b))).py)&&true)=_;unfold kj;rw[rN,So,jS ha (Kf q hq).1,jS hb (Kf q hq).1]
 rw[e];rfl
theorem AS(l:List Ed):(l.map λq=>((q.2:Nat):Int)).sum=(((l.map (·.2)).sum:Nat):Int):=by
 induction l with
 |nil=>rfl
 |cons q l ih=>rw[QW,Ry,ih,QW,Ry];exact Int.ofNat_add_ofNat q.snd (List.map (λx=>x.snd) l).sum
theorem sa{a:Nat}(ha:a<5):bZ[a]? = some (bE a):=by rw[show bZ=(List.range 5).map bE from rfl,QX,RX ha];rfl
theorem EA(Pn:Bl T "sum" (.builtin "sum")){ZX:List Ed}(Kf:∀q∈ZX,edOk q)(JF:ZX.length<60){a b:Nat}(ha:a<5)(hb:b<5){yk:Slot}(h0:O[0]? = some (.val (.list (ZX.map kh))))(h3:O[3]? = some (.val (.list bZ)))(KL:O[10]? = some (.val (.int a)))(Kt:O[11]? = some (.val (.int b)))(K6:O[14]? = some yk)(Wt:yk.ZW=false)(hp:P .next (O.set 14 (.val (.int (ba ZX a b))))):W1 T cF O (bS 1) P:=by
 have Ma:[10,11,3].map (λi=>(cF.names[i]?,O[i]?))=([("a" : Str),"b","ends"].zip [D.int a,.int b,.list bZ]).map λq=>(some q.1,some (Slot.val q.2)):=by simp only[QW,Tq,KL,Kt,h3];rfl
 refine ak 14 (d:=.int (ba ZX a b)) (Ev.to (bh Pn rfl (yx (is:=(ZX.filter λq=>q.1.contains a != q.1.contains b).map λq=>((q.2:Nat):Int))) (ah (Ev.to (bW (own:=["part","length"]) (fr:=["a","b","ends"]) (wr':=[]) (fi:=[10,11,3]) (fs:=[.int a,.int b,.list bZ]) (items:=ZX.map kh) (p:=Fm a b) (f:=IC)
   (g:=λd=>match d with|.list [x,y]=>[.val x,.val y,.val (.int a),.val (.int b),.val (.list bZ)]|_=>[]) (n':=5)
   (bb (aa 0 h0) rfl) dk dk dk rfl Ma dk dk dk (Z 1) (by rw[Qs];exact QC (RE JF) dk) (Z 5) ?_ ?_ ?_) (QV D.list (Bc Kf ha hb))) ad)) (QV D.int (AS _))) K6 Wt hp
 ·intro t ht Wj hσ
  refine ay (QR.mp ht) λq U U=>?_;subst U;obtain⟨o,o',rfl,g1,g2⟩:=j8 (fs:=[.val (.int a),.val (.int b),.val (.list bZ)]) hσ λd' JX=>by refine ay (QR.mp JX) λq U U=>?_;subst U;exact⟨_,_,rfl⟩
  exact j2 (an (ae 0 rfl rfl g1) (an (ae 1 rfl rfl g2) bg))
 ·intro t ht
  refine ay (QR.mp ht) λq hq U=>?_;subst U;have Pd:=Kf q hq;exact ci (aE (dM (aI (aa 4) (aa 2) (aH (j:=a) (cO a 5 ha) (sa ha) fk (ey ha dk))) (aa 0) (d5 (k:=1) (k':=1) (kr ha) (ij Pd.1) dk) rfl)
   (dM (aI (aa 4) (aa 3) (aH (j:=b) (cO b 5 hb) (sa hb) fk (ey hb dk))) (aa 0) (d5 (k:=1) (k':=1) (kr hb) (ij Pd.1) dk) rfl) (jE (k:=0) (k':=0) rfl rfl dk) rfl) (λU=>aw)
 ·intro t ht _
  refine ay (QR.mp ht) λq hq U=>?_;subst U;exact aa 1
theorem er{ZX:List Ed}(H:d3 ZX)(a:Nat):(au (aG ZX) a).length<=60/\∀x∈au (aG ZX) a,x<128:=⟨QC (rf H a).1 dk,(rf H a).2⟩
noncomputable def DS(way k:Nat):Int:=if k%3=0 then 8 else if k%3=1 then way else(way:Int)-1
theorem Bs(way k:Nat):([D.int 8,.int way,.int ((way:Int)-1)]:List D)[k%3]? = some (.int (DS way k)):=by
 have h:k%3=0\/k%3=1\/k%3=2:=by lia
 unfold DS;rcases h with h|h|h<;>rw[h]<;>rfl
theorem A0{ZX:List Ed}(H:d3 ZX){a b:Nat}(ha:a<5)(hb:b<5)(k:Nat):lev (au (aG ZX) a) (au (aG ZX) b) (DS (ba ZX a b) k)=(ba ZX a b:Nat):=by
 refine Fz (v5 H ha hb) λh1 h2 h3 U=>?_;unfold DS;split
 ·exact h1
 ·split
  ·exact h2
  ·exact h3
theorem Cj(hL:yp T){ZX:List Ed}(H:d3 ZX){a b k:Nat}(ha:a<5)(hb:b<5)(hk:k<10){Cy:Slot}(h2:O[2]? = some (.val (ue (aG ZX))))(KL:O[10]? = some (.val (.int a)))(Kt:O[11]? = some (.val (.int b)))(KF:O[12]? = some (.val (.int k)))(K6:O[14]? = some (.val (.int (ba ZX a b))))(Mr:O[15]? = some Cy)(Wu:Cy.ZW=false)(hp:P .next (O.set 15 (.val (.int (ba ZX a b))))):W1 T cF O (bS 2) P:=by
 have hm:Int.fmod (k:Int) 3=((k%3:Nat):Int):=cw k 3;have h3:k%3<3:=Sl _ dk;refine ak 15 (d:=.int (ba ZX a b)) (Ev.to (bk (hL (au (aG ZX) a) (au (aG ZX) b) (DS (ba ZX a b) k) (er H a).1 (er H b).1 (er H a).2 (er H b).2) (ah (gH 2 ha h2 (Z 1) (aa 10 KL)) (ah (gH 2 hb h2 (Z 1) (aa 11 Kt))
  (ah (aI (av (ah ag (ah (aa 14 K6) (ah (bu (aa 14 K6) ag) ad))) (show 3<=sizeLine by decide)) (Ev.to (c7 (aa 12 KF) ag) (QV D.int hm)) (aH (j:=k%3) (cO (k%3) 3 h3) (Bs _ k) fk (ey h3 dk))) ad)))) (QV D.int (A0 H ha hb k))) Mr Wu hp
def lz(ZX:List Ed)(ls:List Nat)(a b k:Nat):Int:=lev (au (aG ZX) b) (au (aG ZX) a) ((ba ZX a b:Nat)-1-(ls.getD k 0:Nat))
theorem Ez(hL:yp T){ZX:List Ed}(H:d3 ZX)(PP:ls.length=10){a b k:Nat}(ha:a<5)(hb:b<5)(hk:k<10){Cz:Slot}(h1:O[1]? = some (.val (.list (aU ls))))(h2:O[2]? = some (.val (ue (aG ZX))))(KL:O[10]? = some (.val (.int a)))(Kt:O[11]? = some (.val (.int b)))(KF:O[12]? = some (.val (.int k)))(K6:O[14]? = some (.val (.int (ba ZX a b))))(Ku:O[16]? = some Cz)(X3:Cz.ZW=false)(hp:P .next (O.set 16 (.val (.int (lz ZX ls a b k))))):W1 T cF O (bS 3) P:=by
 refine ak 16 (bk (hL (au (aG ZX) b) (au (aG ZX) a) _ (er H b).1 (er H a).1 (er H b).2 (er H a).2) (ah (gH 2 hb h2 (Z 1) (aa 11 Kt)) (ah (gH 2 ha h2 (Z 1) (aa 10 KL))
  (ah (bu (bu (aa 14 K6) ag) (aI (aa 1 h1) (aa 12 KF) (aH (j:=k) (cO k _ (by unfold aU;rw[Qs,PP];exact hk)) (ee (by rw[PP];exact hk)) fk (ey hk dk)))) ad)))) Ku X3 hp
theorem AP(h:k<100):((k:Nat):Int).natAbs.log2<1920:=by
 rw[Int.natAbs_natCast]
 have:∀k<100,Nat.log2 k<1920:=by decide +kernel
 exact this k h
theorem Cd(hS:Bl T "str" (.type "str")){w:Nat}(hw:w<100)(h7:O[7]? = some (.val (.bool true)))(K6:O[14]? = some (.val (.int w)))(Mr:O[15]? = some (.val (.int w)))(hp:P .next (O.set 7 (.val (.bool true)))):W1 T cF O (bS 4) P:=by refine ak 7 (d:=.bool true) (Ev.to (vJ (aa 7 h7) (λU=>dM (bh hS rfl (ji (AP hw)) (ah (aa 15 Mr) ad)) (bh hS rfl (ji (AP hw)) (ah (aa 14 K6) ad)) fu rfl)) (QV D.bool ?_)) h7 rfl hp;rw[Bool.true_and,beq_self_eq_true]
theorem Ch{v:Int}{G:Nat->Addr}{M:Nat->Nat->Int}{a b:Nat}(ha:a<5)(hb:b<5)(Mw:a≠b)(KL:O[10]? = some (.val (.int a)))(Kt:O[11]? = some (.val (.int b)))(hl:O[8]? = some (.mu F (.list (jV G))))(hv:O[15]? = some (.val (.int v)))(hr:∀i<5,O[i+17]? = some (.mu (G i) (.list (eZ M i))))(hp:P .next ((O.set (a+17) (.mu (G a) (.list ((eZ M a).set b (.int v))))).set (b+17) (.mu (G b) (.list ((eZ M b).set a (.int v)))))):W1 T cF O (bS 5) P:=by
 have nm:∀k,k<5->∃x,cF.names[k+17]? = some x:=λk hk=>by
  have:k=0\/k=1\/k=2\/k=3\/k=4:=by exact ED hk
  rcases this with rfl|rfl|rfl|rfl|rfl<;>exact⟨_,rfl⟩
 refine xE (nm a ha) λx hx=>?_;refine xE (nm b hb) λy hy=>?_;have JF:∀(M:Nat->Nat->Int)i,(eZ M i).length=5:=λM i=>by unfold eZ;rw[Qs];rfl
 have W9:∀i<5,(jV G)[i]? = some (.ref (G i)):=λi hi=>by unfold jV;rw[QX,RX hi];rfl
 have ne:∀{k:Nat},k<17->∀X,(O.set (a+17) X)[k]? = O[k]?:=λhk X=>QP (by lia);refine nW (a+17) (b+17) (d1:=.int v) (d2:=.int v) (k:=b) (l:=a) (aV (ah (aa 15 hv) (ah (aa 15 hv) ad)) (show 2<=sizeLine by decide))
  (cg 8 (bV 8 rfl hl) rfl hl (aa 10 KL) (cO a 5 ha) (W9 a ha) fk (ey ha dk) (Z 5)) hx (hr a ha) (aa 11 Kt) (by rw[JF];exact hb) (ey hb dk)
  (cg 8 (bV 8 rfl ((ne dk _).trans hl)) rfl ((ne dk _).trans hl) (aa 11 ((ne dk _).trans Kt)) (cO b 5 hb) (W9 b hb) fk (ey hb dk) (Z 5)) hy ((QP (by lia)).trans (hr b hb)) (aa 10 ((ne dk _).trans KL)) (by rw[JF];exact ha) (ey ha dk)
  (Z 2) (λU ok=>(bo ok).trans (Z 1)) (Z 2) hp
theorem Ci{v:Int}{G:Nat->Addr}{M:Nat->Nat->Int}{a b:Nat}(ha:a<5)(hb:b<5)(Mw:a≠b)(KL:O[10]? = some (.val (.int a)))(Kt:O[11]? = some (.val (.int b)))(hl:O[9]? = some (.mu F (.list (jV G))))(hv:O[16]? = some (.val (.int v)))(hr:∀i<5,O[i+22]? = some (.mu (G i) (.list (eZ M i))))(hp:P .next ((O.set (a+22) (.mu (G a) (.list ((eZ M a).set b (.int v))))).set (b+22) (.mu (G b) (.list ((eZ M b).set a (.int v)))))):W1 T cF O (bS 6) P:=by
 have nm:∀k,k<5->∃x,cF.names[k+22]? = some x:=λk hk=>by
  have:k=0\/k=1\/k=2\/k=3\/k=4:=by exact ED hk
  rcases this with rfl|rfl|rfl|rfl|rfl<;>exact⟨_,rfl⟩
 refine xE (nm a ha) λx hx=>?_;refine xE (nm b hb) λy hy=>?_;have JF:∀(M:Nat->Nat->Int)i,(eZ M i).length=5:=λM i=>by unfold eZ;rw[Qs];rfl
 have W9:∀i<5,(jV G)[i]? = some (.ref (G i)):=λi hi=>by unfold jV;rw[QX,RX hi];rfl
 have ne:∀{k:Nat},k<22->∀X,(O.set (a+22) X)[k]? = O[k]?:=λhk X=>QP (by lia);refine nW (a+22) (b+22) (d1:=.int v) (d2:=.int v) (k:=b) (l:=a) (aV (ah (aa 16 hv) (ah (aa 16 hv) ad)) (show 2<=sizeLine by decide))
  (cg 9 (bV 9 rfl hl) rfl hl (aa 10 KL) (cO a 5 ha) (W9 a ha) fk (ey ha dk) (Z 5)) hx (hr a ha) (aa 11 Kt) (by rw[JF];exact hb) (ey hb dk)
  (cg 9 (bV 9 rfl ((ne dk _).trans hl)) rfl ((ne dk _).trans hl) (aa 11 ((ne dk _).trans Kt)) (cO b 5 hb) (W9 b hb) fk (ey hb dk) (Z 5)) hy ((QP (by lia)).trans (hr b hb)) (aa 10 ((ne dk _).trans KL)) (by rw[JF];exact ha) (ey ha dk)
  (Z 2) (λU ok=>(bo ok).trans (Z 1)) (Z 2) hp
noncomputable def Ix(M:Nat->Nat->Int)(a b:Nat)(x:Int):Nat->Nat->Int:=λi j=>if i=a then(if j=b then x else M i j)else M i j
def C2(M:Nat->Nat->Int)(p:Nat×Nat)(x:Int):Nat->Nat->Int:=Ix (Ix M p.1 p.2 x) p.2 p.1 x
section
variable{ZX:List Ed}{ls:D}{o4 o5 o6 o7 oa ob ok op ow ot ol:Slot}{F S:Addr}{G H:Nat->Addr}{M N:Nat->Nat->Int}
theorem Im{a b:Nat}{v:Int}(h:(a,b)∈eY):((AK ZX ls o4 o5 o6 o7 F S oa ob ok op ow ot ol G H M N).set (a+17) (.mu (G a) (.list ((eZ M a).set b (.int v))))).set (b+17) (.mu (G b) (.list ((eZ M b).set a (.int v))))=AK ZX ls o4 o5 o6 o7 F S oa ob ok op ow ot ol G H (C2 M (a,b) v) N:=by simp only[eY,Qw,T3,Q3,or_false]at h;rcases h with⟨rfl,rfl⟩|⟨rfl,rfl⟩|⟨rfl,rfl⟩|⟨rfl,rfl⟩|⟨rfl,rfl⟩|⟨rfl,rfl⟩|⟨rfl,rfl⟩|⟨rfl,rfl⟩|⟨rfl,rfl⟩|⟨rfl,rfl⟩<;>rfl
theorem Io{a b:Nat}{v:Int}(h:(a,b)∈eY):((AK ZX ls o4 o5 o6 o7 F S oa ob ok op ow ot ol G H M N).set (a+22) (.mu (H a) (.list ((eZ N a).set b (.int v))))).set (b+22) (.mu (H b) (.list ((eZ N b).set a (.int v))))=AK ZX ls o4 o5 o6 o7 F S oa ob ok op ow ot ol G H M (C2 N (a,b) v):=by simp only[eY,Qw,T3,Q3,or_false]at h;rcases h with⟨rfl,rfl⟩|⟨rfl,rfl⟩|⟨rfl,rfl⟩|⟨rfl,rfl⟩|⟨rfl,rfl⟩|⟨rfl,rfl⟩|⟨rfl,rfl⟩|⟨rfl,rfl⟩|⟨rfl,rfl⟩|⟨rfl,rfl⟩<;>rfl
theorem AL(hi:i<5):(AK ZX ls o4 o5 o6 o7 F S oa ob ok op ow ot ol G H M N)[i+17]? = some (.mu (G i) (.list (eZ M i))):=by
 have:i=0\/i=1\/i=2\/i=3\/i=4:=by exact ED hi
 rcases this with rfl|rfl|rfl|rfl|rfl<;>rfl
theorem AM(hi:i<5):(AK ZX ls o4 o5 o6 o7 F S oa ob ok op ow ot ol G H M N)[i+22]? = some (.mu (H i) (.list (eZ N i))):=by
 have:i=0\/i=1\/i=2\/i=3\/i=4:=by exact ED hi
 rcases this with rfl|rfl|rfl|rfl|rfl<;>rfl
end
def lF(f:Nat->Nat->Nat->Int)(n:Nat):Nat->Nat->Int:=(eY.zipIdx.take n).foldl (λM q=>C2 M q.1 (f q.1.1 q.1.2 q.2)) (λU U=>0)
theorem pR{f:Nat->Nat->Nat->Int}{n a b:Nat}(h:eY[n]? = some (a,b)):lF f (n+1)=C2 (lF f n) (a,b) (f a b n):=by unfold lF;rw[Sj,List.getElem?_zipIdx,h,List.foldl_append,RP];rfl
def vh(M:Nat->Nat->Int):D:=.list ((List.range 5).map λi=>.list (eZ M i))
def fM(f:Nat->Nat->Nat->Int)(i j:Nat):Int:=if i=j then 0 else if i<j then f i j (eY.idxOf (i,j))else f j i (eY.idxOf (j,i))
theorem tK(f:Nat->Nat->Nat->Int):vh (lF f 10)=vh (fM f):=by rfl
structure FV(T:a6):Prop where
 ends:Fn T 3 "_law_ends" [] (.list bZ)
 lev:yp T
 enm:Bl T "enumerate" (.type "enumerate")
 zip:Bl T "zip" (.type "zip")
 str:Bl T "str" (.type "str")
 range:Bl T "range" (.type "range")
 sum:Bl T "sum" (.builtin "sum")
theorem E1:∀p∈eY,p.1<5/\p.2<5/\p.1≠p.2:=by decide
section
variable{c:Cx}{P:dL}{t:Env->Sem Flow}{G:Nat->Addr}{M:Nat->Nat->Int}{F:Addr}{i j:Nat}
def Cr(G:Nat->Addr)(M:Nat->Nat->Int)(m:Nat):List D:=(List.range 5).map λk=>if k<m then .list (eZ M k)else .ref (G k)
structure FZ(G:Nat->Addr)(M:Nat->Nat->Int)(F:Addr)(i j m:Nat)(Vs O:St):Prop where
 at_:O[j]? = some (.mu F (.list (Cr G M m)))
 rows:∀k,m<=k->k<5->O[i+k]? = some (.mu (G k) (.list (eZ M k)))
 rest:∀k,(k<i/\k≠j)\/i+5<=k->O[k]? = Vs[k]?
theorem ig{m:Nat}{Vs O:St}(hm:m<5)(Kl:j<i)(hn:∃x,c.names[i+m]? = some x)(hy:∃y,c.names[j]? = some y)(I:FZ G M F i j m Vs O)(h:∀Wj,FZ G M F i j (m+1) Vs Wj->WT T c Wj t P):WT T c O t P:=by
 refine xE hn λx hx=>?_;refine xE hy λy hy=>?_;have hk:(Cr G M m)[m]? = some (.ref (G m))/\(Cr G M m).set m (.list (eZ M m))=Cr G M (m+1):=by
  have:m=0\/m=1\/m=2\/m=3\/m=4:=by exact ED hm
  rcases this with rfl|rfl|rfl|rfl|rfl<;>exact⟨rfl,rfl⟩
 have hl:j<O.length:=(Q0.mp I.at_).1;refine Fy (i+m) j m hx (I.rows m (QO _) hm) hy I.at_ (by exact Ne.symm (ktu_ne m Kl)) hk.1 (h _ ⟨?_,λk h1 h2=>?_,λk Ki=>?_⟩)
 ·rw[hk.2,Th (by rw[List.length_set];exact hl)]
 ·rw[QP (by exact ktu_ne k Kl),QP (by lia)]
  exact I.rows k (by exact T2 h1) h2
 ·rw[QP (by lia),QP (by lia)]
  exact I.rest k Ki
theorem tY(Kl:j<i)(hn:∀m<5,∃x,c.names[i+m]? = some x)(hy:∃y,c.names[j]? = some y)(hr:∀k<5,O[i+k]? = some (.mu (G k) (.list (eZ M k))))(hl:O[j]? = some (.mu F (.list (jV G))))(h:∀Wj,Wj[j]? = some (.val (vh M))->(∀k,(k<i/\k≠j)\/i+5<=k->Wj[k]? = O[k]?)->WT T c Wj t P):WT T c O t P:=by
 refine ig (m:=0) dk Kl (hn 0 dk) hy ⟨hl,λk U h=>hr k h,λU U=>rfl⟩ λσ1 I1=>?_;refine ig (m:=1) dk Kl (hn 1 dk) hy I1 λσ2 I2=>?_;refine ig (m:=2) dk Kl (hn 2 dk) hy I2 λσ3 I3=>?_;refine ig (m:=3) dk Kl (hn 3 dk) hy I3 λσ4 I4=>?_;refine ig (m:=4) dk Kl (hn 4 dk) hy I4 λσ5 I5=>?_;refine xE hy λy hy=>?_;refine cH j hy I5.at_ (h _ ?_ λk hk=>?_)
 ·rw[Th (Q0.mp I5.at_).1];rfl
 ·rw[QP (by lia)];exact I5.rest k hk
end
inductive NR(ZX:List Ed)(ls:List Nat)(o4 o5 o6:Slot)(F S:Addr)(G K:Nat->Addr)(i:Nat)(O:St):Prop
 |mk (oa ob ok op ow ot ol:Slot) (ha:oa.ZW=false) (hb:ob.ZW=false) (hk:ok.ZW=false) (Xq:op.ZW=false) (hw:ow.ZW=false) (ht:ot.ZW=false) (hl:ol.ZW=false) (e:O=AK ZX (.list (aU ls)) o4 o5 o6 (.val (.bool true)) F S oa ob ok op ow ot ol G K (lF (λa b U=>ba ZX a b) i) (lF (lz ZX ls) i)):NR ZX ls o4 o5 o6 F S G K i O
theorem Cf(Z:FV T){ZX:List Ed}(H:d3 ZX)(Kf:∀q∈ZX,edOk q)(JF:ZX.length<60)(PP:ls.length=10)(Po:∀a<5,∀b<5,ba ZX a b<100){o4 o5 o6:Slot}{G K:Nat->Addr}(hp:∀oa ob ok op ow ot ol:Slot,P .next (AK ZX (.list (aU ls)) o4 o5 o6 (.val (.bool true)) F S oa ob ok op ow ot ol G K (lF (λa b U=>ba ZX a b) 10) (lF (lz ZX ls) 10))):
  W1 T cF (AK ZX (.list (aU ls)) o4 o5 o6 (.val (.bool true)) F S .no .no .no .no .no .no .no G K (λU U=>0) (λU U=>0)) (jc (bF 80) 4) P:=by
 refine eA (eC Z.enm (GQ Z.range rfl))
  (gp (NR ZX ls o4 o5 o6 F S G K) ?_ ?_ ⟨.no,.no,.no,.no,.no,.no,.no,rfl,rfl,rfl,rfl,rfl,rfl,rfl,rfl⟩) (Z 5)
 ·rintro O ⟨oa,ob,ok,op,ow,ot,ol,_,_,_,_,_,_,_,rfl⟩
  rw[dz];exact hp _ _ _ _ _ _ _
 ·rintro i d O hd ⟨oa,ob,ok,op,ow,ot,ol,ha,hb,hk,Xq,hw,ht,hl,rfl⟩
  refine ay (gc hd) λy hy U=>?_;subst U;rw[QX]at hy;obtain⟨⟨a,b⟩,hq,rfl⟩:=RF.mp hy;have hi:i<10:=(Q0.mp hq).1;have JN:=Rj hq;refine jd (E1 _ JN) λa5 b5 Mw=>?_;refine⟨_,cz (an (ae 12 rfl rfl hk) (an (ae 13 rfl rfl Xq) bg)),?_⟩;have e1:=pR (f:=λa b U=>(ba ZX a b:Int)) hq;have e2:=pR (f:=lz ZX ls) hq;generalize lF (λa b U=>(ba ZX a b:Int)) i=M at e1 ⊢;generalize lF (lz ZX ls) i=N at e2 ⊢;refine ac (GP rfl rfl ha rfl hb ?_);refine ac (EA Z.sum Kf JF a5 b5 rfl rfl rfl rfl rfl hw ?_);refine ac (Cj Z.lev H a5 b5 hi rfl rfl rfl rfl rfl rfl ht ?_);refine ac (Ez Z.lev H PP a5 b5 hi rfl rfl rfl rfl rfl rfl rfl hl ?_);refine ac (Cd Z.str (Po a a5 b b5) rfl rfl rfl ?_);show W T cF (AK ZX (.list (aU ls)) o4 o5 o6 (.val (.bool true)) F S (.val (.int a)) (.val (.int b)) (.val (.int i)) (.val (IK (a,b))) (.val (.int (ba ZX a b))) (.val (.int (ba ZX a b))) (.val (.int (lz ZX ls a b i))) G K M N) _ _;refine ac (Ch (M:=M) a5 b5 Mw rfl rfl rfl rfl (λi hi=>AL hi) ?_);rw[Im JN];refine ac (Ci (M:=N) a5 b5 Mw rfl rfl rfl rfl (λi hi=>AM hi) ?_);rw[Io JN];exact aL ⟨_,_,_,_,_,_,_,rfl,rfl,rfl,rfl,rfl,rfl,rfl,by rw[e1,e2]⟩
theorem B7(hf:cf T "_law_far" ["edges","less"] (fh 80) (bF 80))(Z:FV T){ZX:List Ed}(H:d3 ZX)(Kf:∀q∈ZX,edOk q)(JF:ZX.length<60)(PP:ls.length=10)(Po:∀a<5,∀b<5,ba ZX a b<100):
  Fn T 7 "_law_far" [.list (ZX.map kh),.list (aU ls)] (.tup [vh (fM λa b U=>ba ZX a b),vh (fM (lz ZX ls)),.bool true]):=by
 refine eU (n:=6) (rest:=Ob.drop 2) (wr:=["words","ends","edge","place","other","a","b"]) hf rfl ?_;refine ac (JC Z.ends rfl rfl rfl rfl ?_);refine ac (zW Z.enm Z.zip H Kf JF rfl rfl rfl λo4 o5 o6 h4 h5 h6=>?_);refine ac (Ce Z.lev Z.str H (o7:=.no) (rest:=List.replicate 19 .no) rfl ?_);refine ac (Cg (o7:=.val (.bool true)) (oa:=.no) (ob:=.no) (ok:=.no) (op:=.no) (ow:=.no) (ot:=.no) (ol:=.no) λF S G K=>?_);refine ac (Cf Z H Kf JF PP Po λoa ob ok op ow ot ol=>?_);rw[<-tK,<-tK];generalize lF (λa b U=>(ba ZX a b:Int)) 10=M;generalize lF (lz ZX ls) 10=N;have n5:∀b,b=17\/b=22->∀m<5,∃x,cF.names[b+m]? = some x:=λb hb m hm=>by
  have:m=0\/m=1\/m=2\/m=3\/m=4:=by exact ED hm
  rcases hb with rfl|rfl<;>rcases this with rfl|rfl|rfl|rfl|rfl<;>exact⟨_,rfl⟩
 refine tY (i:=17) (j:=8) (M:=M) (G:=G) (F:=F) dk (n5 17 (.inl rfl)) ⟨_,rfl⟩ (λk hk=>by rw[Sh];exact AL hk) rfl λσ1 h8 r1=>?_;refine tY (i:=22) (j:=9) (M:=N) (G:=K) (F:=S) dk (n5 22 (.inr rfl)) ⟨_,rfl⟩ (λk hk=>by rw[r1 _ (.inr (by exact TR (17+5) k)),Sh];exact AM hk) ((r1 9 (.inl ⟨by decide,by decide⟩)).trans rfl) λσ2 h9 r2=>?_;have h8':σ2[8]? = some (.val (vh M)):=(r2 8 (.inl ⟨by decide,by decide⟩)).trans h8;have h7':σ2[7]? = some (.val (.bool true)):=((r2 7 (.inl ⟨by decide,by decide⟩)).trans (r1 7 (.inl ⟨by decide,by decide⟩))).trans rfl;exact ac (bf (aV (ah (aa 8 h8') (ah (aa 9 h9) (ah (aa 7 h7') ad))) (show 3<=sizeLine by decide)) (.inl rfl))
noncomputable def j7(q:Int×Nat×Nat):D:=.tup [.int q.1,.int q.2.1,.int q.2.2]
inductive F6(g:eH)(q:Int×Nat×Nat)(v:Value):Prop
 |mk (a:Addr) (o:Obj) (t1 t2 t3:Tok) (n:Nat) (e:v=.ref a) (r:g a=some o/\o.cls=.type "tuple"/\o.data=.seq #[.int q.1 t1,.int q.2.1 t2,.int q.2.2 t3] n):F6 g q v
theorem wJ{q:Int×Nat×Nat}(r:RV g (j7 q) v):F6 g q v:=by obtain⟨a,o,vs,n,rfl,hg,hc,hd,rs⟩:=r.inv;refine cq.el rs.Z0 λv1 U U=>?_;subst U;intro r1 rs;refine cq.el rs.Z0 λv2 U U=>?_;subst U;intro r2 rs;refine cq.el rs.Z0 λv3 U U=>?_;subst U;intro r3 rs;obtain rfl:=rs.Z3;refine xE r1.inv λt1 U=>?_;subst U;refine xE r2.inv λt2 U=>?_;subst U;refine xE r3.inv λt3 U=>?_;subst U;exact⟨a,o,t1,t2,t3,n,rfl,hg,hc,hd⟩
theorem kL{a b:Int}{t u:Tok}(h:Q (.bool (decide (a<b))) s):wpAny (model P0 w) A (richCompare .Lt (.int a t) (.int b u)) Q E s:=CmpOf.ints_lt (prog:=P0) (w:=w) (A:=A) (P:=λi v=>v=if i=0 then .int a t else .int b u) (λi=>if i=0 then a else b) (λi v e=>by subst e;by_cases h:i=0<;>simp[h]) 0 1 _ _ s Q E rfl rfl h
theorem xS{x y:Int×Nat×Nat}{a b:Addr}{oa ob:Obj}{t1 t2 t3 u1 u2 u3:Tok}{n m:Nat}(ha:s.heap.get? a=some oa)(Wl:oa.cls=.type "tuple")(Y8:oa.data=.seq #[.int x.1 t1,.int x.2.1 t2,.int x.2.2 t3] n)(hb:s.heap.get? b=some ob)(X8:ob.cls=.type "tuple")(MZ:ob.data=.seq #[.int y.1 u1,.int y.2.1 u2,.int y.2.2 u3] m)(hu:A.units<cLine)(q:Q (.bool (gM x y)) s):wpAny (model P0 w) A (richCompare .Lt (.ref a) (.ref b)) Q E s:=by
 have ZL:s.TypeIs (.ref a) "tuple":=⟨_,ha,Wl⟩;have hTb:s.TypeIs (.ref b) "tuple":=⟨_,hb,X8⟩;refine wpAny_richCompare_same_room ZL hTb PySem.F.slot_tuple_lt (RM PySem.F.slot_tuple_lt ZL PySem.F.entry_tuple_lt ?_ (PySem.F.args_tuple_lt_2 _ _)) hu;obtain⟨oca,oda,odata,osl⟩:=oa;simp only at Wl Y8;subst Wl Y8;obtain⟨obc,obd,obdata,obsl⟩:=ob;simp only at X8 MZ;subst X8 MZ;have f2:=AutoSeq1.sub_tuple_tuple;obtain⟨hp,g,d,tk,os⟩:=s;have nn:∀b:Bool,Value.bool b≠Value.notImplemented:=λb e=>by contradiction
 wp_walk using wpAny_loadPart' ha,wpAny_loadPart' hb,wpAny_eqBool_int;by_cases e1:x.1=y.1
 ·refine Ue (by rw[show(x.1==y.1)=true from beq_iff_eq.mpr e1];rfl) ?_
  wp_walk using wpAny_eqBool_int;by_cases e2:x.2.1=y.2.1
  ·refine Ue (by rw[show(((x.2.1:Nat):Int)==((y.2.1:Nat):Int))=true from beq_iff_eq.mpr (QV _ e2)];rfl) ?_
   wp_walk using wpAny_eqBool_int;by_cases e3:x.2.2=y.2.2
   ·refine Ue (by rw[show(((x.2.2:Nat):Int)==((y.2.2:Nat):Int))=true from beq_iff_eq.mpr (QV _ e3)];rfl) ?_
    wp_walk;refine⟨_,rfl,nn _,?_⟩
    have:gM x y=false:=by unfold gM;rw[Rb e1,Rb e2,e3];exact Q4 (Ts _)
    rw[this]at q;exact q
   ·refine TS (by rw[show(((x.2.2:Nat):Int)==((y.2.2:Nat):Int))=false from beq_eq_false_iff_ne.mpr λz=>e3 (Int.ofNat.inj z)];rfl) ?_
    wp_walk using kL;refine⟨_,rfl,nn _,?_⟩
    have:gM x y=decide (((x.2.2:Nat):Int)<((y.2.2:Nat):Int)):=by unfold gM;rw[Rb e1,Rb e2];exact decide_eq_decide.mpr (by exact Iff.symm Sy)
    rw[this]at q;exact q
  ·refine TS (by rw[show(((x.2.1:Nat):Int)==((y.2.1:Nat):Int))=false from beq_eq_false_iff_ne.mpr λz=>e2 (Int.ofNat.inj z)];rfl) ?_
   wp_walk using kL;refine⟨_,rfl,nn _,?_⟩
   have:gM x y=decide (((x.2.1:Nat):Int)<((y.2.1:Nat):Int)):=by unfold gM;rw[Rb e1,Q5 e2];exact decide_eq_decide.mpr (by exact Iff.symm Sy)
   rw[this]at q;exact q
 ·refine TS (by rw[show(x.1==y.1)=false from beq_eq_false_iff_ne.mpr e1];rfl) ?_
  wp_walk using kL;refine⟨_,rfl,nn _,?_⟩
  have:gM x y=decide (x.1<y.1):=by unfold gM;rw[Q5 e1]
  rw[this]at q;exact q
section
variable{w:World}{A:Around}{R:Result->Shared->Prop}
theorem wI{xs:List (Int×Nat×Nat)}(r:aX g (xs.map j7) vs)(h:vs[j]? = some v):∃q,xs[j]? = some q/\RV g (j7 q) v:=by
 have hj:j<xs.length:=by
  have:=(Q0.mp h).1
  rw[r.length,Qs]at this;exact this
 obtain⟨u,hu,ru⟩:=r.get (i:=j) (d:=j7 xs[j]) (by rw[QX,QE hj];rfl);rw[h]at hu;obtain rfl:=QG hu;exact⟨xs[j],QE hj,ru⟩
theorem xH{l:List (Int×Nat×Nat)}{c x:Int×Nat×Nat}(h:l[j]? = some x):jQ (l.take (j+1)) c=if gM x (jQ (l.take j) c)then x else jQ (l.take j) c:=by unfold jQ;rw[Sj,h,List.foldl_append];rfl
theorem pL:(toString "min" ++ toString ".loop" : String) = "min.loop":=by decide
theorem Ab{l I S:Addr}{c:Int×Nat×Nat}{xs:List (Int×Nat×Nat)}(hl:Hy.get? l=some (aQ "list" vs n))(JL:aX (less Hy ms) ((c::xs).map j7) vs)(hI:Hy.get? I=none)(hS:Hy.get? S=none)(Pp:S≠I)(hh:A.in1.handled=none)(hu:A.in1.units<cLine):
  ∀(k j:Nat)(s:Shared)(vb:Value)(cc:Nat),xs.length-j=k->j<=xs.length->s.heap.IsListIter I l (j+1)->(∀b o,Hy.get? b=some o->s.heap.get? b=some o)->RV (less Hy ms) (j7 (jQ (xs.take j) c)) vb->
   s.heap.get? S=some { cls:=.type "list",dict:=none,data:=.seq #[vb,vb] cc,slots:=#[] }->
   (∀v h' tk,RV (less Hy ms) (j7 (jQ xs c)) v->(∀b o,Hy.get? b=some o->h'.get? b=some o)->R (.ok (.ret v)) { s with heap:=h',toks:=tk })->
   codeAny (model P0 w) A (.builtin "min.loop" ⟨[.ref I,.none,.ref S],[]⟩) R s:=by
 have JF:vs.length=xs.length+1:=by rw[JL.length,Qs,QK]
 have JO:l≠I:=λz=>by rw[z,hI]at hl;exact nS hl
 have XJ:l≠S:=λz=>by rw[z,hS]at hl;exact nS hl
 have W:=Walks.list (prog:=P0) (w:=w) (A:=A.in1) hh I l JO vs.toArray;have Nb:∀b o,Hy.get? b=some o->b≠S:=λb o e z=>by rw[z,hS]at e;exact nS e
 have Od:∀b o,Hy.get? b=some o->b∉[I]:=λb o e z=>by rw[QB.mp z,hI]at e;exact nS e
 have XN:S∉[I]:=λz=>Pp (QB.mp z);intro k;induction k with
 |zero=>
  intro j s vb cc hk hj JW kp hb Oe hR;have ZM:j=xs.length:=by exact Iq hk hj
  refine Tc PySem.F.entry_min_loop ?_;rw[Sw R6 _];refine GA (SY Oe rfl ?_);refine GA (wpAny_tryCatch (W.done s _ _ ⟨by rw[QJ,JF,<-ZM];exact JW,⟨_,kp _ _ hl,rfl,n,rfl⟩⟩ λh' tk Ki=>?_));have KV:=Ki S _ XN Oe;refine GA ?_;refine T1 KV rfl (GA (wpAny_letGo (QD ?_)));rw[ZM,Tj]at hb;exact hR vb _ tk hb λb o e=>(R5 _ _ (Ne.symm (Nb b o e))).trans (Ki b o (Od b o e) (kp b o e))
 |succ k ih=>
  intro j s vb cc hk hj JW kp hb Oe hR;have J6:j<xs.length:=by exact Nat.lt_of_sub_eq_succ hk
  refine Tc PySem.F.entry_min_loop ?_;rw[Sw R6 _];refine GA (SY Oe rfl ?_);refine GA (wpAny_tryCatch (W.item (j+1) s _ _ (by rw[QJ,JF];exact Nat.add_lt_add_right J6 1) ⟨JW,⟨_,kp _ _ hl,rfl,n,rfl⟩⟩ λv h' tk hP K1 Ki=>?_));have KV:=Ki S _ XN Oe;have XO:∀b o,Hy.get? b=some o->h'.get? b=some o:=λb o e=>Ki b o (Od b o e) (kp b o e);have hP:vs.toArray[j+1]? = some v:=hP;rw[Q6]at hP;refine ay (wI JL hP) λq hq rq=>?_;rw[List.getElem?_cons_succ]at hq;obtain⟨a,oa,t1,t2,t3,na,rfl,ga,ca,da⟩:=wJ rq;obtain⟨b,ob,u1,u2,u3,nb,rfl,gb,cb,db⟩:=wJ hb;have P6:=xH (c:=c) hq;show wpAny _ A.in1 (Sem.tryCatch (holding [Value.ref a,Value.ref a] (richCompare .Lt (.ref a) (.ref b) >>= _)) _ >>= _) _ _ _;refine GA (wpAny_tryCatch (RL (GA (xS (s:={ s with heap:=h',toks:=tk }) (XO _ _ (ab.mp ga).2) ca da (XO _ _ (ab.mp gb).2) cb db hu ?_))));refine GA (RL (SH ?_));refine GA (wpAny_letGo (QD ?_));cases hbt:gM q (jQ (xs.take j) c)with
  |true=>rw[hbt,Rb rfl]at P6;simp only[if_true];refine GA ?_;refine T1 KV rfl (GA (wpAny_letGo ?_));rw[pL];refine QD ⟨plainId_quiet R6 _,ih (j+1) _ (.ref a) _ (by exact AR hk) (by exact T5 J6) (K1.1.at λo e=>(R5 _ _ Pp).trans e) (λb o e=>(R5 _ _ (Ne.symm (Nb b o e))).trans (XO b o e)) (by rw[P6];exact rq) (Rk _ KV rfl) hR⟩
  |false=>rw[hbt,Q5 Rc]at P6;simp only[TU,TV];refine GA (wpAny_letGo ?_);rw[pL];exact QD ⟨plainId_quiet R6 _,ih (j+1) _ (.ref b) cc (by exact AR hk) (by exact T5 J6) K1.1 XO (by rw[P6];exact hb) KV hR⟩
end
section
theorem rI{c:Int×Nat×Nat}{xs:List (Int×Nat×Nat)}:Bi n (.builtin "min") [.list ((c::xs).map j7)] (j7 (jQ xs c)):=by
 constructor;intro w A s ms vals Q E R old JL q;refine cq.el JL.Z0 λU U U=>?_;subst U;intro rv JL;obtain rfl:=JL.Z3;refine dK.el rv.inv λl vs n' U=>?_;subst U;intro hg JL;refine xA (ab.mp hg) λhlm Kc=>?_;have hl:s.heap.IsList l vs.toArray:=⟨_,Kc,rfl,n',rfl⟩;have J6:=Rx Kc;have hu:A.in1.units<cLine:=by have:=R.units;show A.units+1<_;lia
 have hh:A.in1.handled=none:=R.handled;have Pe:(toString "min" ++ toString ".loop" : String) = "min.loop":=by decide
 refine call_function_tree PySem.F.kind_min PySem.F.plain_min PySem.F.entry_min (PySem.F.args_min1 _) ?_;refine GA (wpAny_of_eq (show Builtin.Builtins.bindParams "min" ["key","default"] 0 ⟨[],[]⟩=pure [none,none]from rfl) ?_);refine GA (QD ?_);refine GA (wpAny_pyIter_list hl ?_);refine GA (RK ?_);rw[Pe];have XA:s.heap.get? s.heap.objs.size=none:=aK (QO _);have YT:s.heap.get? (s.heap.push { cls:=.type "list_iterator",data:=.fields #[.ref l,.int 0 0] }).objs.size=none:=aK (by rw[Rq];exact SF _);have Pp:(s.heap.push { cls:=.type "list_iterator",data:=.fields #[.ref l,.int 0 0] }).objs.size≠s.heap.objs.size:=by rw[Rq];exact Nat.succ_ne_self _
 generalize hSz:(s.heap.push { cls:=.type "list_iterator",data:=.fields #[.ref l,.int 0 0] }).objs.size=S at YT Pp;have Oe:((s.heap.push { cls:=.type "list_iterator",data:=.fields #[.ref l,.int 0 0] }).push { cls:=.type "list",data:=.seq ([]:List Value).toArray }).get? S=some { cls:=.type "list",data:=.seq ([]:List Value).toArray }:=by rw[<-hSz];exact Q2 _ rfl
 have ZN:((s.heap.push { cls:=.type "list_iterator",data:=.fields #[.ref l,.int 0 0] }).push { cls:=.type "list",data:=.seq ([]:List Value).toArray }).IsListIter s.heap.objs.size l 0:=⟨_,QF _ (Q2 _ rfl),rfl,rfl⟩;have kp:∀b o,s.heap.get? b=some o->((s.heap.push { cls:=.type "list_iterator",data:=.fields #[.ref l,.int 0 0] }).push { cls:=.type "list",data:=.seq ([]:List Value).toArray }).get? b=some o:=λb o e=>QF _ (QF _ e);generalize ((s.heap.push { cls:=.type "list_iterator",data:=.fields #[.ref l,.int 0 0] }).push { cls:=.type "list",data:=.seq ([]:List Value).toArray })=h1 at Oe ZN kp;have JO:l≠s.heap.objs.size:=RW J6;have JF:vs.length=xs.length+1:=by rw[JL.length,Qs,QK]
 have XN:S∉[s.heap.objs.size]:=λz=>Pp (QB.mp z);have Nb:∀b o,s.heap.get? b=some o->b≠S:=λb o e z=>by rw[z,YT]at e;exact nS e
 have Od:∀b o,s.heap.get? b=some o->b∉[s.heap.objs.size]:=λb o e z=>by rw[QB.mp z,XA]at e;exact nS e
 have W:=Walks.list (prog:=P0) (w:=w) (A:=A.in1) hh s.heap.objs.size l JO vs.toArray;refine QD ⟨plainId_quiet R6 _,?_⟩;refine Tc PySem.F.entry_min_loop ?_;rw[Sw R6 _];refine GA (SY Oe rfl ?_);refine GA (wpAny_tryCatch (W.item 0 { s with heap:=h1 } _ _ (by rw[QJ,JF];exact Tt _) ⟨ZN,⟨_,kp _ _ Kc,rfl,n',rfl⟩⟩ λv h' tk hP K1 Ki=>?_));have KV:=Ki S _ XN Oe;have hP:vs.toArray[0]? = some v:=hP;rw[Q6]at hP;refine ay (wI JL hP) λq0 WK rq=>?_;have WK:some c=some q0:=WK;obtain rfl:=QG WK;show wpAny _ A.in1 (updateSeq S (λU=>#[v,v]) >>= _) _ _ _;refine GA ?_;refine T1 KV rfl ?_;rw[Pe];refine QD ⟨plainId_quiet R6 _,Ab (Hy:=s.heap) (ms:=ms) Kc JL XA YT Pp hh hu _ 0 _ v _ rfl (Rh _) (K1.1.at λo e=>(R5 _ _ Pp).trans e) (λb o e=>(R5 _ _ (Ne.symm (Nb b o e))).trans (Ki b o (Od b o e) (kp b o e))) rq (Rk _ KV rfl) λv' PS tk'' K5 WL=>?_⟩;exact q _ _ ⟨WL,rfl,rfl,rfl⟩ (K5.mono (ai WL))
end
noncomputable abbrev Oc:List Str:=["far","exact","live","scale","many","sums","names","a","b","least","one","marks","text","rest","last","ends","#"]
abbrev cX:Cx:=⟨6,fh 81,Oc,["far","exact","scale","many","sums","a","b","rest"]⟩
noncomputable def dT(r:List Int):D:=.list (r.map .int)
def bR(M:List (List Int)):D:=.list (M.map dT)
def wB(k:Nat):Stmt:=jc (c8 (bF 81) 1) k
structure Sq(n:Nat)(M:List (List Int)):Prop where
 len:M.length=n
 row:∀r∈M,r.length=n
theorem Sq.get{M:List (List Int)}(h:Sq n M){a:Nat}(ha:a<n):(M.map dT)[a]? = some (dT (M.getD a []))/\(M.getD a []).length=n:=by
 have hl:a<M.length:=by rw[h.len];exact ha
 refine⟨by rw[QX,Qv,QE hl];rfl,h.row _ ?_⟩;rw[Qv,QE hl];exact RH hl
theorem qQ{r:List Int}{b:Nat}(hb:b<r.length):(r.map D.int)[b]? = some (.int (r.getD b 0)):=by rw[QX,Qv,QE hb];rfl
theorem fY{M:List (List Int)}{i a b:Nat}(h:Sq n M)(hf:O[i]? = some (.val (bR M)))(hc:FP c i "far" = true)(ha:a<n)(hb:b<n)(hn:n<6)(h1:Ev T c O ea (.int (a:Int)))(h2:Ev T c O eb (.int (b:Int)))(Km:∀o i,subscripted ea false o i=operate [o,i] (getItem o i):=by intros;rfl)(Kp:∀o i,subscripted eb false o i=operate [o,i] (getItem o i):=by intros;rfl):Ev T c O (.Subscript (.Subscript (.Name "far" p1) ea p2) eb p3) (.int (fg M a b)):=by
 refine xA (h.get ha) λg1 g2=>?_;exact aI (aI (aa i hf hc) h1 (aH (j:=a) (cO a _ (by rw[Qs,h.len];exact ha)) g1 fk (ey ha (by exact JD hn))) Km) h2 (aH (j:=b) (cO b _ (by rw[Qs,g2];exact hb)) (qQ (by rw[g2];exact hb)) fk (ey hb (by exact JD hn))) Kp
theorem lN{M:List (List Int)}{i a:Nat}(h:Sq n M)(hf:O[i]? = some (.val (dT (M.map List.sum))))(hc:FP c i "sums" = true)(ha:a<n)(hn:n<6)(h1:Ev T c O ea (.int (a:Int)))(Km:∀o i,subscripted ea false o i=operate [o,i] (getItem o i):=by intros;rfl):Ev T c O (.Subscript (.Name "sums" p1) ea p2) (.int (qV M a)):=by
 have hl:a<M.length:=by rw[h.len];exact ha
 have e:(M.map List.sum).getD a 0=qV M a:=by unfold qV;rw[Qv,QX,Qv,QE hl];rfl
 have g:=qQ (r:=M.map List.sum) (b:=a) (by rw[Qs];exact hl);rw[e]at g;exact aI (aa i hf hc) h1 (aH (j:=a) (cO a _ (by rw[Qs,Qs];exact hl)) g fk (ey ha (by exact JD hn))) Km
theorem si(i j:Nat){x y:Str}{b C:Addr}{es:List D}(hx:c.names[i]? = some x)(hd:O[i]? = some (.mu b (.list es)))(hy:c.names[j]? = some y)(hi:O[j]? = some (.val (.inst C b)))(Kl:i≠j)(h:oI T c ((O.set i (.val (.list es))).set j (.val (.hdr C es))) e (.list (ks.map .str))):Ev T c O e (.list (ks.map .str)):=by
 constructor;intros;refine b9.el JE.ex λm F S=>?_;obtain⟨l,r,rfl,hm,⟨vs,n,ha,rv⟩,up,fz⟩:=S.muAt hx hd;have nd:=JE.nd;have PD:b∉ms₀:=λz=>by refine xE (JE.old b z) λo e=>?_;rw[JE.new b (Qy _ (QH))]at e;exact nS e
 have Ke:b∉l++r/\(l++r).Nodup:=by
  have:=(RZ (l₁:=l) (a:=b) (l₂:=r)).nodup_iff.mp nd
  exact QY.mp this
 have sub:∀a∈l++r,a∈l++b::r:=λa hb=>by
  rcases Qz.mp hb with z|z
  ·exact QM _ z
  ·exact Qy _ (QA _ z)
 have sk:am (less s.heap (ms₀++(l++b::r))) (less s.heap (ms₀++(l++r))):=aT λa hb=>by
  rcases Qz.mp hb with z|z
  ·exact QM _ z
  ·exact Qy _ (sub a z)
 have hb:less s.heap (ms₀++(l++r)) b=some (aQ "list" vs n):=ab.mpr ⟨λz=>by
  rcases Qz.mp z with z|z
  ·exact PD z
  ·exact Ke.1 z,ha⟩
 have S1:=fz _ _ sk (.inr ⟨.list es,rfl,.list hb (rv.mono sk)⟩);have S2:=ar.reval (d:=.inst C b) (d':=.hdr C es) (λv K5=>by refine RV.instK K5 λU U hi=>?_;subst U;exact .hdr hi hb (rv.mono sk)) hy (by rw[QP Kl];exact hi) S1;refine h.run (as:=l++r) (Q:=Q) ok tp R ⟨⟨m,F,S2⟩,Ke.2,λa hb=>JE.new a (sub a hb),JE.old,λa hb=>JE.loc a (sub a hb)⟩ λa s' WI hn ⟨ws,k,hg,rs⟩=>?_;have M6:a∉ms₀++(l++b::r):=λz=>by refine xE (JE.have a z) λo e=>?_;rw[hn]at e;exact nS e
 exact q _ s' WI (.list (ab.mpr ⟨M6,hg⟩) (wn (wy rs)))
theorem oT{Kk:List Keyword}(hf:II T n f kn (KB::ds) kds ob)(ho:Ev T c O o KB)(hi:sH C KB)(JO:(name==("_headers" : Str))=false)(hm:fU T C name f)(ha:DK T c O JZ ds)(hk:Dk T c O Kk kds)(tx:yq o name J7 pos JZ Kk kn)(hn:n<=c.n):oI T c O (.Call (.Attribute o name J7) JZ Kk pos) ob:=by
 constructor;intros;refine v8 ho hi JO hm ha hk tx ok tp R JE λvs kvs HX Uf r1 r2=>?_;refine b9.el JE.ex λm F S=>?_;refine hf.run w Hy tp A HX (ms₀++as) vs kvs Q E (λb o e=>Uf.keep _ _ (F.keep _ _ e)) (R.less hn) (JE.grow Uf.keep).have r1 r2 λa s' a' hn mr=>q _ _ (Uf.trans a') ?_ mr;rcases e:s.heap.get? a with _|o
 ·rfl
 ·have:=Uf.keep _ _ e;rw[hn]at this;exact nS this
section
variable{O:St}{P:dL}{a:je}{b:Addr}
def gu(hs:List (Str×Str)):Mu:=.list (hs.map bp)
theorem Dg(Hh:Hd T a)(Pn:Bl T "sum" (.builtin "sum")){M:List (List Int)}{hs:List (Str×Str)}(hM:M.length<=100)(hz:hs.length<=1000){o5 o6:Slot}(h0:O[0]? = some (.val (bR M)))(h2:O[2]? = some (.val (.inst a.C b)))(Ku:O[16]? = some (.mu b (gu hs)))(h5:O[5]? = some o5)(m5:o5.ZW=false)(h6:O[6]? = some o6)(m6:o6.ZW=false)(hp:P .next ((O.set 5 (.val (dT (M.map List.sum)))).set 6 (.val (.list ((hs.map Prod.fst).map .str))))):W1 T cX O (wB 0) P:=by
 have hl:2<O.length:=(Q0.mp h2).1;have ek:((hs.map λp=>D.str p.1):List D)=(hs.map Prod.fst).map .str:=by rw[QZ];rfl
 have e1:((M.map dT).filter λU=>true).map (λd=>match d with|.list ds=>D.int ((ds.map fj).sum)|_=>.none)=(M.map List.sum).map D.int:=by
  rw[RD.mpr (Z 5),QZ,QZ];refine Ra λr U=>?_;show D.int (((r.map D.int).map fj).sum)=D.int r.sum;rw[QZ]
  have:(fj∘D.int)=id:=rfl
  rw[this,Ua]
 have M5:((O.set 16 (.val (.list (hs.map bp)))).set 2 (.val (.hdr a.C (hs.map bp))))[2]? = some (.val (.hdr a.C (hs.map bp))):=Th (by rw[List.length_set];exact hl);refine dm (aV (ah (Ev.to (bW (own:=["line"]) (fr:=[]) (wr':=[]) (fi:=[]) (fs:=[]) (items:=M.map dT) (p:=λU=>true) (f:=λd=>match d with|.list ds=>.int ((ds.map fj).sum)|_=>.none) (g:=λd=>[.val d]) (n':=5)
   (bb (aa 0 h0) rfl) dk dk dk rfl rfl dk dk dk (Z 1) (by rw[Qs];exact QC hM dk) (Z 5) ?_ (λU U=>aw) ?_) (QV D.list e1))
  (ah (si 16 2 (ks:=hs.map Prod.fst) rfl Ku rfl h2 dk (by rw[<-ek];exact oT (GL Hh hs (QC hz dk)) (aa 2 M5) (.inr ⟨_,rfl⟩) rfl Hh.mK .nil cp (Z 8) dk)) ad)) (show 2<=sizeLine by decide))
  (cz (an (ae 5 rfl h5 m5) (an (ae 6 rfl ((QP dk).trans h6) m6) bg))) (Z 2) (λU ok=>(bo ok).trans (Z 1)) hp
 ·intro d hd Wj hσ
  refine ay (bL (fs:=[]) hσ λd' JX=>⟨_,rfl⟩) λo U g=>?_;subst U;exact ae 0 rfl rfl g
 ·intro d hd _
  refine ay (QR.mp hd) λr U U=>?_;subst U;refine Ev.to (bh Pn rfl (yx (is:=r)) (ah (aa 0) ad)) ?_;show D.int r.sum=D.int (((r.map D.int).map fj).sum);rw[QZ]
  have:(fj∘D.int)=id:=rfl
  rw[this,Ua]
end
theorem xx(a b:Str):rm a b\/rm b a:=by rw[gL,gL];exact List.le_total _ _
theorem yA:∀l:List Str,∃R,gZ l R:=by
 intro X_;induction X_ with
 |nil=>exact⟨[],.nil,Rs,λU=>.rfl⟩
 |cons x l IH=>
  refine xE (IH) λR h=>?_;by_cases hx:x∈R
  ·exact⟨R,h.pw,h.nd,λy=>by rw[Qw,<-h.mem y];exact⟨.inr,λz=>z.elim (λe=>e▸hx) id⟩⟩
  ·have hp:=List.mergeSort_perm (x::R) (λa b=>decide (rm a b))
   refine⟨(x::R).mergeSort λa b=>decide (rm a b),?_,hp.nodup_iff.mpr (QY.mpr ⟨hx,h.nd⟩),λy=>?_⟩
   ·refine(List.pairwise_mergeSort (le:=λa b=>decide (rm a b)) (λa b c h1 h2=>Q7 (pA (QS h1) (QS h2))) (λa b=>?_) _).imp λh=>QS h
    rcases xx a b with h|h
    ·simp[h]
    ·simp[h]
   ·rw[hp.mem_iff,Qw,Qw,h.mem y]
theorem f8(l:List Str):gZ l (eP l):=by refine xE (yA l) λR h=>?_;rw[oM h];exact h
theorem uj{l l':List Str}(h:∀y,y∈l↔y∈l'):eP l=eP l':=(f8 l).uniq (f8 l') h
theorem qb(l:List Str)(p:Str->Bool){l':List Str}(h:∀y,y∈l'↔y∈l/\p y=true):eP l'=(eP l).filter p:=by
 have c:=f8 l;refine(f8 l').uniq (l':=l.filter p) ⟨c.pw.sublist List.filter_sublist,c.nd.sublist List.filter_sublist,λy=>?_⟩ λy=>by rw[h y,Q8]
 rw[Q8,Q8,c.mem y]
theorem z8{L L':List (List Nat)}(h:∀s,s∈L↔s∈L')(y:Str):y∈L.map aj↔y∈L'.map aj:=by rw[QR,QR];exact⟨λ⟨x,hx,e⟩=>⟨x,(h x).mp hx,e⟩,λ⟨x,hx,e⟩=>⟨x,(h x).mpr hx,e⟩⟩
def qR(u:List Bool):List Nat:=ia (((List.range 5).filter λk=>u.getD k false).map dp)
noncomputable def rO:Nat->List (List Bool)
 |0=>[[]]
 |n+1=>(rO n).flatMap λu=>[false::u,true::u]
theorem ko:∀(u:List Bool),u∈rO u.length:=by
 intro X_;induction X_ with
 |nil=>exact .head _
 |cons b u IH=>exact SA.mpr ⟨u,IH,by cases b<;>simp⟩
theorem CK:(rO 5).all (λu=>(rO 5).all λv=>decide (u=v)||qR u != qR v)=true:=by decide +kernel
theorem CL{u v:List Bool}(hu:u.length=5)(hv:v.length=5)(h:qR u=qR v):u=v:=by
 have a:=QL.mp (QL.mp CK u (hu▸ko u)) v (hv▸ko v);rcases Bool.or_eq_true_iff.mp a with a|a
 ·exact QS a
 ·exact absurd h (bne_iff_ne.mp a)
section
variable{who pos len:Nat->Nat}{b:Bool}
theorem kM(q:List Bool):fO pos q 0=qR ((List.range 5).map λk=>q.getD (pos k) false):=by
 unfold fO qR;rw[show List.replicate 0 58=([]:List Nat)from rfl,QN];have e:((List.range 5).filter λk=>q.getD (pos k) false)=(List.range 5).filter λk=>((List.range 5).map λk=>q.getD (pos k) false).getD k false:=R1 λk hk=>by rw[Qv (l:=List.map _ _),QX,RX (Q1.mp hk)];rfl
 rw[e]
theorem tD(W:rE who pos){q q':List Bool}{x:Nat}(hx:x<5)(h:q.getD x false≠q'.getD x false):fO pos q 0≠fO pos q' 0:=λe=>by rw[kM,kM]at e;have e:=CL (by rw[Qs];rfl) (by rw[Qs];rfl) e;have g:=QV (λl=>l[who x]?) e;simp only[QX,RX (W.lt' x hx),Option.map_some,Option.some.injEq,W.pw x hx]at g;exact h g
theorem xF:[0,1,2,3,4].all (λz=>[true,false].all λb=>(kz z (bY b)).any λq=>q.2==none&&[0,1,2,3,4].any (λx=>q.1.getD x false)&&(kz z (bY b)).any λq'=>q'.2==none&&[0,1,2,3,4].any (λx=>q'.1.getD x false)&&[0,1,2,3,4].any λx=>q.1.getD x false != q'.1.getD x false)=true:=by decide +kernel
theorem xY(W:rE who pos):∃s,s∈bT (bt who len b)/\58∉s/\∃s',s'∈bT (bt who len b)/\58∉s'/\s≠s':=by
 have r5:∀x<5,x∈[0,1,2,3,4]:=by decide
 have l5:∀x∈[0,1,2,3,4],x<5:=by decide
 have a:=QL.mp (QL.mp xF (pos 0) (r5 _ (W.lt 0 dk))) b (by cases b<;>simp);refine ay (T9.mp a) λq hq a=>?_;refine xA (QI.mp a) λa a2=>?_;refine xA (QI.mp a) λqn qa=>?_;refine ay (T9.mp a2) λq' Yt a2=>?_;refine xA (QI.mp a2) λa2 JO=>?_;refine xA (QI.mp a2) λqn' qa'=>?_;refine ay (T9.mp JO) λx hx JO=>?_;have non:∀{q:List Bool},[0,1,2,3,4].any (λx=>q.getD x false)=true->fO pos q 0≠[]:=λ{q}h=>by
  refine ay (T9.mp h) λy hy g=>?_;have e:([]:List Nat)=fO pos [] 0:=by rw[kM];rfl
  rw[e];exact tD W (l5 y hy) (by rw[g];simp)
 have Xa:∀{q:List Bool×Option Nat},q∈kz (pos 0) (bY b)->(q.2==none)=true->[0,1,2,3,4].any (λx=>q.1.getD x false)=true->fO pos q.1 0∈bT (bt who len b):=λ{q}hq hn ha=>by rw[iJ W b (vW b).part];refine⟨non ha,q,hq,?_⟩;have hn:=beq_iff_eq.mp hn;unfold vn;rw[hn]
 have no:∀q:List Bool,58∉fO pos q 0:=λq h=>(qT pos q 0).mp h rfl;exact⟨_,Xa hq qn qa,no _,_,Xa Yt qn' qa',no _,tD W (l5 x hx) (bne_iff_ne.mp JO)⟩
end
theorem wC(S:Nat->Nat->Int):vh S=bR (d9 S):=by rfl
theorem EH(S:Nat->Nat->Int):Sq 5 (d9 S):=⟨rfl,λr hr=>by refine ay (QR.mp hr) λi U U=>?_;subst U;rw[Qs];rfl⟩
theorem te(f:Nat->Nat->Nat->Int)(i j:Nat):fM f i j=fM f j i:=by
 unfold fM;by_cases e:i=j
 ·subst e;rfl
 ·rw[Q5 e,Q5 (Ne.symm e)]
  by_cases h:i<j
  ·rw[Rb h,Q5 (Nat.lt_asymm h)]
  ·rw[Q5 h,Rb (by lia)]
theorem pG(f:Nat->Nat->Nat->Int)(i:Nat):fM f i i=0:=Rb rfl
theorem zx:∀i<5,∀j<5,i<j->eY.idxOf (i,j)<10:=by decide
theorem td{f:Nat->Nat->Nat->Int}{Q:Nat->Nat->Int->Prop}(hQ:∀i j v,Q i j v->Q j i v)(h:∀i<5,∀j<5,∀k<10,i<j->Q i j (f i j k))(hi:i<5)(hj:j<5)(Kl:i≠j):Q i j (fM f i j):=by
 unfold fM;rw[Q5 Kl];by_cases g:i<j
 ·rw[Rb g];exact h i hi j hj _ (zx i hi j hj g) g
 ·rw[Q5 g];exact hQ _ _ _ (h j hj i hi _ (zx j hj i hi (by exact GZ Kl g)) (by exact GZ Kl g))
theorem BQ(ZX:List Ed)(hi:i<5)(hj:j<5)(Kl:i≠j):fM (λa b U=>(ba ZX a b:Int)) i j=(ba ZX i j:Nat):=
 td (Q:=λi j v=>v=(ba ZX i j:Nat)) (λi j v h=>by rw[h,q9]) (λi U j U k U U=>rfl) hi hj Kl
theorem Cn{ZX:List Ed}(H:d3 ZX)(h1:∀k<10,ls.getD k 0<=1)(h2:∀k<10,(ls.getD k 0:Int)<=ε)(hi:i<5)(hj:j<5)(Kl:i≠j):(ba ZX i j:Nat)-ε<=fM (lz ZX ls) i j/\fM (lz ZX ls) i j<=(ba ZX i j:Nat):=by
 refine td (Q:=λi j v=>(ba ZX i j:Nat)-ε<=v/\v<=(ba ZX i j:Nat)) (λi j v h=>by rw[q9 ZX j i];exact h) (λi hi j hj k hk U=>?_) hi hj Kl;obtain⟨_,_,g1,g2,g3⟩:=v5 H hj hi;rw[q9 ZX j i]at g1 g2 g3;have e1:=h1 k hk;have e2:=h2 k hk;unfold lz
 have:ls.getD k 0=0\/ls.getD k 0=1:=by exact Nat.le_one_iff_eq_zero_or_eq_one.mp (h1 k hk)
 rcases this with e|e
 ·rw[e]at e2 ⊢
  rw[show((ba ZX i j:Nat)-1-((0:Nat):Int))=(ba ZX i j:Nat)-1 by lia,g1];lia
 ·rw[e]at e2 ⊢
  rw[show((ba ZX i j:Nat)-1-((1:Nat):Int))=(ba ZX i j:Nat)-2 by lia];lia
noncomputable def cY:List Nat:=[173,847,6150,6155,6156,6157,8203,8204,8205,8288,65279]++(List.range 16).map (65024+·)
noncomputable def jp:List Nat:=[97,65,119808,119860,119912,120016,120172,120224,120276,120328,120380,120432]
noncomputable def sB:List Nat:=[102,105,108,115,116]
noncomputable def z0(JJ:Nat):List (List Nat×Nat):=[([102,102],64256),([102,105],64257),([102,108],64258),([115,115],223),([115,116],64261+JJ%2)]
def iw(JJ:Nat):List (Str×D):=(z0 JJ).map λq=>(aj q.1,.str (aj [q.2]))
def xB(JJ:Nat)(p:List Nat):Option Nat:=((z0 JJ).find? λq=>q.1=p).map (·.2)
def sI(p:List Nat):Bool:=(xB 0 p).isSome
def qB(JJ:Nat)(p:List Nat):Nat:=(xB JJ p).getD 0
def jU(key:Nat):List (Nat×Bool):=if key%3=0 then[(cY.getD (key / 3%27) 0,true)]else[]
def u7(key ch:Nat):Nat:=if ch∈sB then jp.getD (key%12) 0+ch-97 else ch
def dd(key:Nat)(p:List Nat):Bool:=key%2==0&&sI p
def fc:Nat->Nat->Nat->List Nat->List (Nat×Bool)
 |0,_,_,_=>[]
 |n+1,JJ,at_,l=>match l with
  |[]=>[]
  |ch::r=>jU (JJ+5*at_)++(if dd (JJ+5*at_) (l.take 2)then qB JJ (l.take 2)else u7 (JJ+5*at_) ch,false)::(if dd (JJ+5*at_) (l.take 2)then fc n JJ (at_+2) (l.drop 2)else fc n JJ (at_+1) r)
def wL(p:Nat×Bool):D:=.tup [.str (aj [p.1]),.bool p.2]
theorem ng(JJ:Nat)(p:List Nat):(xB JJ p).isSome=sI p:=by
 unfold sI xB z0;rw[Option.isSome_map,Option.isSome_map];simp only[R7,List.find?_nil];by_cases h1:([102,102]:List Nat)=p
 ·rw[Q7 h1]
 by_cases h2:([102,105]:List Nat)=p
 ·rw[Q4 h1,Q7 h2]
 by_cases h3:([102,108]:List Nat)=p
 ·rw[Q4 h1,Q4 h2,Q7 h3]
 by_cases h4:([115,115]:List Nat)=p
 ·rw[Q4 h1,Q4 h2,Q4 h3,Q7 h4]
 by_cases h5:([115,116]:List Nat)=p
 ·rw[Q4 h1,Q4 h2,Q4 h3,Q4 h4,Q7 h5];rfl
 ·rw[Q4 h1,Q4 h2,Q4 h3,Q4 h4,Q4 h5]
theorem mE(JJ:Nat)(p:List Nat):cM (iw JJ) (aj p)=(xB JJ p).map λc=>.str (aj [c]):=by
 unfold cM iw xB;generalize z0 JJ=l;induction l with
 |nil=>rfl
 |cons q l ih=>
  rw[QW,R7,R7];by_cases h:q.1=p
  ·rw[Q7 (QV aj h),Q7 h];rfl
  ·rw[Q4 (λz=>h (gR.mp z)),Q4 h];exact ih
theorem CR:∀k,k<2->([64261,64262]:List Nat).getD k 0=64261+k:=by decide +kernel
abbrev cT:Cx:=⟨4,fh 76,["text","seed","unseen","forms","whole","typed","at","key","pair","sign"],[]⟩
def tS(k:Nat):Stmt:=jc (c8 (bF 76) 4) k
theorem Dz(n:Nat):((n:Int)==0)=(n==0):=by rw[Bool.eq_iff_iff,beq_iff_eq,beq_iff_eq];exact Int.natCast_eq_zero
def y9:D:=.list (jp.map λ(x:Nat)=>D.int x)
theorem Ei:∀k,k<12->65<=jp.getD k 0/\jp.getD k 0<=120432:=by decide +kernel
theorem Ee:∀c∈sB,97<=c/\c<=116:=by decide +kernel
theorem yB{n c:Nat}(h:65<=n/\n<=120432)(g:97<=c/\c<=116):n+c-97<=0x10FFFF/\(n:Int)+(c:Int)-97=((n+c-97:Nat):Int):=by lia
theorem Bv(h:i<16):(decide (65024+(i:Int)<0)||decide (65024+(i:Int)>0x10FFFF))=false:=by rw[Q4 (by exact RT rfl),Q4 (by lia)];rfl
section
variable{O:St}{P:dL}{key:Nat}{p:List Nat}
theorem Fj{o:Slot}(hR:Ω8 T)(hC:Bl T "chr" (.builtin "chr"))(h2:O[2]? = some o)(m2:o.ZW=false)(hp:P .next (O.set 2 (.val (.str (aj cY))))):W1 T cT O (jc (bF 76) 0) P:=by
 refine ak 2 (d:=.str (aj cY)) (Ev.to (eR aA (iA aA (ys:=(List.range 16).map λi=>aj [65024+i]) (Ev.to (bW (own:=["code"]) (fr:=[]) (wr':=[]) (fi:=[]) (fs:=[]) (items:=rng 65024 65040) (p:=λU=>true)
   (f:=λd=>.str (aj [Bz d])) (g:=λd=>[.val d]) (n':=4)
   (kE hR ag ag rfl dk dk dk dk) (QO _) dk dk rfl rfl dk dk
   dk (Z 1) dk (Z 5) ?_ ?_ ?_) ?_) (Z 6) (Z 2) dk) dk) (QV D.str dk)) h2 m2 hp
 ·rintro d hd Wj hσ
  refine ay (bL hσ λd' U=>⟨_,rfl⟩) λo U h1=>?_;subst U;exact ae 0 rfl rfl h1
 ·exact λd hd=>aw
 ·intro d hd _
  refine ay (QR.mp hd) λi hi U=>?_;subst U;exact bh hC rfl (ug (Bv (Q1.mp hi))) (ah (aa 0) ad)
 ·rfl
theorem A6{o4:Slot}(h1:O[1]? = some (.val (.int JJ)))(h4:O[4]? = some o4)(m4:o4.ZW=false)(hp:∀W,P .next (O.set 4 (.mu W (.dict (iw JJ))))):W1 T cT O (jc (bF 76) 2) P:=by have bs:JJ%2<2:=Sl _ dk;exact q8 4 (so (es:=iw JJ) (bB aA aA (bB aA aA (bB aA aA (bB aA aA (bB aA (Ev.to (kF (x:=[64261,64262]) aA (Ev.to (c7 (aa 1 h1) ag) (QV D.int (cw JJ 2))) bs dk (Z 5)) (QV (λz=>D.str (aj [z])) (CR _ bs))) qw))))) (show([aj [102,102],aj [102,105],aj [102,108],aj [115,115],aj [115,116]]:List Str).Nodup by decide +kernel) rfl rfl (SQ _ _) dk) rfl h4 m4 (Z 1) (Z 2) hp
theorem Fg{o7 o8:Slot}(hk:k<=t.length)(ht:t.length<=100)(h0:O[0]? = some (.val (.str (aj t))))(h1:O[1]? = some (.val (.int JJ)))(h6:O[6]? = some (.val (.int k)))(h8:O[8]? = some o8)(m8:o8.ZW=false)(h7:(O.set 8 (.val (.str (aj ((t.drop k).take 2)))))[7]? = some o7)(m7:o7.ZW=false)(hp:P .next ((O.set 8 (.val (.str (aj ((t.drop k).take 2))))).set 7 (.val (.int (JJ+5*k:Nat))))):W1 T cT O (tS 0) P:=
 kc (ns:=["key","pair"]) (aV (ah (Ev.to (d':=.int ((JJ+5*k:Nat):Int)) (bH (aa 1 h1) (eu ag (aa 6 h6) (Sa dk))) (by rw[Sr,Int.natCast_mul];rfl)) (ah (Ev.to (bK (aa 0 h0) (.int (aa 6 h6)) (.int (bH (aa 6 h6) ag)) (Bj (QC ht dk))) (QV D.str (tF (n:=2) hk))) ad)) q7) rfl
   (jB 8 rfl h8 m8 (Z 1) (jB 7 rfl h7 m7 (Z 1) vB)) (Z 2) (λU ok=>(bo ok).trans (Z 1)) hp
theorem Fh{acc:List (Nat×Bool)}(hl:acc.length<=1000)(h7:O[7]? = some (.val (.int key)))(h2:O[2]? = some (.val (.str (aj cY))))(h5:O[5]? = some (.mu a (.list (acc.map wL))))(hp:P .next (O.set 5 (.mu a (.list ((acc++jU key).map wL))))):W1 T cT O (tS 1) P:=by
 have b3:key / 3%27<27:=Sl _ dk;refine bM (aE (Ev.to (c7 (aa 7 h7) ag) (QV D.int (cw key 3))) ag gC) (λhc=>?_) (λhc=>aL ?_)
 ·rw[jU,Rb (beq_iff_eq.mp ((Dz _).symm.trans hc)),QU]at hp
  exact ac (eN 5 (d:=wL (cY.getD (key / 3%27) 0,true)) (bV 5 rfl h5) (ah (aV (ah (kF (x:=cY) (aa 2 h2) (Ev.to (c7 (hU (aa 7 h7) ag dk (RG dk)) ag) (QV D.int (lR key 3 27))) b3 dk (Z 5)) (ah cR ad)) q7) ad) rfl h5 (Z 6) (Z 2) (by rw[Qs];exact QC hl dk) (λU ok=>gk ok) (Z 2) (aL hp))
 ·rw[jU,Q5 (λh=>by rw[h]at hc;contradiction),QN,tC h5]at hp
  exact hp
theorem C0{o9:Slot}(hC:Bl T "chr" (.builtin "chr"))(hO:Bl T "ord" (.builtin "ord"))(J0:0<p.length)(hp0:p.getD 0 0=ch)(h7:O[7]? = some (.val (.int key)))(h8:O[8]? = some (.val (.str (aj p))))(h3:O[3]? = some (.val y9))(h9:O[9]? = some o9)(m9:o9.ZW=false)(hp:P .next (O.set 9 (.val (.str (aj [u7 key ch]))))):W1 T cT O (tS 2) P:=by
 have e0:∀(pp Zi:Pos)(kk:Nat)(p3:Pos),Ev T cT O (.Subscript (.Name "pair" pp) (.Constant (.int 0) kk p3) Zi) (.str (aj [ch])):=λpp Zi kk p3=>
  Ev.to (uH (x:=p) (j:=0) (aa 8 h8) ag (cO 0 _ J0) dk dk (Z 5)) (QV (λz=>D.str (aj [z])) hp0)
 refine ak 9 (d:=.str (aj [u7 key ch])) ?_ h9 m9 hp;unfold u7;by_cases hm:ch∈sB
 ·have XQ:key%12<12:=Sl _ dk
  refine xA (yB (Ei _ XQ) (Ee ch hm)) λc1 c2=>?_;rw[Rb hm];exact qq (aE (e0 _ _ _ _) aA mx) ((oO sB ch).trans (Q7 hm)) (bh hC rfl (ug (i:=((jp.getD (key%12) 0+ch-97:Nat):Int)) (yC _ c1)) (ah (Ev.to (bu (bH (aI (aa 3 h3) (Ev.to (c7 (aa 7 h7) ag) (QV D.int (cw key 12))) (aH (j:=key%12) (cO _ _ XQ) (ee (l:=jp) XQ) fk (ey XQ dk))) (bh hO rfl (mo (ch:=ch)) (ah (e0 _ _ _ _) ad))) ag) (QV D.int c2)) ad))
 ·rw[Q5 hm]
  exact qp (aE (e0 _ _ _ _) aA mx) ((oO sB ch).trans (Q4 hm)) (e0 _ _ _ _)
theorem p9(JJ:Nat):(((key%2:Nat):Int)==0&&((cM (iw JJ) (aj p)).isSome&&true))=dd key p:=by rw[Dz,mE,Option.isSome_map,ng,So];rfl
theorem Fi{a W:Addr}{acc:List (Nat×Bool)}{JJ s:Nat}(hl:acc.length<=1000)(h4:O[4]? = some (.mu W (.dict (iw JJ))))(h5:O[5]? = some (.mu a (.list (acc.map wL))))(h7:O[7]? = some (.val (.int key)))(h8:O[8]? = some (.val (.str (aj p))))(h9:O[9]? = some (.val (.str (aj [s]))))(hp:P .next (O.set 5 (.mu a (.list ((acc++[(if dd key p then qB JJ p else s,false)]).map wL))))):W1 T cT O (tS 3) P:=by
 rw[QU]at hp;refine eN 5 (d:=wL (if dd key p then qB JJ p else s,false)) (bV 5 rfl h5) (ah (aV (ah (Ev.to (fx (d:=.str (aj [qB JJ p])) (d':=.str (aj [s])) (dZ (bc (aE (Ev.to (c7 (aa 7 h7) ag) (QV D.int (cw key 2))) ag gC) (λU=>bc (nU (lM 4 (aa 8 h8) (bV 4 rfl h4) rfl h4) rfl) λU=>eM))) (λhc=>?_) (λU=>aa 9 h9)) ?_) (ah cR ad)) q7) ad) rfl h5 (Z 6) (Z 2) (by rw[Qs];exact QC hl dk) (λU ok=>gk ok) (Z 2) hp
 ·clear hp h9 h5
  rw[p9]at hc;have hs:=(QI.mp hc).2;rw[<-ng JJ]at hs;refine xE (RU.mp hs) λc hc=>?_;unfold qB;exact jG 4 (bV 4 rfl h4) rfl h4 (aa 8 h8) (by rw[mE,hc];rfl) (Z 5)
 ·rw[p9];cases dd key p<;>rfl
theorem Iw{W:Addr}(h4:O[4]? = some (.mu W (.dict (iw JJ))))(h6:O[6]? = some (.val (.int k)))(h7:O[7]? = some (.val (.int key)))(h8:O[8]? = some (.val (.str (aj p))))(hp:P .next (O.set 6 (.val (.int (k+(if dd key p then 2 else 1):Nat))))):W1 T cT O (tS 4) P:=by
 refine ak 6 (d:=.int ((k+(if dd key p then 2 else 1):Nat):Int)) (Ev.to (bH (aa 6 h6) (Ev.to (d':=.int (if dd key p then 2 else 1)) (fx (d:=.int 2) (d':=.int 1) (dZ (bc (aE (Ev.to (c7 (aa 7 h7) ag) (QV D.int (cw key 2))) ag gC) (λU=>bc (nU (lM 4 (aa 8 h8) (bV 4 rfl h4) rfl h4) rfl) λU=>eM))) (λU=>ag) (λU=>ag)) ?_)) ?_) h6 rfl hp
 ·rw[p9];cases dd key p<;>rfl
 ·cases dd key p<;>rfl
end
inductive N1(t:List Nat)(JJ:Nat)(W a:Addr)(n:Nat)(O:St):Prop
 |mk (acc:List (Nat×Bool)) (k:Nat) (o7 o8 o9:Slot) (YX:O=[.val (.str (aj t)),.val (.int JJ),.val (.str (aj cY)),.val y9,.mu W (.dict (iw JJ)),.mu a (.list (acc.map wL)),.val (.int k),o7,o8,o9]) (YY:o7.ZW=false) (YZ:o8.ZW=false) (Y0:o9.ZW=false)
  (Y1:k<=t.length) (Y3:(t.drop k).length<=n) (h7_:acc.length<=2*k) (h8_:acc++fc n JJ k (t.drop k)=fc t.length JJ 0 t):N1 t JJ W a n O
theorem Cl{l:List Nat}(h:sI (l.take 2)=true):2<=l.length:=by
 refine xE (RU.mp h) λc hc=>?_;refine ay (RF.mp hc) λq hq U=>?_;have h1:=SI hq;have h2:q.1=l.take 2:=QS (List.find?_some (p:=λq:List Nat×Nat=>decide (q.1=l.take 2)) hq);have h3:∀q∈z0 0,q.1.length=2:=by decide
 have h4:=h3 q h1;rw[h2,Ru]at h4;exact h4▸T8 _ _
theorem wj(key:Nat):(jU key).length<=1:=by
 unfold jU;by_cases h:key%3=0
 ·rw[Rb h];exact QO 1
 ·rw[Q5 h];exact Rh 1
theorem A7{l:List Nat}(hl:l≠[])(hc:(l.take 2).getD 0 0=ch):fc (n+1) JJ k l=(jU (JJ+5*k)++[(if dd (JJ+5*k) (l.take 2)then qB JJ (l.take 2)else u7 (JJ+5*k) ch,false)])++fc n JJ (k+(if dd (JJ+5*k) (l.take 2)then 2 else 1)) (l.drop (if dd (JJ+5*k) (l.take 2)then 2 else 1)):=by
 rcases l with _|⟨c,r⟩
 ·exact absurd rfl hl
 ·obtain rfl:c=ch:=hc
  rw[QQ];show jU _++_::_=jU _++(_::_);cases dd (JJ+5*k) ((c::r).take 2)<;>rfl
theorem xv(hf:cf T "_law_typed" ["text","seed"] (fh 76) (bF 76))(hR:Ω8 T)(hL:Bl T "len" (.builtin "len"))(hC:Bl T "chr" (.builtin "chr"))(hO:Bl T "ord" (.builtin "ord"))(t:List Nat)(JJ:Nat)(ht:t.length<=100):
  Fn T 5 "_law_typed" [.str (aj t),.int JJ] (.list ((fc t.length JJ 0 t).map wL)):=by
 refine eU (rest:=["unseen","forms","whole","typed","at","key","pair","sign"]) (wr:=[]) hf rfl ?_;refine ac (Fj hR hC rfl rfl ?_);refine ac (ak 3 (d:=y9) (av (aF rfl)) rfl rfl ?_);refine ac (A6 rfl rfl rfl λW=>?_);refine ac (bz (n:=2) (ns:=["typed","at"]) (fE (dB ad dk) (λa=>jJ ag (gJ ⟨rfl,_,lJ 6 rfl rfl rfl (Z 1) (dW 5 rfl rfl rfl (Z 1) ix),?_⟩) (Z 2)) (Z 2)) rfl dk (Z 2) (λU ok=>(bo ok).trans (Z 1)));refine ac (gA (λn O=>N1 t JJ W a n O) t.length ⟨[],0,.no,.no,.no,rfl,rfl,rfl,rfl,Rh _,QO _,QO _,rfl⟩ ?_);rintro n O ⟨acc,k,o7,o8,o9,rfl,h7,h8,h9,hk,hr,hac,hs⟩;have Md:=QC ht (by decide:100<=1000);refine⟨_,aE (aa 6) (gF hL (Z 1) (aa 0) Md) kq,λhb=>?_,λhb=>?_⟩
 ·rw[mQ]at hb
  have hb:=QS hb;have JF:0<(t.drop k).length:=by rw[Rg];exact T4 hb
  cases n with
  |zero=>exact absurd JF (Sg.mpr hr)
  |succ n=>
  have hal:=QC hac (TP 2 (QC hk ht));have J0:0<((t.drop k).take 2).length:=by rw[Ru];exact Nat.lt_min.mpr ⟨by decide,JF⟩
  obtain⟨ch,Mc⟩:∃ch,((t.drop k).take 2).getD 0 0=ch:=⟨_,rfl⟩;rw[A7 (List.ne_nil_of_length_pos JF) Mc,<-QQ,List.drop_drop]at hs;have JW:k+(if dd (JJ+5*k) ((t.drop k).take 2)then 2 else 1)<=t.length/\1<=(if dd (JJ+5*k) ((t.drop k).take 2)then 2 else 1):=by
   cases h:dd (JJ+5*k) ((t.drop k).take 2)with
   |true=>
    have:=Cl (QI.mp h).2
    rw[Rg]at this;exact⟨by rw[Sh];exact Nat.add_le_of_le_sub hk this,by decide⟩
   |false=>exact⟨hb,QO 1⟩
  rw[Rg]at hr;refine ac (Fg hk ht rfl rfl rfl rfl h8 rfl h7 ?_);generalize (t.drop k).take 2=p at J0 Mc JW hs ⊢;generalize JJ+5*k=key at JW hs ⊢;refine ac (Fh (QC hal dk) rfl rfl rfl ?_);refine ac (C0 hC hO J0 Mc rfl rfl rfl rfl h9 ?_);have ZO:(acc++jU key).length<=2*k+1:=by rw[Qu];exact R8 hac (wj key)
  refine ac (Fi (QC ZO (QC (ST (TP 2 (QC hk ht)) 1) dk)) rfl rfl rfl rfl rfl ?_);refine ac (Iw rfl rfl rfl rfl (aL ?_));rw[<-QQ]at hs;generalize (if dd key p then 2 else 1)=st at JW hs ⊢;refine⟨n,Rf _,_,k+st,_,_,_,rfl,rfl,rfl,rfl,JW.1,?_,?_,hs⟩
  ·rw[Rg,<-Nat.sub_sub];exact SS (QC hr (TM JW.2 n))
  ·rw[Qu,Nat.mul_add];exact QC (ST ZO 1) (TM (TP 2 JW.2) (2*k))
 ·rw[mQ]at hb
  have e:t.drop k=[]:=List.drop_eq_nil_of_le (Sg.mp (RT hb));have e2:fc n JJ k []=[]:=by cases n<;>rfl
  rw[e,e2,QN]at hs;rw[<-hs];exact cH 5 rfl rfl (ac (bf (aa 5) (.inl rfl)))
noncomputable def fW:List Nat:=[102,105,108,115,116,40,41,44,58,59,61]
def uE(ch:Nat):Bool:=cY.contains ch
def Cm(c:Nat):Prop:=Builtin.Str.tooLong (Txt.lower (aj [c])).length=false
def mN(m:Nat)(t:List Nat):Bool:=!uE m&&rH m==aj t&&!Builtin.Str.tooLong (Txt.lower (aj [m])).length
theorem BR:sB.all (λch=>(List.range 12).all λr=>mN (jp.getD r 0+ch-97) [ch])=true:=by decide +kernel
theorem CB:(fW.filter λch=>!sB.contains ch).all (λch=>mN ch [ch])=true:=by decide +kernel
theorem Ck:[0,1].all (λb=>[([102,102],64256),([102,105],64257),([102,108],64258),([115,115],223),([115,116],64261+b)].all λq=>mN q.2 q.1)=true:=by decide +kernel
theorem vm:(List.range 27).all (λk=>uE (cY.getD k 0)&&!Builtin.Str.tooLong (Txt.lower (aj [cY.getD k 0])).length)=true:=by decide +kernel
theorem BX{m:Nat}(h:mN m t=true):uE m=false/\rH m=aj t/\Cm m:=by refine xA (QI.mp h) λh h3=>?_;exact xA (QI.mp h) λh1 h2=>⟨(Si _).mp h1,beq_iff_eq.mp h2,(Si _).mp h3⟩
theorem AG(h:ch∈fW)(key:Nat):mN (u7 key ch) [ch]=true:=by
 unfold u7;by_cases c:ch∈sB
 ·rw[Rb c]
  exact QL.mp (QL.mp BR ch c) (key%12) (Q1.mpr (Sl _ dk))
 ·rw[Q5 c]
  exact QL.mp CB ch (Q8.mpr ⟨h,by rw[Si,Bool.eq_false_iff];exact λz=>c (Rd.mp z)⟩)
theorem zZ(JJ:Nat){p:List Nat}(h:sI p=true):mN (qB JJ p) p=true:=by
 rw[<-ng JJ]at h;refine xE (RU.mp h) λc hc=>?_;have e:qB JJ p=c:=by unfold qB;rw[hc];rfl
 refine ay (RF.mp hc) λq hq hqc=>?_;have h1:=SI hq;have h2:q.1=p:=QS (List.find?_some (p:=λq:List Nat×Nat=>decide (q.1=p)) hq);have hs:JJ%2∈[0,1]:=by
  have:JJ%2=0\/JJ%2=1:=by exact Nat.mod_two_eq_zero_or_one JJ
  rcases this with e|e<;>rw[e]<;>decide
 rw[e,<-hqc,<-h2];exact QL.mp (QL.mp Ck _ hs) q h1
theorem E0(key:Nat):(∀p∈jU key,uE p.1=p.2/\Cm p.1)/\((jU key).filter λp=>!p.2)=[]:=by
 unfold jU;by_cases h:key%3=0
 ·rw[Rb h]
  refine⟨λp hp=>?_,rfl⟩;rw[QB.mp hp];have a:=QL.mp vm (key / 3%27) (Q1.mpr (Sl _ dk));exact xA (QI.mp a) λa1 a2=>⟨a1,(Si _).mp a2⟩
 ·rw[Q5 h];exact⟨λp hp=>absurd hp Q3,rfl⟩
structure vz(L:List (Nat×Bool))(l:List Nat)(n:Nat):Prop where
 ok:∀p∈L,uE p.1=p.2/\Cm p.1
 seen:∃ps:List (List Nat),(L.filter λp=>!p.2).map (λp=>rH p.1)=ps.map aj/\ps.flatten=l/\ps.length<=n
 len:L.length<=2*n
theorem vz.cons{key x:Nat}{p r:List Nat}{L:List (Nat×Bool)}(g:mN x p=true)(h:vz L r n):vz ((jU key++[(x,false)])++L) (p++r) (n+1):=by
 refine jd (BX g) λg1 g2 g3=>?_;obtain⟨i1,⟨ps,i2,i3,i4⟩,i5⟩:=h;refine xA (E0 key) λq1 q2=>?_;refine⟨λz hz=>?_,⟨p::ps,?_,?_,T7 i4⟩,?_⟩
 ·rcases Qz.mp hz with hz|hz
  ·rcases Qz.mp hz with hz|hz
   ·exact q1 z hz
   ·rw[QB.mp hz];exact⟨g1,g3⟩
  ·exact i1 z hz
 ·rw[SP,SP,q2,SK,List.filter_cons_of_pos rfl,List.filter_nil,TX,QW,QW,i2,g2]
 ·rw[SE,i3]
 ·have:=wj key
  rw[Qu,Qu,Q9];lia
theorem pW(JJ:Nat):∀(n at_:Nat)(l:List Nat),l.length<=n->(∀c∈l,c∈fW)->vz (fc n JJ at_ l) l n:=λn=>by
 induction n with
 |zero=>intro at_ l h _;rw[Ri.mp (Nat.le_zero.mp h)];exact⟨λU hp=>absurd hp Q3,⟨[],rfl,rfl,QO _⟩,QO _⟩
 |succ n ih=>
  intro at_ l hl ha;rcases l with _|⟨ch,r⟩
  ·exact⟨λU hp=>absurd hp Q3,⟨[],rfl,rfl,Rh _⟩,Rh _⟩
  ·rw[A7 (SQ _ _) (show((ch::r).take 2).getD 0 0=ch from rfl)]
   have hd:∀k,(∀c∈(ch::r).drop k,c∈fW):=λk c hc=>ha c (Su hc);rw[QK]at hl;cases hb:dd (JJ+5*at_) ((ch::r).take 2)with
   |true=>
    have:=(ih (at_+2) ((ch::r).drop 2) (by rw[Rg,QK];lia) (hd 2)).cons (key:=JJ+5*at_) (zZ JJ (QI.mp hb).2)
    rw[List.take_append_drop]at this;exact this
   |false=>exact(ih (at_+1) r (by exact Nat.le_of_lt_succ hl) (hd 1)).cons (AG (ha ch QH) _)
def bi(c:List Nat):be:=bt (rd (c.getD 0 0)) (jr (c.getD 1 0)) (gz (c.getD 1 0))
def oz(c:List Nat):Nat->Nat->Int:=fM λa b U=>(ba (bi c).ZY a b:Int)
def oA(c:List Nat):Nat->Nat->Int:=fM (lz (bi c).ZY (i7 c))
def ja(c:List Nat):be:=bN (d9 (oz c)) true
def jb(c:List Nat):be:=bN (d9 (oA c)) false
def AC(t:be):List Str:=eP ((bT t).map aj)
def F8(t:be):Prop:=∃x∈bT t,∃y∈bT t,x≠y
theorem et.eds20{t:be}(h:et t):t.ZY.length<=20:=by
 have e:t.x.part.length+(t.y.part.length+t.z.part.length)=5:=by have:=h.five;unfold be.part at this;rw[Qu,Qu]at this;exact this
 have h1:=(bJ t.x).ZX;have h2:=(bJ t.y).ZX;have h3:=(bJ t.z).ZX;unfold be.ZY;simp only[Qu,QK,Ro];lia
structure n0(c:List Nat):Prop where
 f0:et (bi c)
 fF:et (ja c)
 fL:et (jb c)
 ed:d3 (bi c).ZY
 way:∀a<5,∀b<5,ba (bi c).ZY a b<100
 marks:gB (d9 (oz c))
 same:AC (ja c)=AC (bi c)
 short:AC (jb c)=(AC (bi c)).filter λy=>!y.cps.toList.contains 58
 two0:F8 (bi c)
 twoF:F8 (ja c)
 twoL:F8 (jb c)
theorem vD(c:List Nat):n0 c:=by
 have W:=Fq (c.getD 0 0);have L:=B8 (c.getD 1 0);refine xA (D6 (c.getD 1 0)) λE e1=>?_;have H:d3 (bi c).ZY:=yL W L;have f0:et (bi c):=uv W.lt' L.lt _;have hs:∀i j,oz c i j=oz c j i:=te _;have hd:∀i,oz c i i=0:=pG _;have hw:∀i<5,∀j<5,i≠j->oz c i j=(ba (bi c).ZY i j:Nat):=λi hi j hj Kl=>BQ _ hi hj Kl;have MG:∀i j,oA c i j=oA c j i:=te _;have JX:∀i,oA c i i=0:=pG _;have ZP:∀i<5,∀j<5,i≠j->(ba (bi c).ZY i j:Nat)-w7 (c.getD 1 0)<=oA c i j/\oA c i j<=(ba (bi c).ZY i j:Nat):=λi hi j hj Kl=>Cn H (λk hk=>(vY c hk).2) (λk hk=>(vY c hk).1) hi hj Kl;have pf:=xQ (b:=gz (c.getD 1 0)) W L hs hd hw;have pm:=ti (b:=gz (c.getD 1 0)) W L hs hd hw;have ps:=tj (b:=gz (c.getD 1 0)) W L MG JX ZP E e1;obtain⟨s,m1,n1,s',m2,n2,JO⟩:=xY (len:=jr (c.getD 1 0)) (b:=gz (c.getD 1 0)) W;refine⟨f0,?_,?_,H,λa U b U=>?_,pm,?_,?_,⟨s,m1,s',m2,JO⟩,⟨s,(pf s).mpr m1,s',(pf s').mpr m2,JO⟩,⟨s,(ps s).mpr ⟨m1,n1⟩,s',(ps s').mpr ⟨m2,n2⟩,JO⟩⟩
 ·obtain⟨t0,t1,t2,F,h1,_,h2,h3⟩:=ik (b:=gz (c.getD 1 0)) (exact:=true) (len':=jr (c.getD 1 0)) (ε:=0) W L hs hd (λi hi j hj Kl=>by rw[hw i hi j hj Kl];constructor<;>(try unfold bi)<;>exact Tw ↑(ba (bt (rd (c.getD 0 0)) (jr (c.getD 1 0)) (gz (c.getD 1 0))).ZY i j)) ⟨Tw 0,by have:=L.h5;exact Ub.mp this,by have:=L.h6;exact Ub.mp this⟩ dk (λU=>⟨rfl,rfl⟩) nofun L.lt
  unfold ja;rw[h1];exact oW W.lt' L.lt h2 h3
 ·obtain⟨t0,t1,t2,F,h1,_,h2,h3⟩:=ik (b:=gz (c.getD 1 0)) (exact:=false) (len':=λU=>0) W L MG JX ZP E e1 nofun (Z 2) (λU=>by decide)
  unfold jb;rw[h1];exact oW W.lt' (λU=>by decide) h2 h3
 ·have h1:=Fo a b _ H.m
  have h2:=f0.eds20;lia
 ·exact uj (z8 pf)
 ·refine qb _ _ λy=>?_
  rw[QR,QR];have hc:∀s:List Nat,(!(aj s).cps.toList.contains 58)=true↔58∉s:=λs=>by rw[Si,Bool.eq_false_iff];show ¬(s.contains 58=true)↔_;rw[Rd]
  constructor
  ·rintro⟨x,hx,rfl⟩
   exact xA ((ps x).mp hx) λh1 h2=>⟨⟨x,h1,rfl⟩,(hc x).mpr h2⟩
  ·rintro⟨⟨x,hx,rfl⟩,h2⟩
   exact⟨x,(ps x).mpr ⟨hx,(hc x).mp h2⟩,rfl⟩
def yr(n sc:Nat):Prop:=(n=5/\sc=1)\/(n=4/\sc=2)
theorem yr.n6{n sc:Nat}(h:yr n sc):n<6/\2<=n:=by rcases h with⟨rfl,rfl⟩|⟨rfl,rfl⟩<;>decide
theorem yr.bits{n sc:Nat}(h:yr n sc):Builtin.Int.intBits (((n:Nat):Int)-2)<=64/\Builtin.Int.intBits (2*((sc:Nat):Int))<=64/\2*((sc:Nat):Int)*(((n:Nat):Int)-2)≠0/\(2*((sc:Nat):Int)*(((n:Nat):Int)-2)).natAbs<1073741824/\((sc:Nat):Int)≠0/\((sc:Nat):Int).natAbs<1073741824:=by rcases h with⟨rfl,rfl⟩|⟨rfl,rfl⟩<;>decide +kernel
def vC(n:Nat)(M:List (List Int))(d d':D):D:=.tup [.int (qN n M (fj d).toNat (fj d').toNat),d,d']
theorem Gk(M:List (List Int)):ju (rng 0 ((5:Nat):Int)) (λd=>rng (fj d+1) ((5:Nat):Int)) (λU=>true) (λU U=>true) (vC 5 M)=(eO 5 M).map j7:=by rfl
theorem Gj(M:List (List Int)):ju (rng 0 ((4:Nat):Int)) (λd=>rng (fj d+1) ((4:Nat):Int)) (λU=>true) (λU U=>true) (vC 4 M)=(eO 4 M).map j7:=by rfl
theorem Gl{n sc:Nat}(h:yr n sc)(M:List (List Int)):ju (rng 0 ((n:Nat):Int)) (λd=>rng (fj d+1) ((n:Nat):Int)) (λU=>true) (λU U=>true) (vC n M)=(eO n M).map j7:=by
 rcases h with⟨rfl,rfl⟩|⟨rfl,rfl⟩
 ·exact Gk M
 ·exact Gj M
theorem wT{n sc:Nat}(h:yr n sc)(M:List (List Int)):∃c xs,eO n M=c::xs/\jQ xs c=aq n M:=by rcases h with⟨rfl,rfl⟩|⟨rfl,rfl⟩<;>exact⟨_,_,rfl,rfl⟩
theorem iM(h:d∈rng 0 ((n:Nat):Int)):∃k:Nat,d=.int (k:Int)/\k<n:=by refine ay (nH h) λk U hk=>?_;subst U;exact⟨k,by rw[Int.zero_add],by lia⟩
theorem xV{a n:Nat}(h:d∈rng ((a:Int)+1) ((n:Nat):Int)):∃k:Nat,d=.int (k:Int)/\k<n:=by refine ay (nH h) λk U hk=>?_;subst U;exact⟨a+1+k,by rw[Sr];rfl,by exact Sy.mp hk⟩
theorem Ay{n sc:Nat}(h:yr n sc):((rng 0 ((n:Nat):Int)).map λd=>(rng (fj d+1) ((n:Nat):Int)).length).sum<=sizeLine:=by rcases h with⟨rfl,rfl⟩|⟨rfl,rfl⟩<;>decide +kernel
theorem Fu(hR:Ω8 T)(X9:Bl T "min" (.builtin "min")){n sc:Nat}(hr:yr n sc){M:List (List Int)}(hM:Sq n M){o7 o8 o9:Slot}(h0:O[0]? = some (.val (bR M)))(h4:O[4]? = some (.val (.int (n:Int))))(h5:O[5]? = some (.val (dT (M.map List.sum))))(h7:O[7]? = some o7)(m7:o7.ZW=false)(h8:O[8]? = some o8)(m8:o8.ZW=false)(h9:O[9]? = some o9)(m9:o9.ZW=false)(hp:P .next (((O.set 9 (.val (.int (aq n M).1))).set 7 (.val (.int ((aq n M).2.1:Nat)))).set 8 (.val (.int ((aq n M).2.2:Nat))))):W1 T cX O (wB 1) P:=by
 refine dE (wT hr M) λc xs hc hpk=>?_;have Mh:=hr.n6.1;have Ma:[0,4,5].map (λi=>(cX.names[i]?,O[i]?))=([("far" : Str),"many","sums"].zip [bR M,.int (n:Int),dT (M.map List.sum)]).map λq=>(some q.1,some (Slot.val q.2)):=by simp only[QW,Tq,h0,h4,h5];rfl
 refine dm (d:=j7 (aq n M)) (by
  rw[<-hpk];refine bh X9 rfl (rI (c:=c) (xs:=xs)) (ah (Ev.to (sd (own:=["a","b"]) (fr:=["far","many","sums"]) (wr':=[]) (fi:=[0,4,5]) (fs:=[bR M,.int (n:Int),dT (M.map List.sum)]) (items:=rng 0 ((n:Nat):Int)) (items2:=λd=>rng (fj d+1) ((n:Nat):Int)) (p:=λU=>true) (p2:=λU U=>true) (f2:=vC n M)
   (g:=λd=>[.val d,.no,.val (bR M),.val (.int (n:Int)),.val (dT (M.map List.sum))]) (g2:=λd d'=>[.val d,.val d',.val (bR M),.val (.int (n:Int)),.val (dT (M.map List.sum))]) (n':=5)
   (dO hR (aa 4 h4) rfl (by exact FO) (by lia)) dk dk dk rfl Ma dk dk dk (Z 1) (Ay hr) (Z 5) (Z 5) ?_ (λU U=>aw) ?_ ?_ (λU U U U=>aw) ?_) (QV D.list ((Gl hr M).trans (QV (List.map j7) hc)))) ad)
  ·rintro d hd Wj hσ
   rcases hσ with rfl|⟨d',_,rfl|⟨d'',_,rfl⟩⟩
   ·exact ae 0 rfl rfl rfl
   ·exact ae 0 rfl rfl rfl
   ·exact pS 1 (ae 0 rfl rfl rfl) rfl
  ·intro d hd
   refine ay (iM hd) λk U hk=>?_;subst U;exact kE hR (bH (aa 0) ag) (aa 3) rfl (by exact Tf (2^62) (k+1)) (by show(k:Int)+1<2^62;lia) (by exact FO) (by lia)
  ·rintro d hd d' JX Wj hσ
   rcases hσ with rfl|⟨d'',_,rfl⟩
   ·exact ae 1 rfl rfl rfl
   ·exact ae 1 rfl rfl rfl
  ·intro d hd d' JX _
   refine ay (iM hd) λx U hx=>?_;subst U;refine ay (xV JX) λy U hy=>?_;subst U;exact aV (ah (bu (bu (eu (bu (aa 3) ag) (fY (i:=2) hM rfl (Z 1) hx hy Mh (aa 0) (aa 1)) (Sa hr.bits.1)) (lN (i:=4) hM rfl (Z 1) hx Mh (aa 0))) (lN (i:=4) hM rfl (Z 1) hy Mh (aa 1)))
    (ah (aa 0) (ah (aa 1) ad))) (show 3<=sizeLine by decide))
  (cz (an (ae 9 rfl h9 m9) (an (ae 7 rfl ((QP dk).trans h7) m7) (an (ae 8 rfl ((QP dk).trans ((QP dk).trans h8)) m8) bg)))) (Z 2) (λU ok=>(bo ok).trans (Z 1)) hp
theorem Fv{n sc:Nat}(hr:yr n sc){M:List (List Int)}(hM:Sq n M){x y:Nat}(hx:x<n)(hy:y<n){we:Slot}(h0:O[0]? = some (.val (bR M)))(h3:O[3]? = some (.val (.int (sc:Int))))(h4:O[4]? = some (.val (.int (n:Int))))(h5:O[5]? = some (.val (dT (M.map List.sum))))(h7:O[7]? = some (.val (.int (x:Int))))(h8:O[8]? = some (.val (.int (y:Int))))(KL:O[10]? = some we)(XZ:we.ZW=false)(hp:P .next (O.set 10 (.val (.int (eE n M sc x y))))):W1 T cX O (wB 2) P:=by
 have Mh:=hr.n6.1;obtain⟨b1,b2,b3,b4,_⟩:=hr.bits;exact ak 10 (d:=.int (eE n M sc x y)) (hU (bu (bH (eu (bu (aa 4 h4) ag) (fY (i:=0) hM h0 (Z 1) hx hy Mh (aa 7 h7) (aa 8 h8)) (Sa b1)) (lN (i:=5) hM h5 (Z 1) hx Mh (aa 7 h7))) (lN (i:=5) hM h5 (Z 1) hy Mh (aa 8 h8)))
  (eu (eu ag (aa 3 h3) (Sa dk)) (bu (aa 4 h4) ag) (Sa b2)) b3 (RG b4)) KL XZ hp
theorem nj{i:Int}(h:gQ i):∃m:Nat,i=(m:Int)/\m<3/\seqIndex? i 3=some m/\([D.str (aj []),.str (aj [58]),.str (aj [58,61])]:List D)[m]? = some (eD m):=by
 refine xA h λh1 h2=>?_;refine xE (Int.eq_ofNat_of_zero_le h1) λm U=>?_;subst U;have hm:m<3:=by exact Sy.mp h2
 exact⟨m,rfl,hm,cO m 3 hm,(IT (P:=λm=>([D.str (aj []),.str (aj [58]),.str (aj [58,61])]:List D)[m]? = some (eD m)) m hm rfl rfl rfl)⟩
theorem Be{n sc:Nat}(hr:yr n sc){M:List (List Int)}(hM:Sq n M){x y:Nat}(hx:x<n)(hy:y<n)(Kf:ex=true->gQ (eE n M sc x y)/\gQ (iY n M sc x y)){kK:Slot}(h0:O[0]? = some (.val (bR M)))(h1:O[1]? = some (.val (.bool ex)))(h3:O[3]? = some (.val (.int (sc:Int))))(h7:O[7]? = some (.val (.int (x:Int))))(h8:O[8]? = some (.val (.int (y:Int))))(KL:O[10]? = some (.val (.int (eE n M sc x y))))(Kt:O[11]? = some kK)(X0:kK.ZW=false)(hp:P .next (O.set 11 (.val (.list [eD (aY ex (eE n M sc x y)),eD (aY ex (iY n M sc x y))])))):W1 T cX O (wB 3) P:=by
 have Mh:=hr.n6.1;obtain⟨_,_,_,_,b5,b6⟩:=hr.bits;refine ak 11 (d:=.list [eD (aY ex (eE n M sc x y)),eD (aY ex (iY n M sc x y))]) (Ev.to (fx (b:=ex) (d:=.list [eD (eE n M sc x y).toNat,eD (iY n M sc x y).toNat]) (d':=.list [.str (aj []),.str (aj [])]) (dU (aa 1 h1) (Z 5)) (λe=>?_) (λU=>av (aF rfl))) ?_) Kt X0 hp
 ·refine xA (Kf e) λg1 g2=>?_
  refine Bg (nj g1) λm1 e1 l1 s1 t1=>?_;refine Bg (nj g2) λm2 e2 l2 s2 t2=>?_;have ZQ:∀(k1 k2 k3:Nat)(p1 p2 p3 p4:Pos),Ev T cX O (.List [.Constant (.str "") k1 p1,.Constant (.str ":") k2 p2,.Constant (.str ":=") k3 p3] p4) (.list [.str (aj []),.str (aj [58]),.str (aj [58,61])]):=λk1 k2 k3 p1 p2 p3 p4=>av (aF rfl);refine av (ah (Ev.to (aI (ZQ _ _ _ _ _ _ _) (aa 10 KL) (aH (j:=m1) s1 t1 (by rw[e1];exact s6) (by rw[e1];lia))) (by rw[e1];rfl)) (ah (Ev.to (aI (ZQ _ _ _ _ _ _ _) (bu (hU (fY (i:=0) hM h0 (Z 1) hx hy Mh (aa 7 h7) (aa 8 h8)) (aa 3 h3) b5 (RG b6)) (aa 10 KL)) (aH (j:=m2) s2 t2 ?_ ?_)) (by rw[e2];rfl)) ad)) (show 2<=sizeLine by decide)
  ·show -(2^63)<=iY n M sc x y
   rw[e2];exact s6
  ·show iY n M sc x y<2^63
   rw[e2];lia
 ·cases ex<;>rfl
noncomputable abbrev lH:=Str×Str
noncomputable def bv(p:lH):Str:=Txt.lower p.1
theorem xe:∀{l:List lH}{p:lH},(l.map bv).Nodup->p∈l->l.find? (λq=>bv q==bv p)=some p:=by
 intro X_;induction X_ with
 |nil=>intro v0_ v1_ v2_;contradiction
 |cons q l IH=>
  intro p nd h;rw[QW]at nd;rw[R7];rcases Qw.mp h with rfl|h
  ·rw[beq_self_eq_true]
  ·have:bv q≠bv p:=λz=>(QY.mp nd).1 (z▸Sf h)
   rw[beq_eq_false_iff_ne.mpr this];exact IH (QY.mp nd).2 h
theorem vQ{hs ext:List lH}{p:lH}(nd:(hs.map bv).Nodup)(hp:p∈hs)(hn:nm=bv p):lr (hs++ext) nm d=.str p.2:=by
 subst hn;unfold lr
 have:(hs++ext).find? (λq=>Txt.lower q.1==bv p)=some p:=by rw[List.find?_append];have h:=xe nd hp;unfold bv at h ⊢;rw[h];rfl
 rw[this]
theorem pd{hs:List lH}(h:∀p∈hs,bv p≠nm):lr hs nm d=d:=by
 unfold lr
 have:hs.find? (λq=>Txt.lower q.1==nm)=none:=List.find?_eq_none.mpr λq hq z=>h q hq (beq_iff_eq.mp z)
 rw[this]
theorem zp{hs:List lH}{K v la lb:Str}(hK:Txt.lower K=la):iW (iW (hs++[(K,v)]) la) lb=hs.filter λr=>bv r != la&&bv r != lb:=by unfold iW;rw[SP,Sc,Q5 (by rw[hK];simp),List.filter_nil,QN,List.filter_filter];exact R1 λr U=>Bool.and_comm _ _
theorem lc{hs:List lH}{x y:Nat}{d:lH}(nd:(hs.map bv).Nodup)(hx:x<hs.length)(hy:y<hs.length):(hs.filter λr=>bv r != bv (hs.getD x d)&&bv r != bv (hs.getD y d))=(aJ hs.length x y).map λk=>hs.getD k d:=by
 have key:∀{k z:Nat},k<hs.length->z<hs.length->(bv (hs.getD k d) != bv (hs.getD z d))=(k != z):=λ{k z}hk hz=>by
  have e:∀{k},k<hs.length->(hs.map bv)[k]? = some (bv (hs.getD k d)):=λ{k}hk=>by rw[QX,Qv,QE hk];rfl
  by_cases h:k=z
  ·subst h;simp
  ·rw[bne_iff_ne.mpr h]
   refine bne_iff_ne.mpr λc=>h ?_;exact(List.getElem?_inj (by rw[Qs];exact hk) nd).mp ((e hk).trans ((QV some c).trans (e hz).symm))
 have h1:hs=(List.range hs.length).map λk=>hs.getD k d:=kH.symm;have h2:(hs.filter λr=>bv r != bv (hs.getD x d)&&bv r != bv (hs.getD y d))=((List.range hs.length).map λk=>hs.getD k d).filter λr=>bv r != bv (hs.getD x d)&&bv r != bv (hs.getD y d):=QV _ h1;rw[h2,SM];congr 1;refine R1 λk hk=>?_;show(bv (hs.getD k d) != _&&bv (hs.getD k d) != _)=_;rw[key (Q1.mp hk) hx,key (Q1.mp hk) hy]
noncomputable def EU(x:Str):Bool:=decide (x.length<=1000)&&x.cps.toList.all λch=>decide (31<ch)&&decide (ch≠127)
theorem lf(h:EU x=true):pD x:=by refine xA (QI.mp h) λh1 h2=>?_;refine⟨QS h1,λch hc=>?_⟩;exact xA (QI.mp (QL.mp h2 ch hc)) λh3 h4=>⟨QS h3,QS h4⟩
def Eo(k:Str):Bool:=EU k&&EU (Txt.upper k)&&EU (Txt.lower k)&&(Txt.lower (Txt.upper k)==Txt.lower k)&&!Builtin.Str.tooLong (Txt.lower k).length&&!Builtin.Str.tooLong (Txt.upper k).length&&!Builtin.Str.tooLong (Txt.lower (Txt.upper k)).length&&decide (k.length<=20)&&decide ((Txt.upper k).length<=20)
structure yo(k:Str):Prop where
 n:pD k
 nu:pD (Txt.upper k)
 nl:pD (Txt.lower k)
 e:Txt.lower (Txt.upper k)=Txt.lower k
 l1:dI k
 l2:Builtin.Str.tooLong (Txt.upper k).length=false
 l3:dI (Txt.upper k)
 s:k.length<=20
 su:(Txt.upper k).length<=20
theorem vV{k:Str}(h:Eo k=true):yo k:=by unfold Eo at h;simp only[R9,Si,TI,beq_iff_eq]at h;obtain⟨⟨⟨⟨⟨⟨⟨⟨h1,h2⟩,h3⟩,h4⟩,h5⟩,h6⟩,h7⟩,h8⟩,h9⟩:=h;exact⟨lf h1,lf h2,lf h3,h4,h5,h6,h7,h8,h9⟩
noncomputable def uP:List Str->Bool|[]=>true|a::l=>!l.contains a&&uP l
theorem xI:∀{l:List Str},uP l=true->l.Nodup:=by
 intro X_;induction X_ with
 |nil=>intro _;exact Rs
 |cons a l IH=>intro h;refine xA (QI.mp h) λh1 h2=>?_;refine QY.mpr ⟨λz=>?_,IH h2⟩;rw[Rd.mpr z]at h1;contradiction
def pz(ks:List Str):Bool:=ks.all Eo&&uP (ks.map Txt.lower)
def rl:List Str:=(List.range 5).map λk=>aj (dp k)
def eW(n:Nat)(ks:List Str)(x y:Nat):List Str:=(aJ n x y).map (λk=>ks.getD k "")++[ks.getD y "" ++ Txt.upper (ks.getD x "")]
theorem GJ:pz rl=true:=by decide +kernel
theorem GK:eY.all (λp=>pz (eW 5 rl p.1 p.2)&&EU (rl.getD p.2 "" ++ Txt.upper (rl.getD p.1 "")))=true:=by decide +kernel
noncomputable def d0:lH:=("","")
structure Rows(hs:List lH):Prop where
 len:hs.length<=10
 keys:∀p∈hs,yo p.1
 nd:(hs.map bv).Nodup
theorem bw{hs:List lH}{x:Nat}(h:x<hs.length):hs.getD x d0∈hs:=by rw[Qv,QE h];exact RH h
section
variable{O:St}{P:dL}{a:je}{b:Addr}
theorem dA{O:St}{hs:List lH}{x:Nat}(hl:hs.length<=10)(hf:O[i]? = some (.val (.list ((hs.map Prod.fst).map .str))))(hc:FP c i "names" = true)(hx:x<hs.length)(he:Ev T c O e (.int (x:Int)))(Km:∀o i,subscripted e false o i=operate [o,i] (getItem o i):=by intros;rfl):Ev T c O (.Subscript (.Name "names" p1) e p2) (.str (hs.getD x d0).1):=by refine aI (aa i hf hc) he (aH (j:=x) (cO x _ (by rw[Qs,Qs];exact hx)) ?_ fk (ey hx (by lia))) Km;rw[QX,QX,Qv,QE hx];rfl
theorem HY:FS (aj [63]):=by
 refine⟨by decide,λch hc=>?_⟩
 have:ch=63:=by
  have:ch∈[63]:=hc
  simpa using this
 subst this;exact⟨.inl dk,by decide⟩
theorem Fs{hs:List lH}(H:Hd T a)(HA:FX T a.fA)(mA:fU T a.C "add_header" a.fA)(hR:Rows hs){x:Nat}(hx:x<hs.length)(h2:O[2]? = some (.val (.inst a.C b)))(h6:O[6]? = some (.val (.list ((hs.map Prod.fst).map .str))))(h7:O[7]? = some (.val (.int (x:Int))))(Ku:O[16]? = some (.mu b (gu hs)))(hp:P .next (O.set 16 (.mu b (gu (hs++[(Txt.upper (hs.getD x d0).1,aj [63])]))))):W1 T cX O (wB 4) P:=by
 have k:=hR.keys _ (bw hx);exact iR (oU 16 (Ga H HA b hs (Txt.upper (hs.getD x d0).1) (aj [63]) k.nu HY (QC hR.len dk)) (aa 2 h2) rfl Ku rfl mA (.cons (ah (hV (dA hR.len h6 (Z 1) hx (aa 7 h7)) (Z 6) k.l2) (ah aA ad)) (Z 2)) cp (Z 8) dk) (λU ok=>gk ok) (Z 2) hp
def gq(tp tq:List Nat)(m1 m2:Nat):List Nat:=40::((tp++eJ m1)++44::((tq++eJ m2)++[41]))
theorem tw{hs:List lH}(hR:Rows hs){K v:Str}(hK:dI K):∀p∈hs++[(K,v)],dI p.1:=λp hp=>by
 rcases Qz.mp hp with h|h
 ·exact(hR.keys p h).l1
 ·rw[QB.mp h];exact hK
theorem Dh{hs:List lH}(H:Hd T a)(hR:Rows hs){x y m1 m2:Nat}{tp tq:List Nat}(hx:x<hs.length)(hy:y<hs.length)(ep:(hs.getD x d0).2=aj tp)(eq:(hs.getD y d0).2=aj tq)(lp:tp.length<=200)(lq:tq.length<=200){gX:Slot}(h2:O[2]? = some (.val (.inst a.C b)))(h6:O[6]? = some (.val (.list ((hs.map Prod.fst).map .str))))(h7:O[7]? = some (.val (.int (x:Int))))(h8:O[8]? = some (.val (.int (y:Int))))(Kt:O[11]? = some (.val (.list [eD m1,eD m2])))(Ku:O[16]? = some (.mu b (gu (hs++[(Txt.upper (hs.getD x d0).1,aj [63])]))))(KF:O[12]? = some gX)(mm:gX.ZW=false)(hp:P .next (O.set 12 (.val (.str (aj (gq tp tq m1 m2)))))):W1 T cX O (wB 5) P:=by
 have kx:=hR.keys _ (bw hx);have ky:=hR.keys _ (bw hy);have hl:=tw hR (K:=Txt.upper (hs.getD x d0).1) (v:=aj [63]) kx.l3;have g1:=GB H (hs++[(Txt.upper (hs.getD x d0).1,aj [63])]) (Txt.upper (hs.getD x d0).1) hl (kx.e▸kx.nl) kx.l3;have g2:=GC H (hs++[(Txt.upper (hs.getD x d0).1,aj [63])]) (hs.getD y d0).1 (.str (aj [63])) hl ky.nl ky.l1;rw[vQ hR.nd (bw hx) kx.e,ep]at g1;rw[vQ (nm:=Txt.lower (hs.getD y d0).1) hR.nd (bw hy) rfl,eq]at g2;have P8:∀{i:Nat},i<=1000->i<=sizeLine:=λh=>QC h dk;have Kw:=λ{l r:PySem.Expr}{p:Pos}{x y:List Nat}{O:St}(ha:Ev T cX O l (.str (aj x)))(hb:Ev T cX O r (.str (aj y)))(k:x.length+y.length<=1000)=>Ev.to (eR (p:=p) ha hb (by rw[aM,aM];exact P8 k)) (d':=.str (aj (x++y))) (QV D.str (bq _ _));have mk1:([eD m1,eD m2]:List D)[0]? = some (.str (aj (eJ m1))):=rfl;have mk2:([eD m1,eD m2]:List D)[1]? = some (.str (aj (eJ m2))):=rfl;have l1:=dP m1;have l2:=dP m2;refine ak 12 (d:=.str (aj (gq tp tq m1 m2))) (Ev.to (Kw (Kw (Kw (Kw (Kw (Kw (x:=[40]) aA (gG 16 (es:=(hs++[(Txt.upper (hs.getD x d0).1,aj [63])]).map bp) g1 rfl (aa 2 h2) rfl Ku rfl H.mG (.cons (ah (hV (dA hR.len h6 (Z 1) hx (aa 7 h7)) (Z 6) kx.l2) ad) (Z 2)) cp (Z 8) dk) ?_)
   (aI (aa 11 Kt) ag (aH (k:=0) (j:=0) rfl mk1 dk dk)) ?_) (y:=[44]) aA ?_)
   (gG 16 (es:=(hs++[(Txt.upper (hs.getD x d0).1,aj [63])]).map bp) g2 rfl (aa 2 h2) rfl Ku rfl H.mG (.cons (ah (dA hR.len h6 (Z 1) hy (aa 8 h8)) (ah aA ad)) (Z 2)) cp (Z 8) dk) ?_)
   (aI (aa 11 Kt) ag (aH (k:=1) (j:=1) rfl mk2 dk dk)) ?_) (y:=[41]) aA ?_) ?_) KF mm hp
 ·simp only[Qu,QK,Ro];lia
 ·simp only[Qu,QK,Ro];lia
 ·simp only[Qu,QK,Ro];lia
 ·simp only[Qu,QK,Ro];lia
 ·simp only[Qu,QK,Ro];lia
 ·simp only[Qu,QK,Ro];lia
 ·unfold gq;simp only[RY,SK,QQ]
end
section
variable{O:St}{P:dL}{a:je}{b:Addr}
theorem sF{hs:List lH}{p:lH}(h:p∈iW hs nm):p∈hs:=(Q8.mp h).1
theorem Da{hs Km:List lH}(H:Hd T a)(hD:FY T a.C a.fD)(hR:Rows hs)(Mx:∀p∈Km,dI p.1)(hz:Km.length<=1000){x:Nat}(hx:x<hs.length)(h2:O[2]? = some (.val (.inst a.C b)))(h6:O[6]? = some (.val (.list ((hs.map Prod.fst).map .str))))(h7:O[7]? = some (.val (.int (x:Int))))(Ku:O[16]? = some (.mu b (gu Km)))(hp:P .next (O.set 16 (.mu b (gu (iW Km (bv (hs.getD x d0))))))):W1 T cX O (wB 6) P:=by
 have k:=hR.keys _ (bw hx);exact A8 16 (Gq H b Km (hs.getD x d0).1 Mx k.nl k.l1 hz) hD (aa 2 h2) (dA hR.len h6 (Z 1) hx (aa 7 h7)) rfl Ku dk hp
theorem Db{hs Km:List lH}(H:Hd T a)(hD:FY T a.C a.fD)(hR:Rows hs)(Mx:∀p∈Km,dI p.1)(hz:Km.length<=1000)(hy:y<hs.length)(h2:O[2]? = some (.val (.inst a.C b)))(h6:O[6]? = some (.val (.list ((hs.map Prod.fst).map .str))))(h8:O[8]? = some (.val (.int (y:Int))))(Ku:O[16]? = some (.mu b (gu Km)))(hp:P .next (O.set 16 (.mu b (gu (iW Km (bv (hs.getD y d0))))))):W1 T cX O (wB 7) P:=by
 have k:=hR.keys _ (bw hy);have g:=Gq H b Km (Txt.upper (hs.getD y d0).1) Mx (k.e▸k.nl) k.l3 hz;rw[k.e]at g;exact A8 16 g hD (aa 2 h2) (hV (dA hR.len h6 (Z 1) hy (aa 8 h8)) (Z 6) k.l2) rfl Ku dk hp
theorem Df{hs Kp:List lH}(H:Hd T a)(hR:Rows hs)(K7:∀p∈Kp,dI p.1){x y:Nat}(hx:x<hs.length)(hy:y<hs.length)(n1:∀p∈Kp,bv p≠bv (hs.getD x d0))(n2:∀p∈Kp,bv p≠bv (hs.getD y d0))(ht:t.length<=900)(h2:O[2]? = some (.val (.inst a.C b)))(h6:O[6]? = some (.val (.list ((hs.map Prod.fst).map .str))))(h7:O[7]? = some (.val (.int (x:Int))))(h8:O[8]? = some (.val (.int (y:Int))))(KF:O[12]? = some (.val (.str (aj t))))(Ku:O[16]? = some (.mu b (gu Kp)))(hp:P .next (O.set 12 (.val (.str (aj t))))):W1 T cX O (wB 8) P:=by
 have kx:=hR.keys _ (bw hx);have ky:=hR.keys _ (bw hy);have g1:=GC H Kp (hs.getD x d0).1 (.str (aj [])) K7 kx.nl kx.l1;rw[pd (nm:=Txt.lower (hs.getD x d0).1) n1]at g1;have g2:=GB H Kp (Txt.upper (hs.getD y d0).1) K7 (ky.e▸ky.nl) ky.l3;rw[ky.e,pd (nm:=Txt.lower (hs.getD y d0).1) n2]at g2;have Kw:=λ{l r:PySem.Expr}{p:Pos}{x y:List Nat}{O:St}(ha:Ev T cX O l (.str (aj x)))(hb:Ev T cX O r (.str (aj y)))(k:x.length+y.length<=1000)=>Ev.to (eR (p:=p) ha hb (by rw[aM,aM];exact QC k dk)) (d':=.str (aj (x++y))) (QV D.str (bq _ _));refine ak 12 (d:=.str (aj t)) (Ev.to (Kw (Kw (aa 12 KF) (y:=[]) (gG 16 (es:=Kp.map bp) g1 rfl (aa 2 h2) rfl Ku rfl H.mG (.cons (ah (dA hR.len h6 (Z 1) hx (aa 7 h7)) (ah aA ad)) (Z 2)) cp (Z 8) dk) ?_)
  (y:=[]) (fx (b:=true) (d:=.str (aj [])) (d':=.str (aj [63])) (aE (gG 16 (es:=Kp.map bp) g2 rfl (aa 2 h2) rfl Ku rfl H.mG (.cons (ah (hV (dA hR.len h6 (Z 1) hy (aa 8 h8)) (Z 6) ky.l2) ad) (Z 2)) cp (Z 8) dk) fB rT) (λU=>aA) (λe=>by exact fT e)) ?_) (QV (λl=>D.str (aj l)) ?_)) KF rfl hp
 ·rw[Ro];lia
 ·rw[Qu,Ro];lia
 ·rw[QN,QN]
def okC(ch:Nat):Prop:=31<ch/\ch≠127
theorem EV(hl:t.length<=1000)(h:∀ch∈t,okC ch):FS (aj t):=⟨hl,λch hc=>⟨.inl (h ch hc).1,(h ch hc).2⟩⟩
theorem Fw{hs Kp:List lH}(H:Hd T a)(HA:FX T a.fA)(mA:fU T a.C "add_header" a.fA)(hR:Rows hs){x y:Nat}(hx:x<hs.length)(hy:y<hs.length)(hz:Kp.length<=1000)(ht:t.length<=900)(hc:∀ch∈t,okC ch)(hn:pD ((hs.getD y d0).1++Txt.upper (hs.getD x d0).1))(h2:O[2]? = some (.val (.inst a.C b)))(h6:O[6]? = some (.val (.list ((hs.map Prod.fst).map .str))))(h7:O[7]? = some (.val (.int (x:Int))))(h8:O[8]? = some (.val (.int (y:Int))))(KF:O[12]? = some (.val (.str (aj t))))(Ku:O[16]? = some (.mu b (gu Kp)))(hp:P .next (O.set 16 (.mu b (gu (Kp++[((hs.getD y d0).1++Txt.upper (hs.getD x d0).1,aj t)]))))):W1 T cX O (wB 9) P:=by
 have kx:=hR.keys _ (bw hx);have ky:=hR.keys _ (bw hy);have e1:=kx.su;have e2:=ky.s;exact iR (oU 16 (Ga H HA b Kp _ _ hn (EV (QC ht dk) hc) (QC hz dk)) (aa 2 h2) rfl Ku rfl mA (.cons (ah (eR (dA hR.len h6 (Z 1) hy (aa 8 h8)) (hV (dA hR.len h6 (Z 1) hx (aa 7 h7)) (Z 6) kx.l2) (QC (R8 e2 e1) dk)) (ah (aa 12 KF) ad)) (Z 2)) cp (Z 8) dk) (λU ok=>gk ok) (Z 2) hp
end
def Aw(x y:Nat)(d:D):Bool:=((fj d != (x:Int))&&((fj d != (y:Int))&&true))&&true
theorem xT(n x y:Nat):((rng 0 ((n:Nat):Int)).filter (Aw x y)).map id=aU (aJ n x y):=by
 rw[Ua];unfold rng aJ aU;rw[SM,Int.sub_zero,RO];have ne:∀k z:Nat,(((0:Int)+k) != (z:Int))=(k != z):=λk z=>by
  rw[Int.zero_add];by_cases h:k=z
  ·subst h;simp
  ·rw[bne_iff_ne.mpr h];exact bne_iff_ne.mpr λc=>h (Int.ofNat.inj c)
 have:(List.range n).filter (Aw x y∘λi:Nat=>D.int (0+(i:Int)))=(List.range n).filter λk=>k != x&&k != y:=R1 λk U=>by show(((((0:Int)+k) != (x:Int))&&((((0:Int)+k) != (y:Int))&&true))&&true)=_;rw[ne,ne,So,So]
 rw[this];exact Ra λk U=>by rw[Int.zero_add]
theorem De(hR:Ω8 T){n x y:Nat}(hn:n<6){gY:Slot}(h4:O[4]? = some (.val (.int (n:Int))))(h7:O[7]? = some (.val (.int (x:Int))))(h8:O[8]? = some (.val (.int (y:Int))))(KG:O[13]? = some gY)(X1:gY.ZW=false)(hp:P .next (O.set 13 (.val (.list (aU (aJ n x y)))))):W1 T cX O (wB 10) P:=by
 have Ma:[7,8].map (λi=>(cX.names[i]?,O[i]?))=([("a" : Str),"b"].zip [D.int (x:Int),.int (y:Int)]).map λq=>(some q.1,some (Slot.val q.2)):=by simp only[QW,Tq,h7,h8];rfl
 refine nV 13 (d:=.list (aU (aJ n x y))) (Ev.to (bW (own:=["k"]) (fr:=["a","b"]) (wr':=[]) (fi:=[7,8]) (fs:=[.int (x:Int),.int (y:Int)]) (items:=rng 0 ((n:Nat):Int)) (p:=Aw x y) (f:=id) (g:=λd=>[.val d,.val (.int (x:Int)),.val (.int (y:Int))]) (n':=5)
   (dO hR (aa 4 h4) rfl (by exact FO) (by lia)) dk dk dk rfl Ma dk dk dk (Z 1) (by rw[qP];exact QC (RE hn) dk) (Z 5) ?_ ?_ ?_) (QV D.list (xT n x y))) rfl KG X1 (Z 1) (λU ok=>(di ok).trans (Z 1)) hp
 ·intro d hd Wj hσ
  refine ay (bL (fs:=[.val (.int (x:Int)),.val (.int (y:Int))]) hσ λd' JX=>⟨_,rfl⟩) λo U g=>?_;subst U;exact ae 0 rfl rfl g
 ·intro d hd
  refine ay (iM hd) λk U hk=>?_;subst U;exact ci (dZ (bc (aE (aa 0) (aa 1) yE) (λU=>bc (aE (aa 0) (aa 2) yE) (λU=>eM)))) (λU=>aw)
 ·intro d hd _
  exact aa 0
theorem nr{l:List Nat}(h:d∈aU l):∃k∈l,d=.int ((k:Nat):Int):=by refine ay (QR.mp h) λk hk U=>?_;subst U;exact⟨k,hk,rfl⟩
def jF(M:List (List Int))(x y:Nat)(d:D):D:=.int (fH M x y (fj d).toNat)
theorem B1(M:List (List Int))(x y:Nat)(l:List Nat):((aU l).filter λU=>true).map (jF M x y)=(l.map λk=>fH M x y k).map D.int:=by rw[RD.mpr (Z 5)];unfold aU;rw[QZ,QZ];exact Ra λk U=>rfl
theorem Dd{n x y:Nat}{M:List (List Int)}(hM:Sq n M)(hn:n<6)(hx:x<n)(hy:y<n){yk:Slot}(h0:O[0]? = some (.val (bR M)))(h7:O[7]? = some (.val (.int (x:Int))))(h8:O[8]? = some (.val (.int (y:Int))))(KG:O[13]? = some (.val (.list (aU (aJ n x y)))))(K6:O[14]? = some yk)(Wt:yk.ZW=false)(hp:P .next (O.set 14 (.val (dT ((aJ n x y).map λk=>fH M x y k))))):W1 T cX O (wB 11) P:=by
 have Ma:[7,8,0].map (λi=>(cX.names[i]?,O[i]?))=([("a" : Str),"b","far"].zip [D.int (x:Int),.int (y:Int),bR M]).map λq=>(some q.1,some (Slot.val q.2)):=by simp only[QW,Tq,h7,h8,h0];rfl
 have L4:(aJ n x y).length<=n:=by
  have:=Rp (λk=>k != x&&k != y) (List.range n)
  rw[RI]at this;exact this
 refine cA 14 (own:=["k"]) (fr:=["a","b","far"]) (wr':=[]) (fi:=[7,8,0]) (fs:=[.int (x:Int),.int (y:Int),bR M]) (items:=aU (aJ n x y)) (p:=λU=>true) (f:=jF M x y) (g:=λd=>[.val d,.val (.int (x:Int)),.val (.int (y:Int)),.val (bR M)]) (n':=5)
   (bb (aa 13 KG) rfl) dk dk dk rfl Ma dk dk dk (Z 1) (by unfold aU;rw[Qs];exact QC L4 (QC (RE hn) dk)) (Z 5) ?_ (λU U=>aw) ?_ rfl K6 Wt (Z 1) (λU ok=>(di ok).trans (Z 1)) ?_
 ·intro d hd Wj hσ
  refine ay (bL (fs:=[.val (.int (x:Int)),.val (.int (y:Int)),.val (bR M)]) hσ λd' JX=>⟨_,rfl⟩) λo U g=>?_;subst U;exact ae 0 rfl rfl g
 ·intro d hd _
  refine ay (nr hd) λk hk U=>?_;subst U;have hk:=dD hk;exact bu (bH (fY (i:=3) hM rfl (Z 1) hx hk hn (aa 1) (aa 0)) (fY (i:=3) hM rfl (Z 1) hy hk hn (aa 2) (aa 0))) (fY (i:=3) hM rfl (Z 1) hx hy hn (aa 1) (aa 2))
 ·rw[B1];exact hp
def Go(M:List (List Int))(j:Nat)(d:D):D:=.int (2*fg M j (fj d).toNat)
def E8(M:List (List Int))(x y:Nat)(rest:List Nat)(d:D):D:=dT ((rest.map λk=>2*fg M (fj d).toNat k)++[fH M x y (fj d).toNat])
theorem rY(M:List (List Int))(j:Nat)(l:List Nat):((aU l).filter λU=>true).map (Go M j)=(l.map λk=>2*fg M j k).map D.int:=by rw[RD.mpr (Z 5)];unfold aU;rw[QZ,QZ];exact Ra λk U=>rfl
theorem pJ(M:List (List Int))(x y:Nat)(l:List Nat):((aU l).filter λU=>true).map (E8 M x y l)=(l.map λj=>(l.map λk=>2*fg M j k)++[fH M x y j]).map dT:=by rw[RD.mpr (Z 5)];unfold aU;rw[QZ,QZ];exact Ra λk U=>rfl
theorem Ft{n x y:Nat}{M:List (List Int)}(hM:Sq n M)(hn:n<6)(hx:x<n)(hy:y<n)(h0:O[0]? = some (.val (bR M)))(h7:O[7]? = some (.val (.int (x:Int))))(h8:O[8]? = some (.val (.int (y:Int))))(KG:O[13]? = some (.val (.list (aU (aJ n x y)))))(K6:O[14]? = some (.val (dT ((aJ n x y).map λk=>fH M x y k))))(hp:P .next (O.set 0 (.val (bR (jR M (aJ n x y) x y))))):W1 T cX O (wB 12) P:=by
 have Ma:[7,8,0,13].map (λi=>(cX.names[i]?,O[i]?))=([("a" : Str),"b","far","rest"].zip [D.int (x:Int),.int (y:Int),bR M,.list (aU (aJ n x y))]).map λq=>(some q.1,some (Slot.val q.2)):=by simp only[QW,Tq,h7,h8,h0,KG];rfl
 have L4:(aJ n x y).length<=n:=by
  have:=Rp (λk=>k != x&&k != y) (List.range n)
  rw[RI]at this;exact this
 have P8:∀{i:Nat},i<=100->i<=sizeLine:=λh=>QC h dk;have hd:(aU (aJ n x y)).length<=sizeLine:=by unfold aU;rw[Qs];exact P8 (by lia)
 refine ak 0 (d:=bR (jR M (aJ n x y) x y)) (Ev.to (cZ (bW (own:=["j"]) (fr:=["a","b","far","rest"]) (wr':=["j"]) (fi:=[7,8,0,13]) (fs:=[.int (x:Int),.int (y:Int),bR M,.list (aU (aJ n x y))]) (items:=aU (aJ n x y)) (p:=λU=>true) (f:=E8 M x y (aJ n x y)) (g:=λd=>[.val d,.val (.int (x:Int)),.val (.int (y:Int)),.val (bR M),.val (.list (aU (aJ n x y)))]) (n':=5)
   (bb (aa 13 KG) rfl) dk dk dk rfl Ma dk dk dk (Z 1) hd (Z 5) ?_ (λU U=>aw) ?_)
   (av (ah (Ev.to (cZ (aa 14 K6) (av (ah ag ad) (show 1<=sizeLine by decide)) (by rw[Qs,Qs];exact P8 (by simp;exact Eu hn L4))) (d':=dT (((aJ n x y).map λk=>fH M x y k)++[0])) (by unfold dT;rw[QU];rfl)) ad) (show 1<=sizeLine by decide)) ?_) ?_) h0 rfl hp
 ·intro d hd Wj hσ
  refine ay (bL (fs:=[.val (.int (x:Int)),.val (.int (y:Int)),.val (bR M),.val (.list (aU (aJ n x y)))]) hσ λd' JX=>⟨_,rfl⟩) λo U g=>?_;subst U;exact ae 0 rfl rfl g
 ·intro d JX _
  refine ay (nr JX) λj hj U=>?_;subst U;have hj:=dD hj;refine Ev.to (cZ (bW (own:=["k"]) (fr:=["far","j"]) (wr':=[]) (fi:=[3,0]) (fs:=[bR M,.int (j:Int)]) (items:=aU (aJ n x y)) (p:=λU=>true) (f:=Go M j) (g:=λd=>[.val d,.val (bR M),.val (.int (j:Int))]) (n':=5)
   (bb (aa 4) rfl) (QO _) dk dk rfl rfl dk dk dk (Z 1) hd (Z 5) ?_ (λU U=>aw) ?_)
   (av (ds:=[.int (fH M x y j)]) (ah (bu (bH (fY (i:=3) hM rfl (Z 1) hx hj hn (aa 1) (aa 0)) (fY (i:=3) hM rfl (Z 1) hy hj hn (aa 2) (aa 0))) (fY (i:=3) hM rfl (Z 1) hx hy hn (aa 1) (aa 2))) ad) (show 1<=sizeLine by decide)) ?_) ?_
  ·intro d hd Wj hσ
   refine ay (bL (fs:=[.val (bR M),.val (.int (j:Int))]) hσ λd' JX=>⟨_,rfl⟩) λo U g=>?_;subst U;exact ae 0 rfl rfl g
  ·intro d hd _
   refine ay (nr hd) λk hk U=>?_;subst U;have hk:=dD hk;exact eu ag (fY (i:=1) hM rfl (Z 1) hj hk hn (aa 2) (aa 0)) (Sa dk)
  ·rw[rY,Qs,Qs];exact P8 (by simp;exact Eu hn L4)
  ·rw[rY];unfold E8 dT;rw[QU];rfl
 ·rw[pJ,Qs,Qs];exact P8 (by simp;exact Eu hn L4)
 ·rw[pJ]
  unfold bR jR;rw[QU];rfl
theorem Bf{sc:Nat}(hs:sc=1\/sc=2)(h3:O[3]? = some (.val (.int (sc:Int))))(hp:P .next (O.set 3 (.val (.int ((2*sc:Nat):Int))))):W1 T cX O (wB 13) P:=
 ak 3 (d:=.int ((2*sc:Nat):Int)) (Ev.to (eu ag (aa 3 h3) (Sa dk)) (QV D.int (Int.natCast_mul 2 sc).symm)) h3 rfl hp
noncomputable def NT.rt:NT->Nat|.leaf _ m=>m|.node _ _ m=>m
theorem ie:∀{t:NT}{m:Nat},t.rt=0->(t.mark m).txt=t.txt++eJ m:=by
 intro X_;induction X_ with
 |leaf k m'=>intro m h;have h:m'=0:=h;subst h;show dp k++eJ m=(dp k++[])++eJ m;rw[QN]
 |node a b m' IHa IHb=>intro m h;have h:m'=0:=h;subst h;show 40::(a.txt++44::(b.txt++41::eJ m))=(40::(a.txt++44::(b.txt++[41])))++eJ m;simp only[RY,QQ,SK]
theorem s7{A B:NT}(hA:A.rt=0)(hB:B.rt=0):(NT.node (A.mark m1) (B.mark m2) 0).txt=gq A.txt B.txt m1 m2:=by show 40::((A.mark m1).txt++44::((B.mark m2).txt++41::[]))=_;rw[ie hA,ie hB];rfl
theorem D4:∀k,∀ch∈dp k,okC ch:=gd (P:=λl=>∀ch∈l,31<ch/\ch≠127) _ dk nofun
theorem Ac:∀m,∀ch∈eJ m,okC ch:=gd (P:=λl=>∀ch∈l,31<ch/\ch≠127) _ dk nofun
theorem CZ:∀(t:NT),∀ch∈t.txt,okC ch:=by
 intro X_;induction X_ with
 |leaf k m=>
  exact λch h=>by
   rcases Qz.mp h with h|h
   ·exact D4 k ch h
   ·exact Ac m ch h
 |node a b m IHa IHb=>
  exact λch h=>by
   have h:ch∈40::(a.txt++44::(b.txt++41::eJ m)):=h;simp only[Qw,Qz]at h;rcases h with rfl|h|rfl|h|rfl|h
   ·exact⟨by decide,by decide⟩
   ·exact IHa ch h
   ·exact⟨by decide,by decide⟩
   ·exact IHb ch h
   ·exact⟨by decide,by decide⟩
   ·exact Ac m ch h
theorem jW{n x y:Nat}(h:x<y)(g:y<n):(aJ n x y).length+2=n:=by
 have:=(pI h g).length_eq
 rw[RI,QK,QK]at this;exact Nat.add_right_cancel (congrFun (QV HAdd.hAdd (id (Eq.symm this))) n)
def a7(ks:List Str)(JI:List NT):List lH:=(ks.zip JI).map λq=>(q.1,aj q.2.txt)
structure og(n L:Nat)(ks:List Str)(JI:List NT):Prop where
 kl:ks.length=n
 ll:JI.length=n
 kb:pz ks=true
 rt:∀t∈JI,t.rt=0
 tl:∀t∈JI,t.txt.length<=L
section
variable{n L:Nat}{ks:List Str}{JI:List NT}
theorem zv(H:og n L ks JI):(a7 ks JI).length=n:=by unfold a7;rw[Qs,TE,H.kl,H.ll,Nat.min_self]
theorem cN(H:og n L ks JI){x:Nat}(hx:x<n):JI.getD x eK∈JI:=by rw[Qv,QE (by rw[H.ll];exact hx)];exact RH _
theorem qy(H:og n L ks JI){x:Nat}(hx:x<n):(a7 ks JI).getD x d0=(ks.getD x "",aj (JI.getD x eK).txt):=by
 unfold a7;have e:(ks.zip JI)[x]? = some (ks.getD x "",JI.getD x eK):=by
  rw[List.getElem?_zip_eq_some];refine⟨?_,?_⟩
  ·show ks[x]? = some (ks.getD x "")
   rw[Qv,QE (by rw[H.kl];exact hx)];rfl
  ·show JI[x]? = some (JI.getD x eK)
   rw[Qv,QE (by rw[H.ll];exact hx)];rfl
 rw[Qv,QX,e];rfl
theorem zu(H:og n L ks JI):(a7 ks JI).map Prod.fst=ks:=by unfold a7;rw[QZ];exact List.map_fst_zip (by rw[H.kl,H.ll];exact QO _)
theorem BZ(H:og n L ks JI)(hn:n<6):Rows (a7 ks JI):=by
 refine xA (QI.mp H.kb) λh1 h2=>?_;refine⟨by rw[zv H];lia,λp hp=>?_,?_⟩
 ·have:p.1∈ks:=by rw[<-zu H];exact Sf hp
  exact vV (QL.mp h1 _ this)
 ·have:(a7 ks JI).map bv=ks.map Txt.lower:=by
   have e:(a7 ks JI).map bv=((a7 ks JI).map Prod.fst).map Txt.lower:=by rw[QZ];rfl
   rw[e,zu H]
  rw[this];exact xI h2
theorem BY{x y:Nat}{K:Str}{t:NT}{M:List (List Int)}(H:og n L ks JI):(aJ n x y).map (λk=>(a7 ks JI).getD k d0)++[(K,aj t.txt)]=a7 ((aJ n x y).map (λk=>ks.getD k "")++[K]) ((aJ n x y).map (λk=>JI.getD k eK)++[t]):=by unfold a7;rw[List.zip_append (by rw[Qs,Qs]),QU,List.zip_map',QZ];congr 1;exact Ra λk hk=>qy H (dD hk)
end
theorem EW{x y:Str}(hx:pD x)(hy:pD y)(h:x.length+y.length<=1000):pD (x++y):=by
 have e:∀(x y:Str),(x++y).cps.toList=x.cps.toList++y.cps.toList:=λx y=>by exact Array.toList_append
 refine⟨?_,λch hc=>?_⟩
 ·have:(x++y).length=x.length+y.length:=by exact Array.size_append
  rw[this];exact h
 ·rw[e]at hc
  rcases Qz.mp hc with h|h
  ·exact hx.2 ch h
  ·exact hy.2 ch h
theorem Cv{n x y:Nat}{M:List (List Int)}(h:x<y)(g:y<n):Sq (n-1) (jR M (aJ n x y) x y):=by
 have hl:=jW h g;unfold jR;refine⟨by rw[Qu,Qs,Q9];exact Eq.symm ((λ{n m}=>TA.mpr) (id (Eq.symm hl))),λr hr=>?_⟩;rcases Qz.mp hr with hr|hr
 ·refine ay (QR.mp hr) λj U U=>?_;subst U
  rw[Qu,Qs,Q9];exact Eq.symm ((λ{n m}=>TA.mpr) (id (Eq.symm hl)))
 ·rw[QB.mp hr,Qu,Qs,Q9];exact Eq.symm ((λ{n m}=>TA.mpr) (id (Eq.symm hl)))
structure F9(T:a6)(a:je):Prop where
 hd:Hd T a
 isA:FX T a.fA
 mA:fU T a.C "add_header" a.fA
 isD:FY T a.C a.fD
 sum:Bl T "sum" (.builtin "sum")
 range:Bl T "range" (.type "range")
 min:Bl T "min" (.builtin "min")
def CQ(M:List (List Int))(ex:Bool)(C b:Addr)(sc:Nat)(o4 o5 o6 o7 o8 o9 oa ob oc od oe:Slot)(hs:List lH):St:=
 [.val (bR M),.val (.bool ex),.val (.inst C b),.val (.int (sc:Int)),o4,o5,o6,o7,o8,o9,oa,ob,oc,od,oe,.no,.mu b (gu hs)]
section
variable{a:je}{b:Addr}
theorem tW(Z:F9 T a){n sc L:Nat}(hr:yr n sc)(hsc:sc=1\/sc=2){M:List (List Int)}(hM:Sq n M){JI:List NT}(H:og n L ks JI)(hL:L<=200)(Kf:ex=true->gQ (eE n M sc (aq n M).2.1 (aq n M).2.2)/\gQ (iY n M sc (aq n M).2.1 (aq n M).2.2))(hK:pD (ks.getD (aq n M).2.2 "" ++ Txt.upper (ks.getD (aq n M).2.1 ""))){o5 o6 o7 o8 o9 oa ob oc od oe:Slot}(m5:o5.ZW=false)(m6:o6.ZW=false)(m7:o7.ZW=false)(m8:o8.ZW=false)(m9:o9.ZW=false)(ma:oa.ZW=false)(mb:ob.ZW=false)(mc:oc.ZW=false)(md:od.ZW=false)(me:oe.ZW=false)(hp:∀o5 o6 o7 o8 o9 oa ob oc od oe:Slot,o5.ZW=false->o6.ZW=false->o7.ZW=false->o8.ZW=false->o9.ZW=false->oa.ZW=false->ob.ZW=false->oc.ZW=false->od.ZW=false->oe.ZW=false->
   P .next (CQ (a9 n M) ex a.C b (2*sc) (.val (.int (n:Int))) o5 o6 o7 o8 o9 oa ob oc od oe (a7 (eW n ks (aq n M).2.1 (aq n M).2.2) (dJ n M sc ex JI)))):
  W T cX (CQ M ex a.C b sc (.val (.int (n:Int))) o5 o6 o7 o8 o9 oa ob oc od oe (a7 ks JI)) (c8 (bF 81) 1) P:=by
 refine jd (dR (M:=M) hr.n6.2) λKj hy U=>?_;have Mh:=hr.n6.1;have JF:=zv H;have hR:=BZ H Mh;unfold a9 dJ at hp;generalize XH:(aq n M).2.1=x at *;generalize hy0:(aq n M).2.2=y at *;have hx:x<n:=TK Kj hy;have KN:x<(a7 ks JI).length:=by rw[JF];exact hx
 have Na:y<(a7 ks JI).length:=by rw[JF];exact hy
 have gx:=qy H hx;have gy:=qy H hy;have tx:(JI.getD x eK).rt=0:=H.rt _ (cN H hx);have ty:(JI.getD y eK).rt=0:=H.rt _ (cN H hy);have lx:(JI.getD x eK).txt.length<=200:=QC (H.tl _ (cN H hx)) hL;have ly:(JI.getD y eK).txt.length<=200:=QC (H.tl _ (cN H hy)) hL;have kx:=hR.keys _ (bw KN);have ky:=hR.keys _ (bw Na);have ZR:((a7 ks JI).getD x d0).1=ks.getD x "":=by rw[gx]
 have ZS:((a7 ks JI).getD y d0).1=ks.getD y "":=by rw[gy]
 have gx2:((a7 ks JI).getD x d0).2=aj (JI.getD x eK).txt:=by rw[gx]
 have gy2:((a7 ks JI).getD y d0).2=aj (JI.getD y eK).txt:=by rw[gy]
 generalize hm1:aY ex (eE n M sc x y)=m1 at *;generalize hm2:aY ex (iY n M sc x y)=m2 at *;have Pf:=s7 (m1:=m1) (m2:=m2) tx ty;have ZT:=BY (x:=x) (y:=y) (K:=ks.getD y "" ++ Txt.upper (ks.getD x "")) (t:=.node ((JI.getD x eK).mark m1) ((JI.getD y eK).mark m2) 0) (M:=M) H;rw[Pf]at ZT;have okT:∀ch∈gq (JI.getD x eK).txt (JI.getD y eK).txt m1 m2,okC ch:=by rw[<-Pf];exact CZ _
 have Xb:(gq (JI.getD x eK).txt (JI.getD y eK).txt m1 m2).length<=900:=by have h1:=dP m1;have h2:=dP m2;unfold gq;simp only[Qu,QK,Ro];lia
 have YU:Txt.lower (Txt.upper ((a7 ks JI).getD x d0).1)=bv ((a7 ks JI).getD x d0):=kx.e;have MB:iW (iW (a7 ks JI++[(Txt.upper ((a7 ks JI).getD x d0).1,aj [63])]) (bv ((a7 ks JI).getD x d0))) (bv ((a7 ks JI).getD y d0))=(aJ n x y).map λk=>(a7 ks JI).getD k d0:=by rw[zp YU,lc hR.nd KN Na,JF]
 have ext:=tw hR (K:=Txt.upper ((a7 ks JI).getD x d0).1) (v:=aj [63]) kx.l3;have Xc:(a7 ks JI++[(Txt.upper ((a7 ks JI).getD x d0).1,aj [63])]).length<=1000:=by rw[Qu,JF,Q9];lia
 have Xd:∀p∈iW (a7 ks JI++[(Txt.upper ((a7 ks JI).getD x d0).1,aj [63])]) (bv ((a7 ks JI).getD x d0)),dI p.1:=λp hp=>ext p (sF hp);have Xe:(iW (a7 ks JI++[(Txt.upper ((a7 ks JI).getD x d0).1,aj [63])]) (bv ((a7 ks JI).getD x d0))).length<=1000:=QC (Rp _ _) Xc;have YV:∀p∈(aJ n x y).map (λk=>(a7 ks JI).getD k d0),dI p.1:=λp hp=>Xd p (sF (MB▸hp));have Xf:((aJ n x y).map (λk=>(a7 ks JI).getD k d0)).length<=1000:=by
  have:=jW Kj hy
  rw[Qs];lia
 have ZU:∀p∈(aJ n x y).map (λk=>(a7 ks JI).getD k d0),bv p≠bv ((a7 ks JI).getD x d0)/\bv p≠bv ((a7 ks JI).getD y d0):=λp hp=>by
  rw[<-JF,<-lc hR.nd KN Na]at hp
  have:=(Q8.mp hp).2
  rw[QI,bne_iff_ne,bne_iff_ne]at this;exact this
 have DS:=hM.len;refine ac (Dg Z.hd Z.sum (M:=M) (by rw[DS];lia) (by rw[JF];lia) rfl rfl rfl rfl m5 rfl m6 ?_);refine ac (Fu Z.range Z.min hr hM rfl rfl rfl rfl m7 rfl m8 rfl m9 ?_);rw[XH,hy0];refine ac (Fv hr hM hx hy rfl rfl rfl rfl rfl rfl rfl ma ?_);refine ac (Be hr hM hx hy Kf rfl rfl rfl rfl rfl rfl rfl mb ?_);rw[hm1,hm2];refine ac (Fs Z.hd Z.isA Z.mA hR KN rfl rfl rfl rfl ?_);refine ac (Dh Z.hd hR KN Na gx2 gy2 lx ly rfl rfl rfl rfl rfl rfl rfl mc ?_);refine ac (Da Z.hd Z.isD hR ext Xc KN rfl rfl rfl rfl ?_);refine ac (Db Z.hd Z.isD hR Xd Xe Na rfl rfl rfl rfl ?_);rw[MB];refine ac (Df Z.hd hR YV KN Na (λp hp=>(ZU p hp).1) (λp hp=>(ZU p hp).2) Xb rfl rfl rfl rfl rfl rfl ?_);show W T cX (CQ M ex a.C b sc (.val (.int (n:Int))) (.val (dT (M.map List.sum))) (.val (.list (((a7 ks JI).map Prod.fst).map .str))) (.val (.int (x:Nat))) (.val (.int (y:Nat))) (.val (.int (aq n M).1)) (.val (.int (eE n M sc x y))) (.val (.list [eD m1,eD m2])) (.val (.str (aj (gq (JI.getD x eK).txt (JI.getD y eK).txt m1 m2)))) od oe ((aJ n x y).map λk=>(a7 ks JI).getD k d0)) _ _;refine ac (Fw Z.hd Z.isA Z.mA hR KN Na Xf Xb okT (by rw[ZR,ZS];exact hK) rfl rfl rfl rfl rfl rfl ?_);rw[ZR,ZS,ZT];show W T cX (CQ M ex a.C b sc (.val (.int (n:Int))) (.val (dT (M.map List.sum))) (.val (.list (((a7 ks JI).map Prod.fst).map .str))) (.val (.int (x:Nat))) (.val (.int (y:Nat))) (.val (.int (aq n M).1)) (.val (.int (eE n M sc x y))) (.val (.list [eD m1,eD m2])) (.val (.str (aj (gq (JI.getD x eK).txt (JI.getD y eK).txt m1 m2)))) od oe (a7 (eW n ks x y) ((aJ n x y).map (λk=>JI.getD k eK)++[.node ((JI.getD x eK).mark m1) ((JI.getD y eK).mark m2) 0]))) _ _;refine ac (De Z.range Mh rfl rfl rfl rfl md ?_);show W T cX (CQ M ex a.C b sc (.val (.int (n:Int))) (.val (dT (M.map List.sum))) (.val (.list (((a7 ks JI).map Prod.fst).map .str))) (.val (.int (x:Nat))) (.val (.int (y:Nat))) (.val (.int (aq n M).1)) (.val (.int (eE n M sc x y))) (.val (.list [eD m1,eD m2])) (.val (.str (aj (gq (JI.getD x eK).txt (JI.getD y eK).txt m1 m2)))) (.val (.list (aU (aJ n x y)))) oe (a7 (eW n ks x y) ((aJ n x y).map (λk=>JI.getD k eK)++[.node ((JI.getD x eK).mark m1) ((JI.getD y eK).mark m2) 0]))) _ _;refine ac (Dd hM Mh hx hy rfl rfl rfl rfl rfl me ?_);show W T cX (CQ M ex a.C b sc (.val (.int (n:Int))) (.val (dT (M.map List.sum))) (.val (.list (((a7 ks JI).map Prod.fst).map .str))) (.val (.int (x:Nat))) (.val (.int (y:Nat))) (.val (.int (aq n M).1)) (.val (.int (eE n M sc x y))) (.val (.list [eD m1,eD m2])) (.val (.str (aj (gq (JI.getD x eK).txt (JI.getD y eK).txt m1 m2)))) (.val (.list (aU (aJ n x y)))) (.val (dT ((aJ n x y).map λk=>fH M x y k))) (a7 (eW n ks x y) ((aJ n x y).map (λk=>JI.getD k eK)++[.node ((JI.getD x eK).mark m1) ((JI.getD y eK).mark m2) 0]))) _ _;refine ac (Ft hM Mh hx hy rfl rfl rfl rfl rfl ?_);show W T cX (CQ (jR M (aJ n x y) x y) ex a.C b sc (.val (.int (n:Int))) (.val (dT (M.map List.sum))) (.val (.list (((a7 ks JI).map Prod.fst).map .str))) (.val (.int (x:Nat))) (.val (.int (y:Nat))) (.val (.int (aq n M).1)) (.val (.int (eE n M sc x y))) (.val (.list [eD m1,eD m2])) (.val (.str (aj (gq (JI.getD x eK).txt (JI.getD y eK).txt m1 m2)))) (.val (.list (aU (aJ n x y)))) (.val (dT ((aJ n x y).map λk=>fH M x y k))) (a7 (eW n ks x y) ((aJ n x y).map (λk=>JI.getD k eK)++[.node ((JI.getD x eK).mark m1) ((JI.getD y eK).mark m2) 0]))) _ _;refine ac (Bf hsc rfl ?_);exact aL (hp _ _ _ _ _ _ _ _ _ _ rfl rfl rfl rfl rfl rfl rfl rfl rfl rfl)
end
section
variable{n L:Nat}{ks:List Str}{JI:List NT}
theorem Af(A B:NT)(hA:A.rt=0)(hB:B.rt=0)(m1 m2:Nat)(la:A.txt.length<=L)(lb:B.txt.length<=L):(NT.node (A.mark m1) (B.mark m2) 0).txt.length<=2*L+7:=by rw[s7 hA hB];have h1:=dP m1;have h2:=dP m2;unfold gq;simp only[Qu,QK,Ro];lia
theorem pB{M:List (List Int)}{sc:Nat}(h2:2<=n)(H:og n L ks JI):(dJ n M sc ex JI).length=n-1/\(∀t∈dJ n M sc ex JI,t.rt=0)/\∀t∈dJ n M sc ex JI,t.txt.length<=2*L+7:=by
 refine jd (dR (M:=M) h2) λKj hy U=>?_;have hl:=jW Kj hy;have hx:=TK Kj hy;unfold dJ;refine⟨by rw[Qu,Qs,Q9];exact Eq.symm ((λ{n m}=>TA.mpr) (id (Eq.symm hl))),λt ht=>?_,λt ht=>?_⟩
 ·rcases Qz.mp ht with ht|ht
  ·refine ay (QR.mp ht) λk hk U=>?_;subst U
   exact H.rt _ (cN H (dD hk))
  ·rw[QB.mp ht];rfl
 ·rcases Qz.mp ht with ht|ht
  ·refine ay (QR.mp ht) λk hk U=>?_;subst U
   have:=H.tl _ (cN H (dD hk));lia
  ·rw[QB.mp ht]
   exact Af _ _ (H.rt _ (cN H hx)) (H.rt _ (cN H hy)) _ _ (H.tl _ (cN H hx)) (H.tl _ (cN H hy))
theorem s5{M:List (List Int)}(h2:2<=n):(eW n ks (aq n M).2.1 (aq n M).2.2).length=n-1:=by refine jd (dR (M:=M) h2) λKj hy U=>?_;have hl:=jW Kj hy;unfold eW;rw[Qu,Qs,Q9];exact Eq.symm ((λ{n m}=>TA.mpr) (id (Eq.symm hl)))
theorem wu{M:List (List Int)}(h2:2<=n):Sq (n-1) (a9 n M):=by exact jd (dR (M:=M) h2) λKj hy U=>Cv Kj hy
end
theorem z3:og 5 2 rl eV:=⟨rfl,rfl,GJ,by
 intro t ht
 have:∀t∈eV,t.rt=0:=by decide
 exact this t ht,by
 intro t ht;simp only[eV,Qw,Q3,or_false]at ht;rcases ht with rfl|rfl|rfl|rfl|rfl<;>decide⟩
theorem Ap(M:List (List Int)):((aq 5 M).2.1,(aq 5 M).2.2)∈eY:=by
 refine jd (dR (many:=5) (M:=M) dk) λKj hy U=>?_
 have:∀y<5,∀x<y,(x,y)∈eY:=by decide
 exact this _ hy _ Kj
theorem Er(M:List (List Int)):pz (eW 5 rl (aq 5 M).2.1 (aq 5 M).2.2)=true/\pD (rl.getD (aq 5 M).2.2 "" ++ Txt.upper (rl.getD (aq 5 M).2.1 "")):=by exact xA (QI.mp (QL.mp GK _ (Ap M))) λh1 h2=>⟨h1,lf h2⟩
theorem sM(h:pz ks=true)(hk:k<ks.length):yo (ks.getD k ""):=by refine xA (QI.mp h) λh1 U=>?_;refine vV (QL.mp h1 _ ?_);rw[Qv,QE hk];exact RH hk
theorem Ep(h:pz ks=true){x y:Nat}(hx:x<ks.length)(hy:y<ks.length):pD (ks.getD y "" ++ Txt.upper (ks.getD x "")):=by have kx:=sM h hx;have ky:=sM h hy;have h1:=kx.su;have h2:=ky.s;exact EW ky.n kx.nu (by lia)
section
variable{a:je}
noncomputable def N5(d:D):D:=.tup [d,d]
theorem E9:((bZ.filter λU=>true).map N5)=(a7 rl eV).map bp:=by rfl
theorem Az:∀p∈a7 rl eV,pK p:=by
 have h:∀p∈a7 rl eV,EU p.1=true/\EU p.2=true:=by decide +kernel
 intro p hp;exact xA (h p hp) λh1 h2=>⟨lf h1,(lf h2).1,λch hc=>⟨.inl ((lf h2).2 ch hc).1,((lf h2).2 ch hc).2⟩⟩
theorem NM(hE:FD T 3 "_law_ends" [] (.list bZ))(Hh:Hd T a)(HC:FE T a.C a.fI){M:List (List Int)}(hp:∀b,P .next (CQ M ex a.C b 1 .no .no .no .no .no .no .no .no .no .no .no (a7 rl eV))):
  W1 T cX ([.val (bR M),.val (.bool ex)]++List.replicate 15 .no) (jc (bF 81) 0) P:=by
 refine oH (n:=2) (yY Hh HC (hs:=a7 rl eV) (Z 1) dk ?_ Az (Z 2) (Z 2) (λb=>jJ ag (gJ ⟨rfl,_,wE 2 rfl rfl rfl (Z 1) (Ff 16 rfl rfl rfl (Z 1) (wE 3 rfl rfl rfl (Z 1) CW (Z 2))) (Z 2),hp b⟩) (Z 2))) (Z 2) (Z 2) dk (Z 2) (λU ok=>(bo ok).trans (Z 1));rw[<-E9];refine jI (own:=["name"]) (fr:=[]) (wr':=[]) (fi:=[]) (fs:=[]) (items:=bZ) (p:=λU=>true) (f:=N5) (g:=λd=>[.val d]) (n':=5)
  (bb (oS (kA hE dk)) rfl) dk dk dk rfl rfl dk dk dk (Z 1) dk (Z 5) ?_ (λU U=>aw) ?_
 ·intro d hd Wj hσ
  refine ay (bL (fs:=[]) hσ λd' JX=>⟨_,rfl⟩) λo U g=>?_;subst U;exact ae 0 rfl rfl g
 ·intro d hd _
  exact aV (ah (aa 0) (ah (aa 0) ad)) (show 2<=sizeLine by decide)
end
theorem qo{M:List (List Int)}{i a b:Nat}{x y:Int}(h:Sq n M)(hf:O[i]? = some (.val (bR M)))(hc:FP c i "far" = true)(ha:a<n)(hb:b<n)(sx:seqIndex? x n=some a)(sy:seqIndex? y n=some b)(bx:-(2^63)<=x/\x<2^63)(Y9:-(2^63)<=y/\y<2^63)(h1:Ev T c O ea (.int x))(h2:Ev T c O eb (.int y))(Km:∀o i,subscripted ea false o i=operate [o,i] (getItem o i):=by intros;rfl)(Kp:∀o i,subscripted eb false o i=operate [o,i] (getItem o i):=by intros;rfl):Ev T c O (.Subscript (.Subscript (.Name "far" p1) ea p2) eb p3) (.int (fg M a b)):=by
 refine xA (h.get ha) λg1 g2=>?_;exact aI (aI (aa i hf hc) h1 (aH (j:=a) (by rw[Qs,h.len];exact sx) g1 bx.1 bx.2) Km) h2 (aH (j:=b) (by rw[Qs,g2];exact sy) (qQ (by rw[g2];exact hb)) Y9.1 Y9.2) Kp
def N4(M:List (List Int))(d:D):D:=.int (bQ M 4 (fj d).toNat)
def oR(M:List (List Int)):List Int:=(List.range 3).map λk=>bQ M 4 k
theorem w5(M:List (List Int)):((rng 0 ((3:Nat):Int)).filter λU=>true).map (N4 M)=(oR M).map D.int:=by rfl
theorem Jn:∀k<3,seqIndex? ((k:Nat):Int) 3=some k/\seqIndex? (((k:Nat):Int)-1) 3=some ((k+2)%3)/\seqIndex? (((k:Nat):Int)-2) 3=some ((k+1)%3):=by decide +kernel
theorem Dc(hR:Ω8 T){M:List (List Int)}(hM:Sq 3 M)(h0:O[0]? = some (.val (bR M)))(h3:O[3]? = some (.val (.int ((4:Nat):Int)))){o:Slot}(Mr:O[15]? = some o)(Wu:o.ZW=false)(hp:P .next (O.set 15 (.val (.list ((oR M).map .int))))):W1 T cX O (jc (bF 81) 2) P:=by
 have Ma:[0,3].map (λi=>(cX.names[i]?,O[i]?))=([("far" : Str),"scale"].zip [bR M,.int ((4:Nat):Int)]).map λq=>(some q.1,some (Slot.val q.2)):=by simp only[QW,Tq,h0,h3];rfl
 refine cA 15 (own:=["k"]) (fr:=["far","scale"]) (wr':=[]) (fi:=[0,3]) (fs:=[bR M,.int ((4:Nat):Int)]) (items:=rng 0 ((3:Nat):Int)) (p:=λU=>true) (f:=N4 M) (g:=λd=>[.val d,.val (bR M),.val (.int ((4:Nat):Int))]) (n':=5)
   (dO hR ag rfl (by exact FO) (by exact Rat.intCast_lt_intCast.mp rfl)) dk dk dk rfl Ma dk dk dk (Z 1) dk (Z 5) ?_ (λU U=>aw) ?_ rfl Mr Wu (Z 1) (λU ok=>(di ok).trans (Z 1)) ?_
 ·intro d hd Wj hσ
  refine ay (bL (fs:=[.val (bR M),.val (.int ((4:Nat):Int))]) hσ λd' JX=>⟨_,rfl⟩) λo U g=>?_;subst U;exact ae 0 rfl rfl g
 ·intro d hd _
  refine ay (iM hd) λk U hk=>?_;subst U;refine jd (Jn k hk) λi0 i1 i2=>?_;have b0:-(2^63)<=(k:Int)/\(k:Int)<2^63:=by lia
  have b1:-(2^63)<=(k:Int)-1/\(k:Int)-1<2^63:=by lia
  have b2:-(2^63)<=(k:Int)-2/\(k:Int)-2<2^63:=by lia
  have l1:(k+2)%3<3:=Sl _ dk;have l2:(k+1)%3<3:=Sl _ dk;exact hU (bu (bH (qo (i:=1) hM rfl (Z 1) hk l1 i0 i1 b0 b1 (aa 0) (bu (aa 0) ag))
   (qo (i:=1) hM rfl (Z 1) hk l2 i0 i2 b0 b2 (aa 0) (bu (aa 0) ag)))
   (qo (i:=1) hM rfl (Z 1) l1 l2 i1 i2 b1 b2 (bu (aa 0) ag) (bu (aa 0) ag)))
   (eu ag (aa 2) (Sa dk)) dk (RG dk)
 ·rw[w5];exact hp
theorem zJ(x y z:List Nat):Txt.join (aj [44]) ([x,y,z].map aj)=aj (x++44::(y++44::z)):=by rw[beq_iff_eq.mp (join_plain_closes _ _)];show aj x++aj [44]++(aj y++aj [44]++aj z)=_;rw[bq,bq,bq,bq,QQ,QQ];rfl
section
variable{O:St}{P:dL}{a:je}{b:Addr}
def A1(ex:Bool)(M:List (List Int))(A B C:NT):be:=⟨A.mark (aY ex (bQ M 4 0)),B.mark (aY ex (bQ M 4 1)),C.mark (aY ex (bQ M 4 2))⟩
def Ou(ex:Bool):D->D
 |.tup [.str s,.int e]=>.str (s++aj (eJ (aY ex e)))
 |_=>.none
theorem Fx(hZ:Bl T "zip" (.type "zip"))(Hh:Hd T a){k1 k2 k3:Str}{A B C:NT}(rA:A.rt=0)(rB:B.rt=0)(rC:C.rt=0)(lA:A.txt.length<=200)(lB:B.txt.length<=200)(lC:C.txt.length<=200){M:List (List Int)}(hm:ex=true->∀k<3,gQ (bQ M 4 k))(h1:O[1]? = some (.val (.bool ex)))(h2:O[2]? = some (.val (.inst a.C b)))(Mr:O[15]? = some (.val (.list ((oR M).map .int))))(Ku:O[16]? = some (.mu b (gu (a7 [k1,k2,k3] [A,B,C]))))(hp:P (.ret (.str (aj (A1 ex M A B C).txt))) O):W1 T cX O (jc (bF 81) 3) P:=by
 have hl:2<O.length:=(Q0.mp h2).1;have Ma:[1].map (λi=>(cX.names[i]?,O[i]?))=([("exact" : Str)].zip [D.bool ex]).map λq=>(some q.1,some (Slot.val q.2)):=by simp only[QW,Tq,h1];rfl
 have M5:((O.set 16 (.val (.list ((a7 [k1,k2,k3] [A,B,C]).map bp)))).set 2 (.val (.hdr a.C ((a7 [k1,k2,k3] [A,B,C]).map bp))))[2]? = some (.val (.hdr a.C ((a7 [k1,k2,k3] [A,B,C]).map bp))):=Th (by rw[List.length_set];exact hl);have Kh:∀d∈lG (([A,B,C].map λt=>aj t.txt).map .str) ((oR M).map .int),∃t e,d=.tup [.str (aj t),.int e]/\t.length<=200/\(ex=true->gQ e):=λd hd=>by
  have hd:d=.tup [.str (aj A.txt),.int (bQ M 4 0)]\/d=.tup [.str (aj B.txt),.int (bQ M 4 1)]\/d=.tup [.str (aj C.txt),.int (bQ M 4 2)]:=by
   have:d∈[D.tup [.str (aj A.txt),.int (bQ M 4 0)],.tup [.str (aj B.txt),.int (bQ M 4 1)],.tup [.str (aj C.txt),.int (bQ M 4 2)]]:=hd
   simpa using this
  rcases hd with rfl|rfl|rfl
  ·exact⟨_,_,rfl,lA,λe=>hm e 0 dk⟩
  ·exact⟨_,_,rfl,lB,λe=>hm e 1 dk⟩
  ·exact⟨_,_,rfl,lC,λe=>hm e 2 dk⟩
 have lst:((lG (([A,B,C].map λt=>aj t.txt).map .str) ((oR M).map .int)).filter λU=>true).map (Ou ex)=([A.txt++eJ (aY ex (bQ M 4 0)),B.txt++eJ (aY ex (bQ M 4 1)),C.txt++eJ (aY ex (bQ M 4 2))].map aj).map .str:=by rw[RD.mpr (Z 5)];show[D.str (aj A.txt++aj (eJ (aY ex (bQ M 4 0)))),.str (aj B.txt++aj (eJ (aY ex (bQ M 4 1)))),.str (aj C.txt++aj (eJ (aY ex (bQ M 4 2))))]=_;rw[bq,bq,bq];rfl
 have hj:Txt.join ("," : Str) ([A.txt++eJ (aY ex (bQ M 4 0)),B.txt++eJ (aY ex (bQ M 4 1)),C.txt++eJ (aY ex (bQ M 4 2))].map aj)=_:=zJ _ _ _;have m0:=dP (aY ex (bQ M 4 0));have m1:=dP (aY ex (bQ M 4 1));have m2:=dP (aY ex (bQ M 4 2));refine bf (d:=.str (aj (A1 ex M A B C).txt)) (Ev.to (eR (eR aA (iA aA (ys:=[A.txt++eJ (aY ex (bQ M 4 0)),B.txt++eJ (aY ex (bQ M 4 1)),C.txt++eJ (aY ex (bQ M 4 2))].map aj) (Ev.to (se (own:=["text","end"]) (fr:=["exact"]) (wr':=[]) (fi:=[1]) (fs:=[.bool ex]) (items:=lG (([A,B,C].map λt=>aj t.txt).map .str) ((oR M).map .int)) (p:=λU=>true) (f:=Ou ex)
   (g:=λd=>match d with|.tup [x,y]=>[.val x,.val y,.val (.bool ex)]|_=>[]) (n':=5)
   (zD hZ (si 16 2 (ks:=[A,B,C].map λt=>aj t.txt) rfl Ku rfl h2 dk (oT (IA Hh (a7 [k1,k2,k3] [A,B,C]) (show 3<=sizeLine by decide)) (aa 2 M5) (.inr ⟨_,rfl⟩) rfl Hh.mV .nil cp (Z 8) dk)) (aa 15 Mr))
   dk dk dk rfl Ma dk dk dk (Z 1) (show 3<=sizeLine by decide) (Z 5) ?_ (λU U=>aw) ?_) (QV D.list lst)) (Z 6) (Z 2) ?_) ?_) aA ?_) ?_) hp
 ·intro t ht Wj hσ
  refine dE (Kh t ht) λx e zE U=>?_;subst zE;obtain⟨o,o',rfl,g1,g2⟩:=j8 (fs:=[.val (.bool ex)]) hσ λd' JX=>by refine dE (Kh d' JX) λx e zE U=>?_;subst zE;exact⟨_,_,rfl⟩
  exact cz (an (ae 0 rfl rfl g1) (an (ae 1 rfl rfl g2) bg))
 ·intro t ht _
  refine kg (Kh t ht) λx e U hl hr=>?_;subst U;refine eR (b:=aj (eJ (aY ex e))) (aa 0) (Ev.to (fx (b:=ex) (d:=eD e.toNat) (d':=.str (aj [])) (dU (aa 2) (Z 5)) (λhe=>?_) (λU=>aA)) ?_) ?_
  ·refine Bg (nj (hr he)) λm e1 l1 s1 t1=>?_
   exact Ev.to (aI (av (ds:=[.str (aj []),.str (aj [58]),.str (aj [58,61])]) (aF rfl)) (aa 1) (aH (j:=m) s1 t1 (by rw[e1];exact s6) (by rw[e1];lia))) (by rw[e1];rfl)
  ·cases ex<;>rfl
  ·rw[aM,aM]
   have:=dP (aY ex e)
   exact QC (show _<=202 by lia) dk
 ·show((aj (A.txt++eJ (aY ex (bQ M 4 0)))).length+((aj (B.txt++eJ (aY ex (bQ M 4 1)))).length+((aj (C.txt++eJ (aY ex (bQ M 4 2)))).length+0)))+3*1<=16777216
  rw[aM,aM,aM,Qu,Qu,Qu];lia
 ·rw[hj,aM]
  show 1+_<=sizeLine;simp only[Qu,QK];exact QC (show _<=1000 by lia) dk
 ·rw[hj]
  show(aj [40]++aj _).length+2<=sizeLine;rw[bq,aM];simp only[Qu,QK,Ro];exact QC (show _<=1000 by lia) dk
 ·rw[hj]
  show D.str (aj [40]++aj _++aj [41,59])=_;rw[bq,bq];congr 2;unfold A1 be.txt;rw[ie rA,ie rB,ie rC];simp only[RY,QQ,SK]
theorem sU(hf:cf T "_law_written" ["far","exact"] (fh 81) (bF 81))(hE:FD T 3 "_law_ends" [] (.list bZ))(Z:F9 T a)(HC:FE T a.C a.fI)(hZ:Bl T "zip" (.type "zip")){M:List (List Int)}(hM:Sq 5 M)(Kf:ex=true->gB M):
  Fn T 7 "_law_written" [bR M,.bool ex] (.str (aj (bN M ex).txt)):=by
 refine eU (n:=6) (rest:=Oc.drop 2) (wr:=["far","exact","scale","many","sums","a","b","rest"]) hf rfl ?_;refine ac (NM hE Z.hd HC λb=>?_);refine xA (Er M) λZj kn5=>?_;refine jd (pB (n:=5) (M:=M) (sc:=1) (ex:=ex) dk z3) λl1 r1 t1=>?_;have L1:og 4 11 (eW 5 rl (aq 5 M).2.1 (aq 5 M).2.2) (dJ 5 M 1 ex eV):=⟨s5 dk,l1,Zj,r1,t1⟩;have S1:Sq 4 (a9 5 M):=wu (n:=5) dk;have S2:Sq 3 (a9 4 (a9 5 M)):=wu (n:=4) dk;refine jd (pB (n:=4) (M:=a9 5 M) (sc:=2) (ex:=ex) dk L1) λl2 r2 t2=>?_;have K2:(eW 4 (eW 5 rl (aq 5 M).2.1 (aq 5 M).2.2) (aq 4 (a9 5 M)).2.1 (aq 4 (a9 5 M)).2.2).length=3:=s5 (n:=4) dk;have hn4:pD ((eW 5 rl (aq 5 M).2.1 (aq 5 M).2.2).getD (aq 4 (a9 5 M)).2.2 "" ++ Txt.upper ((eW 5 rl (aq 5 M).2.1 (aq 5 M).2.2).getD (aq 4 (a9 5 M)).2.1 "")):=by refine jd (dR (M:=a9 5 M) (many:=4) dk) λKj hy U=>?_;exact Ep Zj (by rw[L1.kl];exact TK Kj hy) (by rw[L1.kl];exact hy)
 refine ac (eA (mY (aV (ds:=[.int ((5:Nat):Int),.int ((4:Nat):Int)]) (aF rfl) (show 2<=sizeLine by decide)) rfl) ?_ (Z 5));refine⟨_,ae 4 rfl rfl rfl,?_⟩;refine tW (o5:=.no) (o6:=.no) (o7:=.no) (o8:=.no) (o9:=.no) (oa:=.no) (ob:=.no) (oc:=.no) (od:=.no) (oe:=.no) Z (n:=5) (sc:=1) (.inl ⟨rfl,rfl⟩) (.inl rfl) hM z3 dk (λe=>⟨(Kf e).one5,(Kf e).two5⟩) kn5 rfl rfl rfl rfl rfl rfl rfl rfl rfl rfl λo5 o6 o7 o8 o9 oa ob oc od oe m5 m6 m7 m8 m9 ma mb mc md me=>?_;generalize hM1:a9 5 M=M1 at *;refine⟨CQ M1 ex a.C b 2 (.val (.int ((4:Nat):Int))) o5 o6 o7 o8 o9 oa ob oc od oe (a7 (eW 5 rl (aq 5 M).2.1 (aq 5 M).2.2) (dJ 5 M 1 ex eV)),ae 4 rfl rfl rfl,?_⟩;refine tW Z (n:=4) (sc:=2) (.inr ⟨rfl,rfl⟩) (.inr rfl) S1 L1 dk (λe=>by have:=Kf e;rw[<-hM1];exact⟨this.one4,this.two4⟩) hn4 m5 m6 m7 m8 m9 ma mb mc md me λo5 o6 o7 o8 o9 oa ob oc od oe m5 m6 m7 m8 m9 ma mb mc md me=>?_;refine tZ (AZ K2) λk1 k2 k3 ek=>?_;refine tZ (AZ l2) λA B C el=>?_;have ew:bN M ex=A1 ex (a9 4 M1) A B C:=by have e:bN M ex=A1 ex (a9 4 (a9 5 M)) ((dJ 4 (a9 5 M) 2 ex (dJ 5 M 1 ex eV)).getD 0 eK) ((dJ 4 (a9 5 M) 2 ex (dJ 5 M 1 ex eV)).getD 1 eK) ((dJ 4 (a9 5 M) 2 ex (dJ 5 M 1 ex eV)).getD 2 eK):=rfl;rw[e,hM1,el];rfl
 have Xg:ex=true->∀k<3,gQ (bQ (a9 4 M1) 4 k):=λe=>by rw[<-hM1];exact(Kf e).ends
 rw[el]at r2 t2;rw[ew,ek,el];generalize a9 4 M1=M2 at *;have mem:A∈[A,B,C]/\B∈[A,B,C]/\C∈[A,B,C]:=⟨.head _,.tail _ (.head _),.tail _ (.tail _ (.head _))⟩;exact ac (Dc Z.range S2 rfl rfl rfl rfl (ac (Fx hZ Z.hd (r2 _ mem.1) (r2 _ mem.2.1) (r2 _ mem.2.2) (QC (t2 _ mem.1) dk) (QC (t2 _ mem.2.1) dk) (QC (t2 _ mem.2.2) dk) Xg rfl rfl rfl rfl (.inl rfl))))
end
theorem wD{b b':Bool}(h:dc T c O es b)(e:b=b'):dc T c O es b':=e▸h
theorem CA:∀(k:Nat)(d:D),i9 k d=true->d.py.canLay0=true:=by
 intro k;induction k with
 |zero=>intro d h;cases d<;>first|rfl|exact h|exact absurd h Rc
 |succ k ih=>
  have all:∀ds:List D,ds.all (i9 k)=true->PyData.canLayAll0 (uc ds)=true:=λds=>by
   induction ds with
   |nil=>intro _;rfl
   |cons d ds ih'=>intro h;rw[List.all_cons,R9]at h;exact QI.mpr ⟨ih d h.1,ih' h.2⟩
  intro d h;cases d<;>first|rfl|exact h|exact absurd h Rc|exact all _ h
theorem uz(h:i9 k d=true):PyData.eqv d.py d.py=true:=PySem.SeqAt.eqv_refl _ (CA k d h)
theorem Ai{α:Type}{f:α->D}{l:List α}(h:∀a∈l,i9 k (f a)=true):i9 (k+1) (.list (l.map f))=true:=by show(l.map f).all (i9 k)=true;rw[QL];intro d hd;refine ay (QR.mp hd) λa ha U=>?_;subst U;exact h a ha
theorem iG(k:Nat)(l:List Int):i9 (k+1) (.list (l.map .int))=true:=Ai λU U=>by cases k<;>rfl
theorem s3:∀m,∀ch∈eJ m,ch∈fW:=gd (P:=λl=>∀ch∈l,ch∈fW) _ dk nofun
theorem yS(h:k<5):∀ch∈dp k,ch∈fW:=λch hc=>by
 have:∀ch∈([102,105,108,115,116]:List Nat),ch∈fW:=by decide
 exact this ch (yT k h ch hc)
theorem nA:∀{t:NT},t.ok->∀ch∈t.txt,ch∈fW:=by
 intro t;induction t with
 |leaf k m=>
  intro h ch hc;rcases Qz.mp hc with hc|hc
  ·exact yS h.1 ch hc
  ·exact s3 m ch hc
 |node a b m IHa IHb=>
  intro h ch hc;have hc:ch∈40::(a.txt++44::(b.txt++41::eJ m)):=hc;simp only[Qw,Qz]at hc;rcases hc with rfl|hc|rfl|hc|rfl|hc
  ·decide
  ·exact IHa h.1 ch hc
  ·decide
  ·exact IHb h.2.1 ch hc
  ·decide
  ·exact s3 m ch hc
theorem pU{t:be}(h:t.ok):∀ch∈t.txt,ch∈fW:=λch hc=>by
 refine jd h λh1 h2 h3=>?_;unfold be.txt at hc;simp only[Qw,Qz,Q3,or_false]at hc;rcases hc with rfl|hc|rfl|hc|rfl|hc|rfl|rfl
 ·decide
 ·exact nA h1 ch hc
 ·decide
 ·exact nA h2 ch hc
 ·decide
 ·exact nA h3 ch hc
 ·decide
 ·decide
structure LF(T:a6):Prop where
 drawn:∀JK:List Int,JK.length<=63->Fn T 7 "_law_drawn" [.list (JK.map .int)] (yM (jj JK))
 typed:∀(t:List Nat)(JJ:Nat),t.length<=100->Fn T 5 "_law_typed" [.str (aj t),.int JJ] (.list ((fc t.length JJ 0 t).map wL))
 b3:∀ch:Nat,Cm ch->Fn T 4 "map_table_b3" [.str (aj [ch])] (.str (rH ch))
 b1:∀ch:Nat,Fn T 4 "in_table_b1" [.str (aj [ch])] (.bool (uE ch))
 symbols:∀t:be,et t->Fn T 5 "_law_symbols" [.str (aj t.txt)] (.list ((t.Z6++[0]).map .int))
 isT:∀x:Int,Fn T 3 "ISTERMINAL" [.int x] (.bool (decide (x<256)))
 isN:∀x:Int,Fn T 3 "ISNONTERMINAL" [.int x] (.bool (decide (256<=x)))
 isE:∀x:Int,Fn T 3 "ISEOF" [.int x] (.bool (x==0))
 ZY:∀t:be,et t->Fn T 6 "_law_edges" [.list ((t.Z6++[0]).map .int)] (.list (t.ZY.map kh))
 sides:∀t:be,et t->F8 t->Fn T 6 "_law_sides" [.list (t.ZY.map kh)] (.list ((AC t).map .str))
 far:∀c:List Nat,Fn T 7 "_law_far" [.list ((bi c).ZY.map kh),.list (aU (i7 c))] (.tup [bR (d9 (oz c)),bR (d9 (oA c)),.bool true])
 written:∀(S:Nat->Nat->Int)(ex:Bool),(ex=true->gB (d9 S))->Fn T 7 "_law_written" [bR (d9 S),.bool ex] (.str (aj (bN (d9 S) ex).txt))
noncomputable abbrev sQ:List Str:=["script","text","due","less","seed","typed","prepared","symbols","symbol","edges","far","short","fits","drawn","found"]
abbrev lw:Cx:=⟨9,fh 82,sQ,[]⟩
def lS(i:Nat):Stmt:=jc (bF 82) i
noncomputable abbrev nO(l:List Slot):St:=l++List.replicate (15-l.length) .no
noncomputable def To(Wj:St):dL:=λfl O=>fl=.next/\O=Wj
noncomputable def Os(JK:List Int):List Slot:=[.val (.list (JK.map .int))]
def Nx(JK:List Int)(c:List Nat):List Slot:=[.val (.list (JK.map .int)),.val (.str (aj (bi c).txt)),.val (.list (((bi c).Z6++[0]).map .int)),.val (.list (aU (i7 c))),.val (.int (c.getD 3 0:Nat))]
theorem l0(L:LF T)(JK:List Int)(hl:JK.length<=63)(c:List Nat)(hc:c=jj JK):W1 T lw (nO (Os JK)) (lS 0) (To (nO (Nx JK c))):=by
 subst hc;refine dm (Ev.to (bk (L.drawn JK hl) (ah (aa 0) ad)) (DV _))
  (cz (an (ae 1 rfl rfl rfl) (an (ae 2 rfl rfl rfl) (an (ae 3 rfl rfl rfl) (an (ae 4 rfl rfl rfl) bg))))) (Z 2) (Z 5) ⟨rfl,rfl⟩
abbrev Fk(c:List Nat):List (Nat×Bool):=fc (bi c).txt.length (c.getD 3 0) 0 (bi c).txt
def Ny(JK:List Int)(c:List Nat):List Slot:=Nx JK c++[.val (.list ((Fk c).map wL))]
theorem l1(L:LF T)(JK:List Int)(c:List Nat)(H:n0 c):W1 T lw (nO (Nx JK c)) (lS 1) (To (nO (Ny JK c))):=
 ak 5 (bk (L.typed (bi c).txt (c.getD 3 0) (QC H.f0.txt dk)) (ah (aa 1) (ah (aa 4) ad))) rfl rfl ⟨rfl,rfl⟩
def Nz(JK:List Int)(c:List Nat):List Slot:=Ny JK c++[.val (.str (aj (bi c).txt))]
theorem wK{items:List (Nat×Bool)}{t:D}{k:_}(hn:c.names=[("sign" : Str),"unseen"])(h0:b8 c "sign" = true)(h1:b8 c "unseen" = true)(Md:t∈items.map wL)(hσ:Wj=([("sign" : Str),"unseen"]:List Str).map (λU=>Slot.no)++([]:List D).map .val\/(∃d'∈items.map wL,Wj=(match d' with|.tup [a,b]=>[.val a,.val b]|_=>[]:St))):
  Tg c Wj (.Tuple [.Name "sign" p1,.Name "unseen" p2] k p3) t (match t with|.tup [a,b]=>[.val a,.val b]|_=>[]):=by
 refine ay (QR.mp Md) λq U U=>?_;subst U
 have:∃o o':Slot,Wj=[o,o']/\o.ZW=false/\o'.ZW=false:=by
  rcases hσ with rfl|⟨d',K0,rfl⟩
  ·exact⟨.no,.no,rfl,rfl,rfl⟩
  ·refine ay (QR.mp K0) λq U U=>?_;subst U
   exact⟨_,_,rfl,rfl,rfl⟩
 refine kg this λo o' U g1 g2=>?_;subst U;exact cz (an (ae 0 (by rw[hn];rfl) rfl g1 h0) (an (ae 1 (by rw[hn];rfl) rfl g2 h1) bg))
theorem l2(L:LF T)(JK:List Int)(c:List Nat)(H:n0 c):W1 T lw (nO (Ny JK c)) (lS 2) (To (nO (Nz JK c))):=by
 obtain⟨Kf,⟨ps,Wx,K4,J0⟩,JF⟩:=pW (c.getD 3 0) (bi c).txt.length 0 (bi c).txt (QO _) (pU H.f0.ok);have Xh:=H.f0.txt;refine ak 6 (d:=.str (aj (bi c).txt)) (Ev.to (iA aA (ys:=ps.map aj) (Ev.to (bW (own:=["sign","unseen"]) (fr:=[]) (wr':=[]) (fi:=[]) (fs:=[]) (items:=(Fk c).map wL) (p:=λt=>match t with|.tup [_,.bool b]=>!b|_=>false)
   (f:=λt=>match t with|.tup [.str x,_]=>.str (rH (x.cps.toList.headD 0))|_=>.none) (g:=λt=>match t with|.tup [a,b]=>[.val a,.val b]|_=>[]) (n':=9)
   (bb (aa 5) rfl) (QO _) dk dk rfl rfl dk dk dk (Z 1) (by rw[Qs];exact QC JF (QC (TP 2 Xh) dk)) (Z 5) (λt Md Wj hσ=>wK rfl (Z 1) (Z 1) Md hσ) ?_ ?_) ?_) (Z 6) (Z 2) ?_) ?_) rfl rfl ⟨rfl,rfl⟩
 ·intro t Md
  refine ay (QR.mp Md) λq U U=>?_;subst U;exact wD (ci (vj (dU (aa 1) (Z 5))) (λU=>aw)) (So _)
 ·intro t Md hp
  refine ay (QR.mp Md) λq hq U=>?_;subst U;exact bk (L.b3 q.1 (Kf q hq).2) (ah (aa 0) ad)
 ·rw[SM,QZ]
  refine QV D.list ?_
  have:=QV (List.map D.str) Wx
  rw[QZ]at this;exact this
 ·rw[tJ,K4]
  show _+_*0<=_;lia
 ·exact QV D.str ((pj ps).trans (QV aj K4))
def DF(JK:List Int)(c:List Nat)(o:Slot):List Slot:=Nz JK c++[.val (.list (((bi c).Z6++[0]).map .int)),o]
theorem l3(L:LF T)(JK:List Int)(c:List Nat)(H:n0 c):W1 T lw (nO (Nz JK c)) (lS 3) (To (nO (DF JK c .no))):=
 ak 7 (bk (L.symbols (bi c) H.f0) (ah (aa 6) ad)) rfl rfl ⟨rfl,rfl⟩
theorem l4(L:LF T)(JK:List Int)(c:List Nat)(H:n0 c):W1 T lw (nO (DF JK c .no)) (lS 4) (To (nO (DF JK c .no))):=by
 obtain⟨Kf,_,JF⟩:=pW (c.getD 3 0) (bi c).txt.length 0 (bi c).txt (QO _) (pU H.f0.ok);have Xh:=H.f0.txt;refine bM (dZ (cn (aE (Ev.to (d':=.list (([]:List Int).map .int)) (bW (own:=["sign","unseen"]) (fr:=[]) (wr':=[]) (fi:=[]) (fs:=[]) (items:=(Fk c).map wL) (p:=λU=>false)
   (f:=λt=>match t with|.tup [x,_]=>x|_=>.none) (g:=λt=>match t with|.tup [a,b]=>[.val a,.val b]|_=>[]) (n':=9)
   (bb (aa 5) rfl) (QO _) dk dk rfl rfl dk dk dk (Z 1) (by rw[Qs];exact QC JF (QC (TP 2 Xh) dk)) (Z 5) (λt Md Wj hσ=>wK rfl (Z 1) (Z 1) Md hσ) ?_ ?_) ?_) (Ev.to (d':=.list (([]:List Int).map .int)) (av ad) rfl) (jE (k:=1) (k':=1) (iG 0 []) (iG 0 []) dk)) (λU=>
  cn (aE (aa 6) (aa 1) lL) (λU=>
  cn (aE (aa 7) (aa 2) (jE (k:=1) (k':=1) (iG 0 _) (iG 0 _) dk)) (λU=>j4))))) (λe=>?_) (λU=>aL ⟨rfl,rfl⟩)
 ·intro t Md
  refine ay (QR.mp Md) λq hq U=>?_;subst U;refine wD (ci (aE (bk (L.b1 q.1) (ah (aa 0) ad)) (aa 1) du) (λU=>aw)) ?_;rw[(Kf q hq).1,bne_self_eq_false];rfl
 ·intro t Md hp
  exact fF hp
 ·rw[List.filter_eq_nil_iff.mpr (λU U=>by simp)];rfl
 ·exfalso
  rw[uz (iG 0 _),uz (iG 0 _),bne_self_eq_false]at e;contradiction
theorem jt:∀t:NT,t.Z6.length+5<=9*t.part.length:=by
 intro X_;induction X_ with
 |leaf k m=>have h1:=ql k;have h2:=qG m;show(kR (dp k)++v9 m).length+5<=9*1;rw[Qu];unfold kR;rw[Qs];lia
 |node a b m IHa IHb=>have h1:=IHa;have h3:=IHb;have h2:=qG m;show(7::(a.Z6++12::(b.Z6++8::v9 m))).length+5<=9*(a.part++b.part).length;simp only[Qu,QK];lia
theorem et.Z6{t:be}(h:et t):t.Z6.length<=60:=by
 have e:t.x.part.length+(t.y.part.length+t.z.part.length)=5:=by have:=h.five;unfold be.part at this;rw[Qu,Qu]at this;exact this
 have h1:=jt t.x;have h2:=jt t.y;have h3:=jt t.z;unfold be.Z6;simp only[Qu,QK,Ro];lia
theorem l5(L:LF T)(JK:List Int)(c:List Nat)(H:n0 c):W1 T lw (nO (DF JK c .no)) (lS 5) (λfl O=>fl=.next/\∃o:Slot,o.ZW=false/\O=nO (DF JK c o)):=by
 have Xh:=H.f0.Z6;refine eA (bb (Ev.to (cZ (as':=((bi c).Z6++[0]).map .int) (bs:=([-1,255,256]:List Int).map .int) (aa 7) (av (ah (mJ rfl) (ah ag (ah ag ad)))) (by rw[Qs,Qs,Qu];exact QC (ST (ST Xh 1) 3) dk)) (QV D.list (QU (f:=D.int)).symm)) rfl)
  (gp (λi O=>∃o:Slot,o.ZW=false/\O=nO (DF JK c o)) (λO h=>⟨rfl,h⟩) ?_ ⟨.no,rfl,rfl⟩) (Z 5)
 rintro i x O hx ⟨o,ho,rfl⟩;obtain⟨s,rfl⟩:∃s:Int,x=.int s:=by
  rw[QX]at hx;rcases q:(((bi c).Z6++[0])++[-1,255,256])[i]? with _|s
  ·rw[q]at hx;contradiction
  ·rw[q]at hx;exact⟨s,by obtain rfl:=QG hx;rfl⟩
 refine⟨_,ae 8 rfl rfl ho,?_⟩;refine ac (bM (dZ (cn (aE (bk (L.isT s) (ah (aa 8) ad)) (dM (aa 8) ag kq rfl) du) (λU=>
  cn (aE (bk (L.isN s) (ah (aa 8) ad)) (dM (aa 8) ag jk rfl) du) (λU=>
  cn (aE (bk (L.isE s) (ah (aa 8) ad)) (dM (aa 8) ag gC rfl) du) (λU=>j4))))) (λe=>?_) (λU=>aL (aL ⟨_,rfl,rfl⟩)))
 exfalso;have h2:decide (256<=s)=decide (255<s):=decide_eq_decide.mpr (by exact Eq.to_iff rfl);rw[bne_self_eq_false,bne_self_eq_false,h2,bne_self_eq_false]at e;contradiction
def NA(JK:List Int)(c:List Nat)(o:Slot):List Slot:=DF JK c o++[.val (.list ((bi c).ZY.map kh))]
theorem l6(L:LF T)(JK:List Int)(c:List Nat)(H:n0 c)(o:Slot):W1 T lw (nO (DF JK c o)) (lS 6) (To (nO (NA JK c o))):=
 ak 9 (bk (L.ZY (bi c) H.f0) (ah (aa 7) ad)) rfl rfl ⟨rfl,rfl⟩
def NB(JK:List Int)(c:List Nat)(o:Slot):List Slot:=NA JK c o++[.val (bR (d9 (oz c))),.val (bR (d9 (oA c))),.val (.bool true)]
theorem l7(L:LF T)(JK:List Int)(c:List Nat)(o:Slot):W1 T lw (nO (NA JK c o)) (lS 7) (To (nO (NB JK c o))):=
 dm (bk (L.far c) (ah (aa 9) (ah (aa 3) ad)))
  (cz (an (ae 10 rfl rfl rfl) (an (ae 11 rfl rfl rfl) (an (ae 12 rfl rfl rfl) bg)))) (Z 2) (Z 5) ⟨rfl,rfl⟩
def NC(JK:List Int)(c:List Nat)(o:Slot):List Slot:=NB JK c o++[.val (.list ((AC (bi c)).map .str))]
theorem l8(L:LF T)(JK:List Int)(c:List Nat)(H:n0 c)(o:Slot):W1 T lw (nO (NB JK c o)) (lS 8) (To (nO (NC JK c o))):=
 ak 13 (bk (L.sides (bi c) H.f0 H.two0) (ah (aa 9) ad)) rfl rfl ⟨rfl,rfl⟩
def u5(t:be):D:=.list ((AC t).map .str)
def Ot(JK:List Int)(c:List Nat)(o:Slot):List Slot:=NC JK c o++[.val (.list [u5 (ja c),u5 (jb c)])]
noncomputable def N6(c:List Nat):D->D|.tup [_,.bool b]=>if b then u5 (ja c)else u5 (jb c)|_=>.none
noncomputable def OI:D->St|.tup [x,y]=>[.val x,.val y]|_=>[]
def N7(c:List Nat):List D:=[.tup [bR (d9 (oz c)),.bool true],.tup [bR (d9 (oA c)),.bool false]]
theorem l9(L:LF T)(JK:List Int)(c:List Nat)(H:n0 c)(o:Slot):W1 T lw (nO (NC JK c o)) (lS 9) (To (nO (Ot JK c o))):=by
 have Kh:∀d∈N7 c,∃(S:Nat->Nat->Int)(b:Bool),d=.tup [bR (d9 S),.bool b]/\(b=true->gB (d9 S))/\et (bN (d9 S) b)/\F8 (bN (d9 S) b)/\N6 c d=u5 (bN (d9 S) b):=λd hd=>by
  rcases Qw.mp hd with rfl|hd
  ·exact⟨oz c,true,rfl,λU=>H.marks,H.fF,H.twoF,rfl⟩
  ·rw[QB.mp hd]
   exact⟨oA c,false,rfl,nofun,H.fL,H.twoL,rfl⟩
 refine cA 14 (own:=["table","exact"]) (fr:=[]) (wr':=[]) (fi:=[]) (fs:=[]) (items:=N7 c) (p:=λU=>true) (f:=N6 c) (g:=OI) (n':=9)
  (mY (aV (ah (aV (ah (aa 10) (ah cR ad)) (show 2<=sizeLine by decide)) (ah (aV (ah (aa 11) (ah cR ad)) (show 2<=sizeLine by decide)) ad)) (show 2<=sizeLine by decide)) rfl)
  (QO _) dk dk rfl rfl dk dk dk (Z 1) (show 2<=sizeLine by decide) (Z 5) ?_ (λU U=>aw) ?_ rfl rfl rfl (Z 1) (λU ok=>(di ok).trans (Z 1)) ⟨rfl,rfl⟩
 ·intro t ht Wj hσ
  refine dE (Kh t ht) λS b zE U=>?_;subst zE
  have:∃o o':Slot,Wj=[o,o']/\o.ZW=false/\o'.ZW=false:=by
   rcases hσ with rfl|⟨d',K0,rfl⟩
   ·exact⟨.no,.no,rfl,rfl,rfl⟩
   ·refine dE (Kh d' K0) λS b zE U=>?_;subst zE
    exact⟨_,_,rfl,rfl,rfl⟩
  refine kg this λo o' U g1 g2=>?_;subst U;exact cz (an (ae 0 rfl rfl g1) (an (ae 1 rfl rfl g2) bg))
 ·intro t ht _
  obtain⟨S,b,rfl,hm,h5,h2,e⟩:=Kh t ht;rw[e];exact bk (L.sides _ h5 h2) (ah (bk (L.ZY _ h5) (ah (bk (L.symbols _ h5) (ah (bk (L.written S b hm) (ah (aa 0) (ah (aa 1) ad))) ad)) ad)) ad)
theorem Ae(y:Str):(!Txt.contains y (aj [58]))=!y.cps.toList.contains 58:=by
 congr 1
 have e:Txt.contains y (aj [58])=decide (58∈y.cps.toList):=PySem.StrLaws.found_one y 58;rw[e];by_cases h:58∈y.cps.toList
 ·rw[Q7 h,Rd.mpr h]
 ·rw[Q4 h,Bool.eq_false_iff.mpr λz=>h (Rd.mp z)]
theorem x8:(rO 5).all (λu=>[0,1,2].all λm=>PyData.strOk (aj (qR u++List.replicate m 58)))=true:=by decide +kernel
theorem xX(p:List Nat)(m:Nat):fP p m=qR ((List.range 5).map λk=>p.contains k != p.contains 0)++List.replicate m 58:=by
 unfold fP qR;have e:((List.range 5).filter λk=>p.contains k != p.contains 0)=(List.range 5).filter λk=>((List.range 5).map λk=>p.contains k != p.contains 0).getD k false:=R1 λk hk=>by rw[Qv (l:=List.map _ _),QX,RX (Q1.mp hk)];rfl
 rw[e]
theorem u8(p:List Nat){m:Nat}(hm:m<3):PyData.strOk (aj (fP p m))=true:=by
 rw[xX];have r3:∀m<3,m∈[0,1,2]:=by decide
 exact QL.mp (QL.mp x8 _ ((by rw[Qs];rfl:((List.range 5).map λk=>p.contains k != p.contains 0).length=5)▸ko _)) m (r3 m hm)
theorem wx{t:be}(h:et t):i9 1 (u5 t)=true:=Ai (k:=0) (f:=D.str) λy hy=>by have c:=f8 ((bT t).map aj);refine ay (QR.mp ((c.mem y).mp hy)) λs hs U=>?_;subst U;refine ay (QR.mp (Q8.mp hs).1) λq hq U=>?_;subst U;exact u8 q.1 (h.edOk q hq).2.1
noncomputable def N3:D->Bool|.str y=>(!Txt.contains y (aj [58]))&&true|_=>false
theorem yF(l:List Str):((l.map D.str).filter N3).map id=((l.filter λy=>!y.cps.toList.contains 58)).map .str:=by rw[Ua,SM];congr 1;refine R1 λy U=>?_;show((!Txt.contains y (aj [58]))&&true)=_;rw[So,Ae]
theorem AD{t:be}(h:et t):(AC t).length<=60:=by
 have c:=f8 ((bT t).map aj);have h1:(AC t).length<=((bT t).map aj).length:=(c.nd.length_le_of_subset λy hy=>(c.mem y).mp hy);have h2:(bT t).length<=t.ZY.length:=by
  have:=Rp (λs:List Nat=>!s.isEmpty) (t.ZY.map λq=>fP q.1 q.2)
  rw[Qs]at this;exact this
 have h3:=h.ZX;rw[Qs]at h1;lia
theorem OU(JK:List Int)(c:List Nat)(H:n0 c)(o:Slot):W1 T lw (nO (Ot JK c o)) (lS 10) (λfl U=>fl=.ret (.bool true)):=by
 have hF:u5 (ja c)=u5 (bi c):=QV (λl:List Str=>D.list (l.map .str)) H.same;have hL:u5 (jb c)=.list (((AC (bi c)).filter λy=>!y.cps.toList.contains 58).map .str):=QV (λl:List Str=>D.list (l.map .str)) H.short;have YW:i9 2 (.list [u5 (ja c),u5 (jb c)])=true:=by show(i9 1 (u5 (ja c))&&(i9 1 (u5 (jb c))&&true))=true;rw[wx H.fF,wx H.fL];rfl
 refine bf (d:=.bool true) (Ev.to (vJ (aa 12) (λU=>dM (aa 14) (Ev.to (d':=.list [u5 (ja c),u5 (jb c)]) (av (ah (aa 13) (ah (bW (own:=["side"]) (fr:=[]) (wr':=[]) (fi:=[]) (fs:=[]) (items:=(AC (bi c)).map .str) (p:=N3) (f:=id) (g:=λd=>[.val d]) (n':=9)
  (bb (aa 13) rfl) (QO _) dk dk rfl rfl dk dk dk (Z 1) (by rw[Qs];exact QC (AD H.f0) dk) (Z 5) ?_ ?_ ?_) ad)) (show 2<=sizeLine by decide)) ?_) (vF (k:=2) (k':=2) YW YW dk) rfl)) ?_) rfl
 ·intro t ht Wj hσ
  refine ay (bL (fs:=[]) hσ λd' JX=>⟨_,rfl⟩) λo U g=>?_;subst U;exact ae 0 rfl rfl g
 ·intro t ht
  refine ay (QR.mp ht) λy U U=>?_;subst U;exact ci (aE aA (aa 0) oq) (λU=>aw)
 ·intro t ht _
  exact aa 0
 ·rw[yF,hF,hL];rfl
 ·rw[uz YW];rfl
theorem Et:bF 82=[lS 0,lS 1,lS 2,lS 3,lS 4,lS 5,lS 6,lS 7,lS 8,lS 9,lS 10]:=by kernel_rfl
theorem f7{st:Stmt}{rest:List Stmt}{R:St->Prop}(h:W1 T c O st (λfl Wj=>fl=.next/\R Wj))(k:∀Wj,R Wj->W T c Wj rest P):W T c O (st::rest) P:=by refine ac ⟨@λw A ZV Hy ms₀ as s Q E ok tp R' JE q=>h.run ok tp R' JE λfl f Wj as' s' p JY sm fr=>?_⟩;refine xA p λU hr=>?_;subst U;exact q .next f Wj as' s' (k Wj hr) JY sm fr
theorem zL(L:LF T)(JK:List Int)(hl:JK.length<=63):W T lw (nO (Os JK)) (bF 82) (λfl U=>fl=.ret (.bool true)):=by obtain⟨c,hc⟩:∃c,c=jj JK:=⟨_,rfl⟩;have H:=vD c;rw[Et];refine f7 (l0 L JK hl c hc) ?_;rintro _ rfl;refine f7 (l1 L JK c H) ?_;rintro _ rfl;refine f7 (l2 L JK c H) ?_;rintro _ rfl;refine f7 (l3 L JK c H) ?_;rintro _ rfl;refine f7 (l4 L JK c H) ?_;rintro _ rfl;refine f7 (l5 L JK c H) ?_;rintro _ ⟨o,ho,rfl⟩;refine f7 (l6 L JK c H o) ?_;rintro _ rfl;refine f7 (l7 L JK c o) ?_;rintro _ rfl;refine f7 (l8 L JK c H o) ?_;rintro _ rfl;refine f7 (l9 L JK c H o) ?_;rintro _ rfl;refine ac ⟨@λw A ZV Hy ms₀ as s Q E ok tp R' JE q=>(OU JK c H o).run ok tp R' JE λfl f Wj as' s' p JY sm fr=>q fl f Wj as' s' (by subst p;rfl) JY sm fr⟩
theorem zM(L:LF T){fd:FuncData}(tp:T.Tp w s.heap)(FA:n8 s.heap fa (fh 82) (bF 82) fd)(JK:List Int)(hl:JK.length<=63)(rv:RV (less s.heap []) (.list (JK.map .int)) v)(KY:bindArgs fd ⟨[v],[]⟩=pure [(("script" : Str),v)])(q:∀s',ao s s'->Q (.bool true) s'):wpAny (model P0 w) callerA (call (.ref fa) [v]) Q E s:=by
 have R:aZ 10 callerA:=⟨rfl,by decide,by decide⟩;refine gi (T:=T) (n:=9) (X:=λU=>True) (gs:=[]) (ms:=[]) (ds:=[.list (JK.map .int)]) (ps:=[("script" : Str)]) (rest:=sQ.tail) (wr:=[]) FA (T.nolimit w _ tp) R rfl
  (λQ' E' h=>by rw[KY];exact QD (h [v] s (ao.refl s) (.cons rv .nil) trivial)) Rs nofun nofun tp dk (Z 1) (Z 1) (Z 1) dk nofun dk nofun dk λHX Ug ZV he Uf U Uh ok Kv JE=>?_
 refine(zL L JK hl).run (ms₀:=[]) (as:=[]) ok Kv R.deeper JE λfl f Wj as' s' p JY sm fr=>?_;subst p;cases f<;>first|exact fr.elim|skip
 cases fr
 exact b9.el JY.ex λm F S=>q s' ⟨λb o e=>F.keep _ _ (Uf.keep _ _ e),sm.gens.trans (Uh.gens.trans Uf.gens),sm.drawn.trans (Uh.drawn.trans Uf.drawn),sm.os.trans (Uh.os.trans Uf.os)⟩
section

noncomputable def aB(K:Params->Frag)(mg mb:Str->Option Value)(hb:∀x:Str,x≠"__name__"->mb x=bootBuiltins x):a6 where
 Tp:=λw h=>(K w.params).In h/\h.Ns mainGlobals mg/\h.Ns builtinsNs mb/\h.NoLimit
 keeps:=λw h h' ⟨a,b,c,d⟩ k=>⟨a.keeps k,b.keeps k,c.keeps k,d.keeps k⟩
 mg:=λU=>mg
 mb:=λU=>mb
 glob:=λw h x=>x.2.1
 blt:=λw h x=>x.2.2.1
 nolimit:=λw h x=>x.2.2.2
variable{K:Params->Frag}{mg mb:Str->Option Value}{hb:∀x:Str,x≠"__name__"->mb x=bootBuiltins x}
theorem km(e:∀p,nsIn (K p) mainGlobals x=some none)(hv:bootBuiltins x=some v)(hn:x≠"__name__"):Bl (aB K mg mb hb) x v:=
 λw h tp=>⟨mg_none_of tp.1 tp.2.1 (e w.params),(hb x hn).trans hv⟩
theorem qg(e:∀p,∃v,nsIn (K p) mainGlobals x=some (some v)/\∀g,RV g d v):bA (aB K mg mb hb) x d:=
 λw h tp=>by refine ay (e w.params) λv a b=>?_;exact⟨v,mg_of tp.1 tp.2.1 a,b⟩
theorem lO{x d C:Addr}{od:Obj}(h1:h.get? x=some (instObj C d))(h2:h.get? d=some od):InstAt h x (instObj C d) C (some od):=⟨h1,rfl,rfl,h2⟩
theorem nk(ga:∀p,findIn (K p) (.ref C) "__getattribute__" = some (some (.builtin "object.__getattribute__")))(gt:∀p,findIn (K p) (.ref C) "__getattr__" = some none)(fi:∀p,findIn (K p) (.ref C) x=some (some (.ref f)))(ty:∀p,typeIn (K p) (.ref f)=some (.type "function"))(fn:∀p,∃o fd,(K p).lookup f=some o/\o.data=.func fd):fU (aB K mg mb hb) C x f where
 fn:=λw h tp=>by refine dE (fn w.params) λo fd a b=>?_;exact⟨o,fd,tp.1 _ _ a,b⟩
 get:=λw Hy tp A s y d od pl Q E k h1 h2 h3 q=>method_fn (tp.1.keeps k) (lO h1 h2) (ga w.params) (gt w.params) (fi w.params) (ty w.params) (by show(lookIn x od).map (·.isSome)=some false;rw[h3];rfl) q
theorem DP(ga:∀p,findIn (K p) (.ref C) "__getattribute__" = some (some (.builtin "object.__getattribute__")))(cl:∀p,∃cd,clsIn (K p) C=some cd/\cd.hasDict=true)(fi:∀p,findIn (K p) (.ref C) "_headers" = some none):kU (aB K mg mb hb) C where
 get:=λw Hy tp A s x d b od ex Q E k h1 h2 h3 q=>by
  refine ay (cl w.params) λcd hc hd=>?_;refine get_value (v:=.ref b) (tp.1.keeps k) (lO h1 h2) (ga w.params) ?_ rfl (q _);unfold findObj;rw[hc,fi w.params];have e:PySem.W.ownOf cd (some od) "_headers" = some (some (.ref b)):=by unfold PySem.W.ownOf;rw[hd];exact h3
  show(PySem.W.ownOf cd (some od) "_headers").bind _=_;rw[e];rfl
theorem DD{p:Addr}{code:Array Nat}(e:∀q,∃po fs c co vs n,(K q).lookup p=some po/\po.cls=.type "re.Pattern"/\po.dict=none/\po.data=.fields fs/\fs.getD 5 .none=.ref c/\(K q).lookup c=some co/\co.data=.seq vs n/\(vs.map Builtin.Re.reRawOf).map (·.toNat)=code/\Builtin.Re.reRawNat (fs.getD 6 .none)=0/\Builtin.Re.reRawNat (fs.getD 2 .none)=0):iZ (aB K mg mb hb) p code:=
 λw h tp=>by obtain⟨po,fs,c,co,vs,n,h1,h2,h3,h4,h5,h6,h7⟩:=e w.params;exact⟨po,fs,c,co,vs,n,tp.1 _ _ h1,h2,h3,h4,h5,tp.1 _ _ h6,h7⟩
end
section

structure FW(K:Frag)(f:Addr)(sc:Scope)(body:List Stmt)(fd:FuncData):Prop where
 at_:∃o,K.lookup f=some o/\o.data=.func fd
 code:∃c oc vs tq,fd.code=.ref c/\K.lookup c=some oc/\oc.data=.fields vs/\vs[1]? = some (.str fd.qualname tq)
 body:fd.body=.stmts body
 scope:fd.scope=sc
 clo:fd.closure=[]
 glob:fd.globals=mainGlobals
 blt:fd.builtins=builtinsNs
theorem FW.fdAt{K:Frag}{fd:FuncData}(x:FW K f sc body fd)(X:K.In h):n8 h f sc body fd:=by refine ay x.at_ λo e d=>?_;obtain⟨c,oc,vs,tq,h1,h2,h3,h4⟩:=x.code;exact⟨⟨o,X _ _ e,d⟩,⟨c,oc,vs,tq,h1,X _ _ h2,h3,h4⟩,x.body,x.scope,x.clo,x.glob,x.blt⟩
variable{K:Params->Frag}{mg mb:Str->Option Value}{hb:∀x:Str,x≠"__name__"->mb x=bootBuiltins x}
theorem cI(e:∀p,nsIn (K p) mainGlobals x=some (some (.ref f)))(hf:∀p,∃fd,FW (K p) f sc body fd/\∀vals:List Value,vals.length=ps.length->bindArgs fd ⟨vals,[]⟩=pure (ps.zip vals)):cf (aB K mg mb hb) x ps sc body:=
 λw h tp=>by refine ay (hf w.params) λfd F KY=>?_;obtain⟨⟨o,ho,hd⟩,hc,h1,h2,h3,h4,h5⟩:=F.fdAt tp.1;exact⟨f,o,fd,mg_of tp.1 tp.2.1 (e w.params),ho,hd,hc,h1,h2,h3,h4,h5,KY⟩
theorem mT(hf:∀p,∃fd,FW (K p) f sc body fd/\∀(vals JG:List Value)(s:Shared),vals.length=np->JG.length=kn.length->(K p).In s.heap->BindsTo s fd ⟨vals,kn.zip JG⟩ (ps.zip (vals++(dv++JG)))):n9 (aB K mg mb hb) f sc body kn ps dv np:=
 ⟨λw h tp=>by exact ay (hf w.params) λfd F KY=>⟨fd,F.fdAt tp.1,λvals JG s h1 h2 k=>KY vals JG s h1 h2 (tp.1.keeps k)⟩⟩
end
section

theorem v0{l:List Value}(h:l.length=0):l=[]:=Ri.mp h
theorem v1{l:List Value}(h:l.length=1):∃a,l=[a]:=List.length_eq_one_iff.mp h
theorem v2{l:List Value}(h:l.length=2):∃a b,l=[a,b]:=by refine vu (R4 h) λa r U=>?_;subst U;refine xE (v1 (by simpa using h)) λb U=>?_;subst U;exact⟨a,b,rfl⟩
theorem v3{l:List Value}(h:l.length=3):∃a b c,l=[a,b,c]:=by refine vu (R4 h) λa r U=>?_;subst U;refine vu (v2 (by simpa using h)) λb c U=>?_;subst U;exact⟨a,b,c,rfl⟩
noncomputable def Ek(o:Option (Option Value)):Nat:=match o with|some (some (.int _ t))=>t|_=>0
variable{mg mb:Str->Option Value}{hb:∀x:Str,x≠"__name__"->mb x=bootBuiltins x}
theorem yD{i:Int}(h:∀p,nsIn (Lake.H.KK p) mainGlobals x=some (some (.int i (Ek (nsIn (Lake.H.KK p) mainGlobals x))))):bA (aB Lake.H.KK mg mb hb) x (.int i):=
 qg λp=>⟨_,h p,λg=>.int _ _⟩
theorem IV:bA (aB Lake.H.KK mg mb hb) "NT_OFFSET" (.int 256):=yD λp=>by kernel_rfl
theorem OG:bA (aB Lake.H.KK mg mb hb) "ENDMARKER" (.int 0):=yD λp=>by kernel_rfl
theorem OF:bA (aB Lake.H.KK mg mb hb) "_CASE_COST" (.int 1):=yD λp=>by kernel_rfl
theorem N2:bA (aB Lake.H.KK mg mb hb) "_MOVE_COST" (.int 2):=yD λp=>by kernel_rfl
theorem IU:bA (aB Lake.H.KK mg mb hb) "_MAX_STRING_SIZE" (.int 40):=yD λp=>by kernel_rfl
theorem Ey:Bl (aB Lake.H.KK mg mb hb) "len" (.builtin "len"):=km (λp=>by kernel_rfl) PyProof.Rows.Boot.«len» dk
theorem Ak:Bl (aB Lake.H.KK mg mb hb) "ord" (.builtin "ord"):=km (λp=>by kernel_rfl) PyProof.Rows.Boot.«ord» dk
theorem Gm:Bl (aB Lake.H.KK mg mb hb) "chr" (.builtin "chr"):=km (λp=>by kernel_rfl) PyProof.Rows.Boot.«chr» dk
theorem G0:Bl (aB Lake.H.KK mg mb hb) "min" (.builtin "min"):=km (λp=>by kernel_rfl) PyProof.Rows.Boot.«min» dk
theorem Ir:Bl (aB Lake.H.KK mg mb hb) "sum" (.builtin "sum"):=km (λp=>by kernel_rfl) PyProof.Rows.Boot.«sum» dk
theorem nF:Bl (aB Lake.H.KK mg mb hb) "range" (.type "range"):=km (λp=>by kernel_rfl) PyProof.Rows.Boot.«range» dk
theorem Dv:Bl (aB Lake.H.KK mg mb hb) "list" (.type "list"):=km (λp=>by kernel_rfl) PyProof.Rows.Boot.«list» dk
theorem mI:Bl (aB Lake.H.KK mg mb hb) "enumerate" (.type "enumerate"):=km (λp=>by kernel_rfl) PyProof.Rows.Boot.«enumerate» dk
theorem ID:Bl (aB Lake.H.KK mg mb hb) "zip" (.type "zip"):=km (λp=>by kernel_rfl) PyProof.Rows.Boot.«zip» dk
theorem DI:Bl (aB Lake.H.KK mg mb hb) "type" (.type "type"):=km (λp=>by kernel_rfl) PyProof.Rows.Boot.«type» dk
theorem Ip:Bl (aB Lake.H.KK mg mb hb) "str" (.type "str"):=km (λp=>by kernel_rfl) PyProof.Rows.Boot.«str» dk
theorem NE:Bl (aB Lake.H.KK mg mb hb) "set" (.type "set"):=km (λp=>by kernel_rfl) PyProof.Rows.Boot.«set» dk
theorem CP:Bl (aB Lake.H.KK mg mb hb) "sorted" (.builtin "sorted"):=km (λp=>by kernel_rfl) PyProof.Rows.Boot.«sorted» dk
end
section

variable{mg mb:Str->Option Value}{hb:∀x:Str,x≠"__name__"->mb x=bootBuiltins x}
theorem I6:cf (aB Lake.H.KK mg mb hb) "ISTERMINAL" ["x"] (fh 64) (bF 64):=cI (f:=262) (λp=>by kernel_rfl) λp=>⟨_,⟨⟨Lake.H.Hl p,by kernel_rfl,rfl⟩,⟨261,Lake.H.Hk p,_,_,rfl,by kernel_rfl,rfl,rfl⟩,rfl,rfl,rfl,rfl,rfl⟩,λvals h=>by refine xE (v1 h) λa0 U=>?_;subst U;rfl⟩
theorem Gw:cf (aB Lake.H.KK mg mb hb) "ISNONTERMINAL" ["x"] (fh 65) (bF 65):=cI (f:=269) (λp=>by kernel_rfl) λp=>⟨_,⟨⟨Lake.H.Hn p,by kernel_rfl,rfl⟩,⟨268,Lake.H.Hm p,_,_,rfl,by kernel_rfl,rfl,rfl⟩,rfl,rfl,rfl,rfl,rfl⟩,λvals h=>by refine xE (v1 h) λa0 U=>?_;subst U;rfl⟩
theorem I7:cf (aB Lake.H.KK mg mb hb) "ISEOF" ["x"] (fh 66) (bF 66):=cI (f:=276) (λp=>by kernel_rfl) λp=>⟨_,⟨⟨Lake.H.Hp p,by kernel_rfl,rfl⟩,⟨275,Lake.H.Ho p,_,_,rfl,by kernel_rfl,rfl,rfl⟩,rfl,rfl,rfl,rfl,rfl⟩,λvals h=>by refine xE (v1 h) λa0 U=>?_;subst U;rfl⟩
theorem I8:cf (aB Lake.H.KK mg mb hb) "_substitution_cost" ["ch_a","ch_b"] (fh 71) (bF 71):=cI (f:=283) (λp=>by kernel_rfl) λp=>⟨_,⟨⟨Lake.H.Hr p,by kernel_rfl,rfl⟩,⟨282,Lake.H.Hq p,_,_,rfl,by kernel_rfl,rfl,rfl⟩,rfl,rfl,rfl,rfl,rfl⟩,λvals h=>by refine vu (v2 h) λa0 a1 U=>?_;subst U;rfl⟩
theorem I9:cf (aB Lake.H.KK mg mb hb) "_levenshtein_distance" ["a","b","max_cost"] (fh 72) (bF 72):=cI (f:=290) (λp=>by kernel_rfl) λp=>⟨_,⟨⟨Lake.H.Ht p,by kernel_rfl,rfl⟩,⟨289,Lake.H.Hs p,_,_,rfl,by kernel_rfl,rfl,rfl⟩,rfl,rfl,rfl,rfl,rfl⟩,λvals h=>by refine tZ (v3 h) λa0 a1 a2 U=>?_;subst U;rfl⟩
theorem BP:cf (aB Lake.H.KK mg mb hb) "_law_ends" [] (fh 74) (bF 74):=cI (f:=297) (λp=>by kernel_rfl) λp=>⟨_,⟨⟨Lake.H.Hv p,by kernel_rfl,rfl⟩,⟨296,Lake.H.Hu p,_,_,rfl,by kernel_rfl,rfl,rfl⟩,rfl,rfl,rfl,rfl,rfl⟩,λvals h=>by obtain rfl:=v0 h;rfl⟩
theorem Ja:cf (aB Lake.H.KK mg mb hb) "_law_drawn" ["script"] (fh 75) (bF 75):=cI (f:=302) (λp=>by kernel_rfl) λp=>⟨_,⟨⟨Lake.H.HB p,by kernel_rfl,rfl⟩,⟨301,Lake.H.Hz p,_,_,rfl,by kernel_rfl,rfl,rfl⟩,rfl,rfl,rfl,rfl,rfl⟩,λvals h=>by refine xE (v1 h) λa0 U=>?_;subst U;rfl⟩
theorem Jb:cf (aB Lake.H.KK mg mb hb) "_law_typed" ["text","seed"] (fh 76) (bF 76):=cI (f:=307) (λp=>by kernel_rfl) λp=>⟨_,⟨⟨Lake.H.HE p,by kernel_rfl,rfl⟩,⟨306,Lake.H.HD p,_,_,rfl,by kernel_rfl,rfl,rfl⟩,rfl,rfl,rfl,rfl,rfl⟩,λvals h=>by refine vu (v2 h) λa0 a1 U=>?_;subst U;rfl⟩
theorem Jc:cf (aB Lake.H.KK mg mb hb) "_law_symbols" ["text"] (fh 77) (bF 77):=cI (f:=314) (λp=>by kernel_rfl) λp=>⟨_,⟨⟨Lake.H.HG p,by kernel_rfl,rfl⟩,⟨313,Lake.H.HF p,_,_,rfl,by kernel_rfl,rfl,rfl⟩,rfl,rfl,rfl,rfl,rfl⟩,λvals h=>by refine xE (v1 h) λa0 U=>?_;subst U;rfl⟩
theorem Jd:cf (aB Lake.H.KK mg mb hb) "_law_edges" ["symbols"] (fh 78) (bF 78):=cI (f:=321) (λp=>by kernel_rfl) λp=>⟨_,⟨⟨Lake.H.HI p,by kernel_rfl,rfl⟩,⟨320,Lake.H.HH p,_,_,rfl,by kernel_rfl,rfl,rfl⟩,rfl,rfl,rfl,rfl,rfl⟩,λvals h=>by refine xE (v1 h) λa0 U=>?_;subst U;rfl⟩
theorem Je:cf (aB Lake.H.KK mg mb hb) "_law_sides" ["edges"] (fh 79) (bF 79):=cI (f:=326) (λp=>by kernel_rfl) λp=>⟨_,⟨⟨Lake.H.HL p,by kernel_rfl,rfl⟩,⟨325,Lake.H.HJ p,_,_,rfl,by kernel_rfl,rfl,rfl⟩,rfl,rfl,rfl,rfl,rfl⟩,λvals h=>by refine xE (v1 h) λa0 U=>?_;subst U;rfl⟩
theorem Jf:cf (aB Lake.H.KK mg mb hb) "_law_far" ["edges","less"] (fh 80) (bF 80):=cI (f:=331) (λp=>by kernel_rfl) λp=>⟨_,⟨⟨Lake.H.HN p,by kernel_rfl,rfl⟩,⟨330,Lake.H.HM p,_,_,rfl,by kernel_rfl,rfl,rfl⟩,rfl,rfl,rfl,rfl,rfl⟩,λvals h=>by refine vu (v2 h) λa0 a1 U=>?_;subst U;rfl⟩
theorem Jg:cf (aB Lake.H.KK mg mb hb) "_law_written" ["far","exact"] (fh 81) (bF 81):=cI (f:=336) (λp=>by kernel_rfl) λp=>⟨_,⟨⟨Lake.H.HP p,by kernel_rfl,rfl⟩,⟨335,Lake.H.HO p,_,_,rfl,by kernel_rfl,rfl,rfl⟩,rfl,rfl,rfl,rfl,rfl⟩,λvals h=>by refine vu (v2 h) λa0 a1 U=>?_;subst U;rfl⟩
theorem OH:cf (aB Lake.H.KK mg mb hb) "in_table_b1" ["code"] (fh 9) (bF 9):=cI (f:=206) (λp=>by kernel_rfl) λp=>⟨_,⟨⟨Lake.H.He p,by kernel_rfl,rfl⟩,⟨205,Lake.H.Hc p,_,_,rfl,by kernel_rfl,rfl,rfl⟩,rfl,rfl,rfl,rfl,rfl⟩,λvals h=>by refine xE (v1 h) λa0 U=>?_;subst U;rfl⟩
theorem I0:cf (aB Lake.H.KK mg mb hb) "map_table_b3" ["code"] (fh 11) (bF 11):=cI (f:=252) (λp=>by kernel_rfl) λp=>⟨_,⟨⟨Lake.H.Hi p,by kernel_rfl,rfl⟩,⟨251,Lake.H.Hg p,_,_,rfl,by kernel_rfl,rfl,rfl⟩,rfl,rfl,rfl,rfl,rfl⟩,λvals h=>by refine xE (v1 h) λa0 U=>?_;subst U;rfl⟩
theorem Jh:cf (aB Lake.H.KK mg mb hb) "law" ["script"] (fh 82) (bF 82):=cI (f:=341) (λp=>by kernel_rfl) λp=>⟨_,⟨⟨Lake.H.HR p,by kernel_rfl,rfl⟩,⟨340,Lake.H.HQ p,_,_,rfl,by kernel_rfl,rfl,rfl⟩,rfl,rfl,rfl,rfl,rfl⟩,λvals h=>by refine xE (v1 h) λa0 U=>?_;subst U;rfl⟩
end
section

variable{mg mb:Str->Option Value}{hb:∀x:Str,x≠"__name__"->mb x=bootBuiltins x}
theorem FN(p:Params):findIn (Lake.H.KK p) (.ref 184) "__getattribute__" = some (some (.builtin "object.__getattribute__")):=by kernel_rfl
theorem GE(p:Params):findIn (Lake.H.KK p) (.ref 184) "__getattr__" = some none:=by kernel_rfl
theorem OX:fU (aB Lake.H.KK mg mb hb) 184 "_convert_string_type" 83:=nk FN GE (λp=>by kernel_rfl) (λp=>by kernel_rfl) (λp=>⟨Lake.H.Nm p,_,by kernel_rfl,rfl⟩)
theorem OY:fU (aB Lake.H.KK mg mb hb) 184 "get" 131:=nk FN GE (λp=>by kernel_rfl) (λp=>by kernel_rfl) (λp=>⟨Lake.H.Cw p,_,by kernel_rfl,rfl⟩)
theorem OZ:fU (aB Lake.H.KK mg mb hb) 184 "keys" 136:=nk FN GE (λp=>by kernel_rfl) (λp=>by kernel_rfl) (λp=>⟨Lake.H.ER p,_,by kernel_rfl,rfl⟩)
theorem O0:fU (aB Lake.H.KK mg mb hb) 184 "values" 141:=nk FN GE (λp=>by kernel_rfl) (λp=>by kernel_rfl) (λp=>⟨Lake.H.ES p,_,by kernel_rfl,rfl⟩)
theorem OW:fU (aB Lake.H.KK mg mb hb) 184 "add_header" 181:=nk FN GE (λp=>by kernel_rfl) (λp=>by kernel_rfl) (λp=>⟨Lake.H.ET p,_,by kernel_rfl,rfl⟩)
theorem at_:kU (aB Lake.H.KK mg mb hb) 184:=DP FN (λp=>⟨_,rfl,rfl⟩) (λp=>by kernel_rfl)
theorem OJ:bA (aB Lake.H.KK mg mb hb) "_name_disallowed_re" (.ref 48):=qg λp=>⟨.ref 48,by kernel_rfl,λg=>.ref _⟩
theorem HZ:iZ (aB Lake.H.KK mg mb hb) 48 oN:=DD λp=>⟨Lake.H.Oi p,_,47,Lake.H.Oh p,_,_,by kernel_rfl,rfl,rfl,rfl,rfl,by kernel_rfl,rfl,by kernel_rfl,rfl,rfl⟩
theorem OK:bA (aB Lake.H.KK mg mb hb) "_value_disallowed_re" (.ref 53):=qg λp=>⟨.ref 53,by kernel_rfl,λg=>.ref _⟩
theorem H2:iZ (aB Lake.H.KK mg mb hb) 53 kY:=DD λp=>⟨Lake.H.Ok p,_,52,Lake.H.Oj p,_,_,by kernel_rfl,rfl,rfl,rfl,rfl,by kernel_rfl,rfl,by kernel_rfl,rfl,rfl⟩
theorem ON:n9 (aB Lake.H.KK mg mb hb) 83 (Lake.W.mS "_convert_string_type") (mB "_convert_string_type") ["name"] ["self","value","name"] [] 2:=mT λp=>⟨_,⟨⟨Lake.H.Nm p,by kernel_rfl,rfl⟩,⟨82,Lake.H.Oo p,_,_,rfl,by kernel_rfl,rfl,rfl⟩,rfl,rfl,rfl,rfl,rfl⟩,λvals JG s h1 h2 X=>by refine vu (v2 h1) λa0 a1 U=>?_;subst U;refine xE (v1 h2) λc0 U=>?_;subst U;exact BindsTo.of_eq rfl⟩
theorem Jm:n9 (aB Lake.H.KK mg mb hb) 131 (Lake.W.mS "get") (mB "get") [] ["self","name","default"] [] 3:=mT λp=>⟨_,⟨⟨Lake.H.Cw p,by kernel_rfl,rfl⟩,⟨130,Lake.H.EQ p,_,_,rfl,by kernel_rfl,rfl,rfl⟩,rfl,rfl,rfl,rfl,rfl⟩,λvals JG s h1 h2 X=>by refine tZ (v3 h1) λa0 a1 a2 U=>?_;subst U;obtain rfl:=v0 h2;exact BindsTo.of_defaults (T:=124) rfl (X _ _ (show(Lake.H.KK p).lookup 124=some (Lake.H.EP p) by kernel_rfl)) rfl rfl rfl⟩
theorem Jl:n9 (aB Lake.H.KK mg mb hb) 131 (Lake.W.mS "get") (mB "get") [] ["self","name","default"] [.none] 2:=mT λp=>⟨_,⟨⟨Lake.H.Cw p,by kernel_rfl,rfl⟩,⟨130,Lake.H.EQ p,_,_,rfl,by kernel_rfl,rfl,rfl⟩,rfl,rfl,rfl,rfl,rfl⟩,λvals JG s h1 h2 X=>by refine vu (v2 h1) λa0 a1 U=>?_;subst U;obtain rfl:=v0 h2;exact BindsTo.of_defaults (T:=124) rfl (X _ _ (show(Lake.H.KK p).lookup 124=some (Lake.H.EP p) by kernel_rfl)) rfl rfl rfl⟩
theorem OQ:n9 (aB Lake.H.KK mg mb hb) 136 (Lake.W.mS "keys") (mB "keys") [] ["self"] [] 1:=mT λp=>⟨_,⟨⟨Lake.H.ER p,by kernel_rfl,rfl⟩,⟨135,Lake.H.G7 p,_,_,rfl,by kernel_rfl,rfl,rfl⟩,rfl,rfl,rfl,rfl,rfl⟩,λvals JG s h1 h2 X=>by refine xE (v1 h1) λa0 U=>?_;subst U;obtain rfl:=v0 h2;exact BindsTo.of_eq rfl⟩
theorem OR:n9 (aB Lake.H.KK mg mb hb) 141 (Lake.W.mS "values") (mB "values") [] ["self"] [] 1:=mT λp=>⟨_,⟨⟨Lake.H.ES p,by kernel_rfl,rfl⟩,⟨140,Lake.H.G8 p,_,_,rfl,by kernel_rfl,rfl,rfl⟩,rfl,rfl,rfl,rfl,rfl⟩,λvals JG s h1 h2 X=>by refine xE (v1 h1) λa0 U=>?_;subst U;obtain rfl:=v0 h2;exact BindsTo.of_eq rfl⟩
theorem OO:n9 (aB Lake.H.KK mg mb hb) 102 (Lake.W.mS "__delitem__") (mB "__delitem__") [] ["self","name"] [] 2:=mT λp=>⟨_,⟨⟨Lake.H.G6 p,by kernel_rfl,rfl⟩,⟨101,Lake.H.G5 p,_,_,rfl,by kernel_rfl,rfl,rfl⟩,rfl,rfl,rfl,rfl,rfl⟩,λvals JG s h1 h2 X=>by refine vu (v2 h1) λa0 a1 U=>?_;subst U;obtain rfl:=v0 h2;exact BindsTo.of_eq rfl⟩
theorem OP:n9 (aB Lake.H.KK mg mb hb) 76 (Lake.W.mS "__init__") (mB "__init__") [] ["self","headers"] [] 2:=mT λp=>⟨_,⟨⟨Lake.H.On p,by kernel_rfl,rfl⟩,⟨75,Lake.H.Om p,_,_,rfl,by kernel_rfl,rfl,rfl⟩,rfl,rfl,rfl,rfl,rfl⟩,λvals JG s h1 h2 X=>by refine vu (v2 h1) λa0 a1 U=>?_;subst U;obtain rfl:=v0 h2;exact BindsTo.of_defaults (T:=69) rfl (X _ _ (show(Lake.H.KK p).lookup 69=some (Lake.H.Ol p) by kernel_rfl)) rfl rfl rfl⟩
noncomputable abbrev Jk:je:=⟨184,83,131,136,141,102,181,76,48,53⟩
theorem OM:Hd (aB Lake.H.KK mg mb hb) Jk:=⟨at_,OX,OY,OZ,O0,ON,Jl,Jm,OQ,OR,OO,HZ,H2,OJ,OK,DI,Ip⟩
theorem Ju:FX (aB Lake.H.KK mg mb hb) 181 where
 at_:=λw h tp=>by
  have F:∃fd,FW (Lake.H.KK w.params) 181 (Lake.W.mS "add_header") (mB "add_header") fd/\∀(vals:List Value)(s:Shared),vals.length=3->∀(M:Model)(A:Around)(E:Ω)(Q:List (Str×Value)->Shared->Prop),Q ([("self" : Str),"_name","_value","_params"].zip (vals++[.ref s.heap.objs.size])) { s with heap:=s.heap.push bG }->wpAny M A (bindArgs fd ⟨vals,[]⟩) Q E s:=
   ⟨_,⟨⟨Lake.H.ET w.params,by kernel_rfl,rfl⟩,⟨180,Lake.H.G9 w.params,_,_,rfl,by kernel_rfl,rfl,rfl⟩,rfl,rfl,rfl,rfl,rfl⟩,λvals s h M A E Q q=>by refine tZ (v3 h) λa b c U=>?_;subst U;show wpAny M A (alloc bG >>= λd=>pure [(("self" : Str),a),("_name",b),("_value",c),("_params",.ref d)]) Q E s;exact GA (wpAny_alloc (QD q))⟩
  exact ay F λfd F1 F2=>⟨fd,F1.fdAt tp.1,λvals s h U M A E Q q=>F2 vals s h M A E Q q⟩
theorem Jw:FY (aB Lake.H.KK mg mb hb) 184 102 where
 del:=λw Hy tp A s x d od k Q E kp hx hd h=>by have X:(Lake.H.KK w.params).In s.heap:=tp.1.keeps kp;have I:=lO hx hd;refine RL (GA (GA (I.type.here ?_)));refine GA ((anyM_none X (show noSeq (Lake.H.KK w.params) 184=true by kernel_rfl)).here ?_);rw[Rb (show(!false)=true from rfl)];exact QD (GA (special_fn X I (show findIn (Lake.H.KK w.params) (.ref 184) "__delitem__" = some (some (.ref 102)) by kernel_rfl) (beq_iff_eq.mp (show isFn (Lake.H.KK w.params) (.ref 102)=true by kernel_rfl)) (Rt h (λU U z=>QD z) λU U z=>z)))
theorem Jv:FE (aB Lake.H.KK mg mb hb) 184 76 where
 make:=λw Hy tp A s v Rr k hq=>by obtain⟨hh,g,d,t,os⟩:=s;have X:=tp.1.keeps k;exact make_core (init:=.ref 76) (makes_of X (show makesIn (Lake.H.KK w.params) 184=true by kernel_rfl)) (looks_findIn X (show findIn (Lake.H.KK w.params) (.ref 184) "__init__" = some (some (.ref 76)) by kernel_rfl)) (λself=>bind_fn X self (show typeIn (Lake.H.KK w.params) (.ref 76)=some (.type "function") by kernel_rfl)) (.inl rfl) hq
 set:=λw Hy tp A s x d v Q E k h1 h2 q=>by
  obtain⟨hh,g,dr,t,os⟩:=s;have X:(Lake.H.KK w.params).In hh:=tp.1.keeps k;have I:=lO h1 h2;refine set_plain X I (show findIn (Lake.H.KK w.params) (.ref 184) "__setattr__" = some (some (.builtin "object.__setattr__")) by kernel_rfl) ?_;refine osa_open (od:=some bG) (s:=⟨hh,g,dr,t+1,os⟩) (w:=w) X I (show plainOver (Lake.H.KK w.params) 184=true by kernel_rfl) (show takerIn (Lake.H.KK w.params) 184 "_headers" = some none by kernel_rfl) λb=>?_;obtain⟨cd,hc,JX⟩:=any_some (show(clsIn (Lake.H.KK w.params) 184).any (·.hasDict)=true by kernel_rfl);have L:Looks (model P0 w) hh _ _:=looks_clsIn X hc;refine GA (QD (GA (GA (wpAny_loadPart h1 (GA (L.here ?_))))));rw[JX];refine QD (a:=some d) (GA (QD (GA ?_)));refine GA (GA (SD (QD (GA (wpAny_mkText (GA (wpAny_loadPart h2 ?_)))))));have e0:bG.data=.dict #[] 0:=by kernel_rfl
  rw[e0];dsimp only;have c:(!(#[]:Array DictEntry).any (·.key.isStr ("_headers" : Str))&&(#[]:Array DictEntry).any (·.refKey))=false:=by kernel_rfl
  rw[aRefKeyMayBeTheName_at,c];have e1:∀hs tk,Obj.putName ("_headers" : Str) hs (.str "_headers" tk) v bG=dictOf [⟨hs,.str "_headers" tk,v⟩] 1:=λhs tk=>putName_dict _ hs _ v [] 0;have D':=λhs tk=>Rk (Obj.putName ("_headers" : Str) hs (.str "_headers" tk) v) h2 (by rw[e1];rfl);refine wpAny_updatePart h2 ?_;refine GA (wpAny_lookBehind (D' _ _) (by rw[e1];exact pastItsLine_dict (by rw[QJ,sizeLine_eq];simp)) ?_);refine QD ?_;refine q _ _ _ (Rz _ _ _) (D' _ _) ?_ λy hy=>?_
  ·rw[e1,lookIn_dict]
   rfl
  ·rw[e1,lookIn_dict]
   have e2:(Value.str ("_headers" : Str) t).isStr y=false:=by exact beq_eq_false_iff_ne.mpr λz=>hy z.symm
   unfold getL;have e3:∀tk,(Value.str ("_headers" : Str) tk).isStr y=false:=λtk=>e2;simp only[R7,e3,List.find?_nil];rfl
 keeper:=λw Hy tp=>keeps_K (show keepIn (Lake.H.KK w.params) (.ref 184)=true by kernel_rfl) Hy tp.1
 init:=OP
 name:=λw Hy tp=>mg_of tp.1 tp.2.1 (show nsIn (Lake.H.KK w.params) mainGlobals "Headers" = some (some (.ref 184)) by kernel_rfl)
 list:=Dv
 typ:=DI
end
section
open Builtin Builtin.ObjectAttr
variable{mg mb:Str->Option Value}{hb:∀x:Str,x≠"__name__"->mb x=bootBuiltins x}
theorem Al{K:Type}[DecidableEq K](knd:KeyKind P0 w K)(PQ:Value->Option K)(PR:Value->Option D)(hk:∀v k,PQ v=some k->knd.is k v=true)(hv:∀v d,PR v=some d->∀g,RV g d v)(KO:List DictEntry):∀(es:List (K×D)),KO.map (λe=>(PQ e.key,PR e.val))=es.map (λp=>(some p.1,some p.2))->KO.map (·.hash)=es.map (λp=>knd.hash p.1)->
   ∃kvs,(∀e∈KO,∃k,knd.is k e.key=true/\e.hash=knd.hash k)/\Pairs knd KO kvs/\∀g,rz g es kvs:=by
 induction KO with
 |nil=>
  intro es h _;rcases es with _|⟨_,_⟩
  ·exact⟨[],λU h=>absurd h Q3,.nil,λg=>⟨rfl,.nil⟩⟩
  ·contradiction
 |cons e KO ih=>
  intro es h1 h2;cases es with
  |nil=>contradiction
  |cons x es=>
  simp only[QW,TY,T3]at h1 h2;refine eG (ih es h1.2 h2.2) λkvs a b c=>?_;refine⟨(x.1,e.val)::kvs,λe' m=>?_,.cons (hk _ _ h1.1.1) rfl b,λg=>⟨?_,.cons (hv _ _ h1.1.2 g) (c g).2⟩⟩
  ·rcases Qw.mp m with rfl|m
   ·exact⟨x.1,hk _ _ h1.1.1,h2.1⟩
   ·exact a _ m
  ·simp only[QW,TY,true_and];exact(c g).1
noncomputable def B3:Value->Option Int|.int k _=>some k|_=>none
noncomputable def GI:Value->Option Str|.str k _=>some k|_=>none
noncomputable def Iy:Value->Option D|.int k _=>some (.int k)|_=>none
noncomputable def Iz:Value->Option D|.str k _=>some (.str k)|_=>none
theorem B4(w:World):∀v k,B3 v=some k->(PySem.intKind P0 w).is k v=true:=λv k e=>by cases v<;>cases e;simp[PySem.intKind,Value.isInt]
theorem B5(w:World):∀v k,GI v=some k->(PySem.strKind P0 w).is k v=true:=λv k e=>by cases v<;>cases e;exact PySem.strKind_is P0 w k _
theorem C3:∀v d,Iy v=some d->∀g,RV g d v:=λv d e g=>by cases v<;>cases e;exact .int _ _
theorem C4:∀v d,Iz v=some d->∀g,RV g d v:=λv d e g=>by cases v<;>cases e;exact .str _ _
theorem DH{K:Params->Frag}{K':Type}[DecidableEq K']{knd:∀w,KeyKind P0 w K'}{es:List (K'×D)}(PQ:Value->Option K')(PR:Value->Option D)(hk:∀w v k,PQ v=some k->(knd w).is k v=true)(hv:∀v d,PR v=some d->∀g,RV g d v)(hx:∀p,nsIn (K p) mainGlobals x=some (some (.ref a)))(ha:(a==sysModules)=false)(ho:∀w:World,∃o KO n,(K w.params).lookup a=some o/\o.ExactDict/\o.data=.dict KO n/\KO.toList.map (λe=>(PQ e.key,PR e.val))=es.map (λp=>(some p.1,some p.2))/\KO.toList.map (·.hash)=es.map (λp=>(knd w).hash p.1))(hn:(es.map (·.1)).Nodup):yi (aB K mg mb hb) knd x es:=λw h tp=>by
 obtain⟨o,KO,n,h1,h2,h3,h4,h5⟩:=ho w;refine eG (Al (knd w) PQ PR (hk w) hv _ _ h4 h5) λkvs b c d=>?_;refine⟨a,kvs,mg_of tp.1 tp.2.1 (hx w.params),ha,⟨o,KO,n,tp.1 _ _ h1,h2,h3,λe m=>b e (Array.mem_toList_iff.mpr m),c,?_⟩,d⟩;rw[(d λU=>none).1];exact hn
noncomputable def NL:Int->List Int->Bool
 |_,[]=>true
 |lo,k::r=>decide (lo<k)&&NL k r
theorem C1:∀(l:List Int)(lo:Int),NL lo l=true->∀k∈l,lo<k:=by
 intro X_;induction X_ with
 |nil=>intro _ _ _ m;contradiction
 |cons a r IH=>
  intro lo h k m;refine xA (QI.mp h) λh1 h2=>?_;rcases Qw.mp m with rfl|m
  ·exact QS h1
  ·exact Int.lt_trans (QS h1) (IH a h2 k m)
theorem yd:∀(l:List Int)(lo:Int),NL lo l=true->l.Nodup:=by
 intro X_;induction X_ with
 |nil=>intro _ _;exact Rs
 |cons a r IH=>intro lo h;exact xA (QI.mp h) λh1 h2=>QY.mpr ⟨λm=>absurd (C1 r a h2 a m) (Int.lt_irrefl _),IH a h2⟩
theorem NG:yi (aB Lake.H.KK mg mb hb) (λw=>PySem.intKind P0 w) "b3_exceptions" b3:=
 DH (a:=207) B3 Iz B4 C4 (λp=>by kernel_rfl) rfl (λw=>⟨Lake.H.Hf w.params,_,_,by kernel_rfl,⟨rfl,rfl,rfl⟩,rfl,by kernel_rfl,by kernel_rfl⟩) (yd _ (-1) (Z 1))
theorem Iu:yi (aB Lake.H.KK mg mb hb) (λw=>PySem.strKind P0 w) "EXACT_TOKEN_TYPES" ua:=
 DH (a:=253) GI Iy B5 C3 (λp=>by kernel_rfl) rfl (λw=>⟨Lake.H.Hj w.params,_,_,by kernel_rfl,⟨rfl,rfl,rfl⟩,rfl,by kernel_rfl,by kernel_rfl⟩) dk
theorem Em{K:Params->Frag}{xs:List Int}(hx:∀p,nsIn (K p) mainGlobals x=some (some (.ref a)))(ho:∀w:World,∃o es n t,(K w.params).lookup a=some o/\o.ExactSet/\o.data=.set es n t/\es.toList.map (λe=>B3 e.2)=xs.map some/\es.toList.map (·.1)=xs.map hashInt/\es.size<scanBound/\t.fits es.size=true):
  yn (aB K mg mb hb) x (λk=>xs.contains k):=λw h tp=>by
 obtain⟨o,es,n,t,h1,h2,h3,h4,h5,h6,h7⟩:=ho w;have key:∀(l:List (Int×Value))(xs:List Int),l.map (λe=>B3 e.2)=xs.map some->l.map (·.1)=xs.map hashInt->(∀e∈l,∃k t,e.2=.int k t/\e.1=hashInt k)/\∀k,k∈xs↔∃e∈l,(PySem.intKind P0 w).is k e.2=true:=by
  intro l;induction l with
  |nil=>intro xs a _;cases xs with
   |nil=>exact⟨λU h=>absurd h Q3,λk=>⟨λh=>absurd h Q3,λh=>(by refine ay h λU m U=>?_;exact absurd m Q3)⟩⟩
   |cons=>contradiction
  |cons e l ih=>intro xs a b;cases xs with
   |nil=>contradiction
   |cons y xs=>
    simp only[QW,TY]at a b;refine xA (ih xs a.2 b.2) λi1 i2=>?_;have hy:∃t,e.2=.int y t:=by
     have:=a.1
     cases q:e.2<;>rw[q]at this<;>cases this
     exact⟨_,rfl⟩
    refine xE hy λt hy=>?_;refine⟨λe' m=>?_,λk=>?_⟩
    ·rcases Qw.mp m with rfl|m
     ·exact⟨y,t,hy,b.1⟩
     ·exact i1 _ m
    ·rw[Qw,i2 k]
     constructor
     ·rintro(rfl|⟨e',m,z⟩)
      ·exact⟨e,QH,by rw[hy];simp[PySem.intKind,Value.isInt]⟩
      ·exact⟨e',QA _ m,z⟩
     ·rintro⟨e',m,z⟩
      rcases Qw.mp m with rfl|m
      ·rw[hy]at z;simp[PySem.intKind,Value.isInt]at z;exact .inl z.symm
      ·exact .inr ⟨e',m,z⟩
 refine xA (key _ _ h4 h5) λi1 i2=>?_;refine⟨a,_,mg_of tp.1 tp.2.1 (hx w.params),o,es,n,t,tp.1 _ _ h1,h2,h3,λe m=>?_,λk=>?_,h6,h7,rfl⟩
 ·refine dE (i1 e m) λk t e1 e2=>?_
  exact⟨⟨k,by rw[e1];simp[PySem.intKind,Value.isInt],e2⟩,by rw[e1];rfl⟩
 ·rw[Rd];exact i2 k
noncomputable def DQ:List Int:=[65024,65025,65026,65027,65028,65029,6150,65030,65031,65032,65033,6155,6156,6157,8203,8204,8205,65034,65035,65036,65037,65038,65039,173,847,8288,65279]
theorem GH:yn (aB Lake.H.KK mg mb hb) "b1_set" (λk=>DQ.contains k):=
 Em (a:=196) (λp=>by kernel_rfl) λw=>⟨Lake.H.Hb w.params,_,_,_,by kernel_rfl,⟨rfl,rfl,rfl⟩,rfl,by kernel_rfl,by kernel_rfl,by decide +kernel,by kernel_rfl⟩
theorem Ij:∃S:Int->Bool,yn (aB Lake.H.KK mg mb hb) "b1_set" S/\∀ch:Nat,S ch=uE ch:=
 ⟨_,GH,λch=>by
  have h1:DQ.all (λi=>cY.any λu=>decide ((u:Int)=i))=true:=by decide +kernel
  have h2:cY.all (λu=>DQ.contains (u:Int))=true:=by decide +kernel
  rw[Bool.eq_iff_iff];constructor
  ·intro m
   refine ay (T9.mp (QL.mp h1 _ (Rd.mp m))) λu mu e=>?_
   have:=Int.ofNat.inj (QS e)
   exact Rd.mpr (this▸mu)
  ·intro m
   exact QL.mp h2 _ (Rd.mp m)⟩
end
section

variable{mg mb:Str->Option Value}{hb:∀x:Str,x≠"__name__"->mb x=bootBuiltins x}
theorem EB:(List.range 128).all (λx=>!Builtin.Str.tooLong (Txt.lower (aj [x])).length)=true:=by decide +kernel
theorem z6(x:Nat)(hx:x<128):Builtin.Str.tooLong (Txt.lower (aj [x])).length=false:=by
 have:=QL.mp EB x (Q1.mpr hx)
 simpa using this
theorem JB:yp (aB Lake.H.KK mg mb hb):=λa b m h1 h2 h3 h4=>
 sW I9 Ey G0 nF Dv N2 IU (λx y hx hy=>j0 I8 OF N2 (aj [x]) (aj [y]) (z6 x hx) (z6 y hy)) a b m h1 h2 h3 h4
theorem OV:LF (aB Lake.H.KK mg mb hb)where
 drawn:=λJK hl=>xq Ja BP mI Ak nF JK hl
 typed:=λt JJ h=>xv Jb nF Ey Gm Ak t JJ h
 b3:=λch h=>qE I0 NG Ak ch h
 b1:=λch=>by refine ay (Ij (mg:=mg) (mb:=mb) (hb:=hb)) λS hS hSe=>?_;rw[<-hSe];exact sG OH hS Ak ch
 symbols:=λt h=>by rw[<-be.syms_of h.ok];exact sT Jc Iu Ey Ak t.txt (QC h.txt dk)
 isT:=uG I6 IV
 isN:=f5 Gw IV
 isE:=GG I7 OG
 ZY:=λt h=>xr Jd ⟨Gw,IV,Gm⟩ t h.ok h.sz
 sides:=λt h h2=>xu Je (nf BP) CP NE t.ZY h.edOk h.ZX h2
 far:=λc=>by
  have H:=vD c
  have:=B7 (T:=aB Lake.H.KK mg mb hb) (ls:=i7 c) Jf ⟨xt BP,JB,mI,ID,Ip,nF,Ir⟩ H.ed H.f0.edOk H.f0.ZX (by unfold i7;rw[Qs];rfl) H.way
  rw[wC,wC]at this;exact this
 written:=λS ex Kf=>sU Jg (nf BP) ⟨OM,Ju,OW,Jw,Ir,nF,G0⟩ Jv ID (EH S) Kf
theorem u4{P:Params}{ns:List Int}(x:WellAll P h vs (ofPys (ns.map .int))):aX g (ns.map .int) vs:=by
 induction ns generalizing vs with
 |nil=>cases x;exact .nil
 |cons n ns ih=>simp only[QW,ofPys,ofPy]at x;cases x with|cons a b=>cases a;exact .cons (.int _ _) (ih b)
theorem xW{P:Params}{ns:List Int}(x:Well P h v (ofPy (.list (ns.map .int))))(hg:∀a o,h.get? a=some o->fZ o=true->g a=some o):RV g (.list (ns.map .int)) v:=by simp only[ofPy]at x;cases x with|list e r=>exact .list (hg _ _ e rfl) (u4 r)
theorem Ef{ns:List Int}{c:ClaimW}{cl:Str->Option Addr}{WB:ExcName->Option Value}{JZ:List WData}(hb:∀x:Str,x≠"__name__"->mb x=bootBuiltins x)(KX:(Lake.H.KK w.params).In HX.heap)(h1:HX.heap.Ns mainGlobals mg)(h2:HX.heap.Ns builtinsNs mb)(h3:HX.heap.NoLimit)(hm:mg "law" = some (.ref fa))(hgn:HX.gens=#[])(wl:Well w.params HX.heap v (ofPy (.list (ns.map .int))))(hn:ns.length<=63)(hc:∀cls,c.raises JZ cls=false)(hp:c.post JZ (.bool true) JZ=true):
  wpAny (model P0 w) callerA (call (.ref fa) [v]) (λv s'=>GoodWG c cl WB JZ HX (.ok (.ret v)) s') (λe s'=>GoodWG c cl WB JZ HX (.error e) s') HX:=by
 have tp:(aB Lake.H.KK mg mb hb).Tp w HX.heap:=⟨KX,h1,h2,h3⟩;obtain⟨f,o,fd,e,ho,hd,hcd,q1,q2,q3,q4,q5,KY⟩:=Jh (hb:=hb) w HX.heap tp;have e':mg "law" = some (.ref f):=e;rw[hm]at e';cases e';exact zM OV tp ⟨⟨o,ho,hd⟩,hcd,q1,q2,q3,q4,q5⟩ ns hn (xW wl λa o e hs=>((ab (h:=HX.heap) (ms:=[])).mpr ⟨nofun,e⟩)) (KY [v] rfl) λs' a=>⟨.inl ⟨_,_,[],rfl,hc,ReadsW.bool true,hp,λU=>⟨Rs,λU hm=>(nomatch hm)⟩⟩,.of_keep a.keep,a.os,.of_eq (a.gens.trans hgn)⟩
end
end Mine.Lake.W
namespace Mine.Lake.H
set_option tactic.hygienic true in
theorem holds_:PySem.Challenge.rw_kl0127_02.Holds:=by
 w_on
 refine holds_law Qq λsaid=>?_;refine holds_open (q:=qv) (loose:=loose) (Xt:=λs=>xlAt qv [] s&&recOk (RowW.records r0.toRowW) s) (XP:=XL qv []) (Yf:=Hook.obs HK) (Ya:=Hook.val HK) (YP:=Hook.says HK) (N:=100000) GM (Hook.of HK) (Hook.keeps HK) (λs e=>xl_of s (QI.mp e).1) XL.keeps (by rfl) (by rfl) (by rfl) (λs e=>recFacts_of (QI.mp e).2) (by rfl) (by first|assumption|decide +kernel) dk ⟨rfl,rfl,rfl,rfl,rfl,by decide +kernel⟩ ?hw ?hc
 case hw=>w_witness2
 case hc=>
  intro w UM HX mg mb G Y fa o pm cd doc dV kV ho hd hcd hD hmg hg JZ vals as hpre hlay hrd XF XX;have KX:=kIn_of Y
  wrow_args hpre hlay hrd XF XX
  rename_i ns hs KH hL1 Y5 K7 Zb Xx a vs as3 hL ra w1 r0 hI hr Xz hc2;have hn:ns.length<=63:=by lia
  exact Lake.W.Ef G.T.builtins KX G.T.g G.T.b G.T.nolimit hmg hg w1 hn (Z 2) (by wrow_post)
end Mine.Lake.H
end
theorem PySem.Challenge.cw_kl0127_02_holds : PySem.Challenge.rw_kl0127_02.Holds :=
  Mine.Lake.H.holds_
