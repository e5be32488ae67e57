import PyProof.Rows.All
import Wide.All
import OpenK.AllK
import Wide.FinOn
import PySem.Challenge.RW_ta0117_01
set_option Elab.async false
set_option autoImplicit true
set_option relaxedAutoImplicit true
set_option linter.all false
set_option compiler.extract_closed false
set_option genInjectivity false
set_option genSizeOf false
set_option backward.match.sparseCases false
set_option tactic.hygienic false
set_option maxRecDepth 100000
set_option maxHeartbeats 0
open PySem PySem.W PyProof.Rows PySem.Calls
namespace Mine.Internal
local macro_rules
 |`(⋯)=>`(by kernel_rfl)
local macro_rules
 |`(∅)=>`(by decide)
noncomputable section
def Js:=@Around.frames_deeper
def PK:=@Array.getD_eq_getD_getElem?
def V7:=@Array.getElem?_eq_getElem
def Jt:=@Array.getElem?_eq_some_iff
def V8:=@Array.getElem?_setIfInBounds_ne
def Ar:=@Array.size_push
def PL:=@Array.size_setIfInBounds
def eN:=@Bool.and_eq_true
def xj:=@Bool.and_false
def mF:=@Bool.and_true
def uf:=@Bool.beq_comm
def qX:=@Bool.eq_iff_iff
def kj:=@Bool.false_eq_true
def Af:=@Bool.false_ne_true
def qY:=@Bool.not_eq_true'
def Ag:=@Bool.or_eq_false_iff
def ug:=@Bool.or_eq_true
def Jb:=@Bool.or_false
def Jc:=@Bool.or_true
def u9:=@Bool.true_and
def Jd:=@Classical.byContradiction
def Je:=@F.plainAttrs_list
def Jf:=@F.plain_extend_loop
def Jg:=@F.slot_list_append
def Jh:=@F.type_list_append
def Ph:=@Heap.DictOf.new
def w5:=@Heap.SameBut.update
def fO:=@Heap.get?_push_of_some
def iJ:=@Heap.get?_push_size
def Er:=@Heap.get?_update_self
def fK:=@Heap.size_push
def Ah:=@Int.add_assoc
def vd:=@Int.add_zero
def Pj:=@Int.eq_ofNat_of_zero_le
def V2:=@Int.fdiv_eq_ediv_of_nonneg
def Pk:=@Int.fmod_eq_emod_of_nonneg
def w6:=@Int.le_of_lt
def Es:=@Int.le_refl
def jr:=@Int.le_trans
def Pn:=@Int.lt_of_le_of_lt
def Et:=@Int.max_eq_right
def Ji:=@Int.min_eq_left
def w7:=@Int.mul_comm
def Jj:=@Int.mul_zero
def Jk:=@Int.natCast_add
def Pq:=@Int.natCast_ediv
def Pr:=@Int.natCast_emod
def oJ:=@Int.natCast_nonneg
def Ai:=@Int.not_lt
def qZ:=@Int.ofNat_le
def xd:=@Int.ofNat_sub
def xf:=@Int.toNat_natCast
def Jl:=@Int.toNat_of_nonneg
def Aj:=@Int.zero_add
def xg:=@Int.zero_mul
def vf:=@List.all_append
def jR:=@List.all_cons
def cU:=@List.all_eq_true
def Eu:=@List.all_nil
def dm:=@List.append_assoc
def fV:=@List.append_nil
def sG:=@List.cons.inj
def vg:=@List.cons_append
def vh:=@List.cons_ne_nil
def vm:=@List.countP_cons
def Jm:=@List.drop_append_of_le_length
def Ak:=@List.drop_eq_getElem_cons
def Pu:=@List.drop_length
def Ew:=@List.drop_of_length_le
def Al:=@List.drop_zero
def Jo:=@List.filterMap_cons
def Px:=@List.filterMap_cons_some
def Jp:=@List.filterMap_map
def Py:=@List.filter_cons
def Am:=@List.find?_cons
def uh:=@List.flatMap_cons
def lC:=@List.foldl_append
def An:=@List.forIn_cons
def Jq:=@List.forIn_nil
def g8:=@List.getD_eq_getElem?_getD
def Pz:=@List.getElem?_append_left
def Ao:=@List.getElem?_append_right
def iy:=@List.getElem?_eq_getElem
def um:=@List.getElem?_eq_some_iff
def uo:=@List.getElem?_map
def PB:=@List.getElem?_range'
def PJ:=@List.getElem_map
def qi:=@List.getElem_mem
def qj:=@List.isEmpty_iff
def bz:=@List.length_append
def dC:=@List.length_cons
def uq:=@List.length_drop
def Ex:=@List.length_eq_zero_iff
def bH:=@List.length_map
def jJ:=@List.length_nil
def Jr:=@List.length_range
def ur:=@List.length_range'
def mD:=@List.length_singleton
def sH:=@List.length_take
def Aq:=@List.length_take_le'
def mq:=@List.lookup_cons
def il:=@List.map_append
def Ih:=@List.map_congr_left
def fu:=@List.map_cons
def Ii:=@List.map_drop
def jn:=@List.map_map
def wM:=@List.map_take
def wN:=@List.mem_append
def gO:=@List.mem_cons
def pO:=@List.mem_cons_of_mem
def nA:=@List.mem_cons_self
def Dz:=@List.mem_flatMap
def gY:=@List.mem_map
def DG:=@List.mem_map_of_mem
def DK:=@List.mem_of_mem_take
def uc:=@List.mem_range
def DN:=@List.mem_range'_1
def oG:=@List.mem_singleton
def Og:=@List.nil_append
def zV:=@List.nodup_append
def wO:=@List.not_mem_nil
def Ij:=@List.range'_succ
def zW:=@List.range_eq_range'
def Oh:=@List.reverse_cons
def my:=@List.size_toArray
def DP:=@List.take_append_drop
def Oi:=@List.take_append_of_le_length
def DQ:=@List.take_left'
def zX:=@List.take_length
def Oj:=@List.take_of_length_le
def Ol:=@List.zip_cons_cons
def rW:=@Nat.add_assoc
def ud:=@Nat.add_comm
def ue:=@Nat.add_le_add
def oH:=@Nat.add_le_add_left
def rY:=@Nat.add_le_add_right
def zY:=@Nat.add_right_comm
def Om:=@Nat.add_sub_assoc
def DR:=@Nat.add_sub_cancel
def lu:=@Nat.le_add_left
def je:=@Nat.le_add_right
def DW:=@Nat.le_antisymm
def Oo:=@Nat.le_of_add_le_add_right
def Oq:=@Nat.le_of_add_right_le
def fH:=@Nat.le_of_eq
def DY:=@Nat.le_of_lt_succ
def Ot:=@Nat.le_of_not_lt
def pP:=@Nat.le_of_succ_le
def Ik:=@Nat.le_of_succ_le_succ
def iH:=@Nat.le_succ
def wQ:=@Nat.le_succ_of_le
def pQ:=@Nat.lt_irrefl
def mz:=@Nat.lt_of_le_of_lt
def Ou:=@Nat.lt_of_succ_lt
def uZ:=@Nat.lt_or_ge
def rZ:=@Nat.lt_succ_of_lt
def jo:=@Nat.lt_succ_self
def qT:=@Nat.lt_trans
def pR:=@Nat.min_eq_left
def Ov:=@Nat.min_eq_right
def jf:=@Nat.mod_lt
def zZ:=@Nat.mul_assoc
def Il:=@Nat.mul_comm
def Ow:=@Nat.mul_le_mul
def wR:=@Nat.mul_le_mul_left
def z9:=@Nat.ne_of_gt
def iI:=@Nat.ne_of_lt
def Im:=@Nat.not_le
def Ea:=@Nat.not_lt
def Aa:=@Nat.one_le_two_pow
def Io:=@Nat.one_mul
def pU:=@Nat.pow_le_pow_right
def Eb:=@Nat.sub_add_cancel
def pW:=@Nat.sub_le
def Ox:=@Nat.sub_lt_sub_left
def Ip:=@Nat.sub_pos_of_lt
def Ec:=@Nat.sub_self
def wU:=@Nat.succ.inj
def pX:=@Nat.succ_le_succ
def Ed:=@Nat.succ_mul
def Oz:=@Nat.two_pow_pos
def mC:=@Nat.zero_add
def jq:=@Nat.zero_le
def sr:=@Ne.symm
def nD:=@Option.bind_some
def Ef:=@Option.getD_some
def Eg:=@Option.isSome_none
def OD:=@Option.isSome_some
def ir:=@Option.some.inj
def V0:=@PySem.F.excRaise_ValueError
def OJ:=@PySem.F.objNew
def O2:=@PySem.W.Fast.te10110043849684766642
def Eh:=@PySem.W.Fast.te14364793385576792824
def O3:=@PySem.callWith_type
def su:=@Sem.bind_eq_wrap'
def pY:=@Sem.wrap_wrap
def Ir:=@Subscript_
def u0:=@arm_eval_Call
def gD:=@beq_eq_false_iff_ne
def bO:=@beq_iff_eq
def kh:=@beq_self_eq_true
def Iu:=@bne_iff_ne
def pZ:=@builtinLookup_eq_fast
def Ei:=@callWith_builtin
def O4:=@callWith_function
def Iv:=@call_type_of
def O5:=@codeAny_forLoop_any
def aU:=@congrArg
def wV:=@decide_eq_false
def wW:=@decide_eq_false_iff_not
def b8:=@decide_eq_true
def iw:=@decide_eq_true_eq
def Ej:=@getMethod_builtin
def jH:=@if_false
def aZ:=@if_neg
def aX:=@if_pos
def gZ:=@if_true
def dB:=@of_decide_eq_true
def Ek:=@pushCells_keeps
def qU:=@sizeLine_eq
def wX:=@spliced_cons
def El:=@spliced_nil
def lz:=@trivial
def qd:=@typeLookup_type
def Ab:=@wpAny_Assign_Name
def Iw:=@wpAny_Call_method
def Iz:=@wpAny_Expr
def O6:=@wpAny_Expr_any
def Ac:=@wpAny_If
def qW:=@wpAny_Name
def IK:=@wpAny_Return_some
def IV:=@wpAny_Tuple_spliced
def IW:=@wpAny_alloc
def Em:=@wpAny_assign_Name
def O7:=@wpAny_bindName
def I4:=@wpAny_call
def O8:=@wpAny_comprehension_free
def dI:=@wpAny_execs_cons
def qg:=@wpAny_execs_nil
def O9:=@wpAny_getItem_list_slice
def dJ:=@wpAny_holding
def Pa:=@wpAny_layCells
def I5:=@wpAny_list_append_plain
def Pb:=@wpAny_loadName_cell
def I6:=@wpAny_loadName_local
def I7:=@wpAny_loadPart_at
def I8:=@wpAny_mkText
def u5:=@wpAny_newObj_type
def u6:=@wpAny_of_eq
def En:=@wpAny_rule
def Eo:=@wpAny_specialOf
def gr:=@wpAny_standAt
def I9:=@wpAny_truthy_bool
def Ja:=@wpAny_updateSeq
theorem aF{n m k:Nat}:n<=m->m<=k->n<=k:=Nat.le_trans
theorem bJ{n m k:Nat}:n<m->m<=k->n<k:=Nat.lt_of_lt_of_le
theorem bw{n m:Nat}:m<=n->¬n<m:=Ea.mpr
theorem iM{A B:Type}{x:Option A}{f:A->B}{b:B}:Option.map f x=some b->∃a,x=some a/\f a=b:=Option.map_eq_some_iff.mp
theorem aN:type_of% @Nat.le_refl:=@Nat.le_refl
theorem tbn:type_of% @wpAny_bind:=@wpAny_bind
theorem bc:type_of% @wpAny_pure:=@wpAny_pure
theorem tmo:type_of% @wpAny_mono:=@wpAny_mono
theorem hls:type_of% @Heap.lt_size:=@Heap.lt_size
theorem fL{n m:Nat}:n<m->n<=m:=Nat.le_of_lt
theorem iQ{A:Type}{x:Option A}:x.isSome->∃a,x=some a:=Option.isSome_iff_exists.mp
@[elab_as_elim] theorem rqR {α:Sort _} {a b:α} {motive:α->Prop} (h:a=b) (m:motive b):motive a:=h▸m
@[elab_as_elim] theorem rqL {α:Sort _} {a b:α} {motive:α->Prop} (h:a=b) (m:motive a):motive b:=h▸m
local macro_rules
 | `(tactic| rewrite [$e:term]) => `(tactic| first | with_reducible_and_instances refine rqR ($e ..) ?_ | rewrite [$e:term] at ⊢)
 | `(tactic| rewrite [← $e:term]) => `(tactic| first | with_reducible_and_instances refine rqL ($e ..) ?_ | rewrite [← $e:term] at ⊢)
 | `(tactic| rewrite [$r:rwRule, $rs,*]) => `(tactic| (rewrite [$r]; rewrite [$rs,*]))
theorem kA{p q:Prop}{G:Prop}(h:p/\q)(k:p->q->G):G:=k h.1 h.2
theorem kE{A:Sort _}{p:A->Prop}{G:Prop}(h:∃a,p a)(k:∀a,p a->G):G:=h.elim λa h0=>k a h0
theorem cD{p q r:Prop}{G:Prop}(h:p/\q/\r)(k:p->q->r->G):G:=k h.1 h.2.1 h.2.2
theorem aH{A:Sort _}{p q:A->Prop}{G:Prop}(h:∃a,p a/\q a)(k:∀a,p a->q a->G):G:=h.elim λa h0=>k a h0.1 h0.2
theorem kO{A B:Sort _}{p:A->B->Prop}{G:Prop}(h:∃a b,p a b)(k:∀a b,p a b->G):G:=h.elim λa h0=>h0.elim λb h1=>k a b h1
theorem cW{p q r s:Prop}{G:Prop}(h:p/\q/\r/\s)(k:p->q->r->s->G):G:=k h.1 h.2.1 h.2.2.1 h.2.2.2
theorem JB{A:Sort _}{p:Prop}{q r:A->Prop}{G:Prop}(h:p/\(∃a,q a/\r a))(k:p->∀a,q a->r a->G):G:=h.2.elim λa h0=>k h.1 a h0.1 h0.2
theorem eO{A:Sort _}{p q r:A->Prop}{G:Prop}(h:∃a,p a/\q a/\r a)(k:∀a,p a->q a->r a->G):G:=h.elim λa h0=>k a h0.1 h0.2.1 h0.2.2
theorem ju{A B:Sort _}{p:A->Prop}{q:A->B->Prop}{G:Prop}(h:∃a,p a/\(∃b,q a b))(k:∀a,p a->∀b,q a b->G):G:=h.elim λa h0=>h0.2.elim λb h1=>k a h0.1 b h1
theorem eV{A B:Sort _}{p q:A->B->Prop}{G:Prop}(h:∃a b,p a b/\q a b)(k:∀a b,p a b->q a b->G):G:=h.elim λa h0=>h0.elim λb h1=>k a b h1.1 h1.2
theorem Qk{A B C:Sort _}{p:A->B->C->Prop}{G:Prop}(h:∃a b c,p a b c)(k:∀a b c,p a b c->G):G:=h.elim λa h0=>h0.elim λb h1=>h1.elim λc h2=>k a b c h2
theorem rm{p q r s t:Prop}{G:Prop}(h:p/\q/\r/\s/\t)(k:p->q->r->s->t->G):G:=k h.1 h.2.1 h.2.2.1 h.2.2.2.1 h.2.2.2.2
theorem Az{A:Sort _}{p q:Prop}{r s:A->Prop}{G:Prop}(h:p/\q/\(∃a,r a/\s a))(k:p->q->∀a,r a->s a->G):G:=h.2.2.elim λa h0=>k h.1 h.2.1 a h0.1 h0.2
theorem vD{A:Sort _}{p:Prop}{q r s:A->Prop}{G:Prop}(h:p/\(∃a,q a/\r a/\s a))(k:p->∀a,q a->r a->s a->G):G:=h.2.elim λa h0=>k h.1 a h0.1 h0.2.1 h0.2.2
theorem JC{A B:Sort _}{p:Prop}{q r:A->B->Prop}{G:Prop}(h:p/\(∃a b,q a b/\r a b))(k:p->∀a b,q a b->r a b->G):G:=h.2.elim λa h0=>h0.elim λb h1=>k h.1 a b h1.1 h1.2
theorem Fb{A:Sort _}{p q r s:A->Prop}{G:Prop}(h:∃a,p a/\q a/\r a/\s a)(k:∀a,p a->q a->r a->s a->G):G:=h.elim λa h0=>k a h0.1 h0.2.1 h0.2.2.1 h0.2.2.2
theorem Ql{A B:Sort _}{p q:A->Prop}{r:A->B->Prop}{G:Prop}(h:∃a,p a/\q a/\(∃b,r a b))(k:∀a,p a->q a->∀b,r a b->G):G:=h.elim λa h0=>h0.2.2.elim λb h1=>k a h0.1 h0.2.1 b h1
theorem Xf{A B:Sort _}{p:A->Prop}{q r:A->B->Prop}{G:Prop}(h:∃a,p a/\(∃b,q a b/\r a b))(k:∀a,p a->∀b,q a b->r a b->G):G:=h.elim λa h0=>h0.2.elim λb h1=>k a h0.1 b h1.1 h1.2
theorem eX{A B:Sort _}{p q r:A->B->Prop}{G:Prop}(h:∃a b,p a b/\q a b/\r a b)(k:∀a b,p a b->q a b->r a b->G):G:=h.elim λa h0=>h0.elim λb h1=>k a b h1.1 h1.2.1 h1.2.2
theorem jK{A B C:Sort _}{p q:A->B->C->Prop}{G:Prop}(h:∃a b c,p a b c/\q a b c)(k:∀a b c,p a b c->q a b c->G):G:=h.elim λa h0=>h0.elim λb h1=>h1.elim λc h2=>k a b c h2.1 h2.2
theorem uw{A B C D:Sort _}{p:A->B->C->D->Prop}{G:Prop}(h:∃a b c d,p a b c d)(k:∀a b c d,p a b c d->G):G:=h.elim λa h0=>h0.elim λb h1=>h1.elim λc h2=>h2.elim λd h3=>k a b c d h3
theorem JD{p q r s t u:Prop}{G:Prop}(h:p/\q/\r/\s/\t/\u)(k:p->q->r->s->t->u->G):G:=k h.1 h.2.1 h.2.2.1 h.2.2.2.1 h.2.2.2.2.1 h.2.2.2.2.2
theorem JF{A:Sort _}{p:Prop}{q r s t:A->Prop}{G:Prop}(h:p/\(∃a,q a/\r a/\s a/\t a))(k:p->∀a,q a->r a->s a->t a->G):G:=h.2.elim λa h0=>k h.1 a h0.1 h0.2.1 h0.2.2.1 h0.2.2.2
theorem vG{A:Sort _}{p q r s t:A->Prop}{G:Prop}(h:∃a,p a/\q a/\r a/\s a/\t a)(k:∀a,p a->q a->r a->s a->t a->G):G:=h.elim λa h0=>k a h0.1 h0.2.1 h0.2.2.1 h0.2.2.2.1 h0.2.2.2.2
theorem dZ{A B:Sort _}{p q r s:A->B->Prop}{G:Prop}(h:∃a b,p a b/\q a b/\r a b/\s a b)(k:∀a b,p a b->q a b->r a b->s a b->G):G:=h.elim λa h0=>h0.elim λb h1=>k a b h1.1 h1.2.1 h1.2.2.1 h1.2.2.2
theorem Qm{A B C:Sort _}{p:A->B->Prop}{q r:A->B->C->Prop}{G:Prop}(h:∃a b,p a b/\(∃c,q a b c/\r a b c))(k:∀a b,p a b->∀c,q a b c->r a b c->G):G:=h.elim λa h0=>h0.elim λb h1=>h1.2.elim λc h2=>k a b h1.1 c h2.1 h2.2
theorem Ba{A B C:Sort _}{p q r:A->B->C->Prop}{G:Prop}(h:∃a b c,p a b c/\q a b c/\r a b c)(k:∀a b c,p a b c->q a b c->r a b c->G):G:=h.elim λa h0=>h0.elim λb h1=>h1.elim λc h2=>k a b c h2.1 h2.2.1 h2.2.2
theorem rn{A B C D:Sort _}{p q:A->B->C->D->Prop}{G:Prop}(h:∃a b c d,p a b c d/\q a b c d)(k:∀a b c d,p a b c d->q a b c d->G):G:=h.elim λa h0=>h0.elim λb h1=>h1.elim λc h2=>h2.elim λd h3=>k a b c d h3.1 h3.2
theorem xF{A B:Sort _}{p:Prop}{q r s t:A->B->Prop}{G:Prop}(h:p/\(∃a b,q a b/\r a b/\s a b/\t a b))(k:p->∀a b,q a b->r a b->s a b->t a b->G):G:=h.2.elim λa h0=>h0.elim λb h1=>k h.1 a b h1.1 h1.2.1 h1.2.2.1 h1.2.2.2
theorem Qn{A B:Sort _}{p q r s t:A->B->Prop}{G:Prop}(h:∃a b,p a b/\q a b/\r a b/\s a b/\t a b)(k:∀a b,p a b->q a b->r a b->s a b->t a b->G):G:=h.elim λa h0=>h0.elim λb h1=>k a b h1.1 h1.2.1 h1.2.2.1 h1.2.2.2.1 h1.2.2.2.2
theorem qt{A B C:Sort _}{p q r s:A->B->C->Prop}{G:Prop}(h:∃a b c,p a b c/\q a b c/\r a b c/\s a b c)(k:∀a b c,p a b c->q a b c->r a b c->s a b c->G):G:=h.elim λa h0=>h0.elim λb h1=>h1.elim λc h2=>k a b c h2.1 h2.2.1 h2.2.2.1 h2.2.2.2
theorem Qo{A B:Sort _}{p q r:Prop}{s t u:A->B->Prop}{G:Prop}(h:p/\q/\r/\(∃a b,s a b/\t a b/\u a b))(k:p->q->r->∀a b,s a b->t a b->u a b->G):G:=h.2.2.2.elim λa h0=>h0.elim λb h1=>k h.1 h.2.1 h.2.2.1 a b h1.1 h1.2.1 h1.2.2
theorem Qp{A B:Sort _}{p q:Prop}{r s t u:A->B->Prop}{G:Prop}(h:p/\q/\(∃a b,r a b/\s a b/\t a b/\u a b))(k:p->q->∀a b,r a b->s a b->t a b->u a b->G):G:=h.2.2.elim λa h0=>h0.elim λb h1=>k h.1 h.2.1 a b h1.1 h1.2.1 h1.2.2.1 h1.2.2.2
theorem Bb{A B:Sort _}{p q r s t u:A->B->Prop}{G:Prop}(h:∃a b,p a b/\q a b/\r a b/\s a b/\t a b/\u a b)(k:∀a b,p a b->q a b->r a b->s a b->t a b->u a b->G):G:=h.elim λa h0=>h0.elim λb h1=>k a b h1.1 h1.2.1 h1.2.2.1 h1.2.2.2.1 h1.2.2.2.2.1 h1.2.2.2.2.2
theorem JG{A B C:Sort _}{p q r s t u:A->B->C->Prop}{G:Prop}(h:∃a b c,p a b c/\q a b c/\r a b c/\s a b c/\t a b c/\u a b c)(k:∀a b c,p a b c->q a b c->r a b c->s a b c->t a b c->u a b c->G):G:=h.elim λa h0=>h0.elim λb h1=>h1.elim λc h2=>k a b c h2.1 h2.2.1 h2.2.2.1 h2.2.2.2.1 h2.2.2.2.2.1 h2.2.2.2.2.2
theorem qw{A B C D E:Sort _}{p q r s:A->B->C->D->E->Prop}{G:Prop}(h:∃a b c d e,p a b c d e/\q a b c d e/\r a b c d e/\s a b c d e)(k:∀a b c d e,p a b c d e->q a b c d e->r a b c d e->s a b c d e->G):G:=h.elim λa h0=>h0.elim λb h1=>h1.elim λc h2=>h2.elim λd h3=>h3.elim λe h4=>k a b c d e h4.1 h4.2.1 h4.2.2.1 h4.2.2.2
theorem vH{A B C:Sort _}{p q r s t u v:A->B->C->Prop}{G:Prop}(h:∃a b c,p a b c/\q a b c/\r a b c/\s a b c/\t a b c/\u a b c/\v a b c)(k:∀a b c,p a b c->q a b c->r a b c->s a b c->t a b c->u a b c->v a b c->G):G:=h.elim λa h0=>h0.elim λb h1=>h1.elim λc h2=>k a b c h2.1 h2.2.1 h2.2.2.1 h2.2.2.2.1 h2.2.2.2.2.1 h2.2.2.2.2.2.1 h2.2.2.2.2.2.2
theorem Fd{A B C D E F:Sort _}{p q r s t:A->B->C->D->E->F->Prop}{G:Prop}(h:∃a b c d e f,p a b c d e f/\q a b c d e f/\r a b c d e f/\s a b c d e f/\t a b c d e f)(k:∀a b c d e f,p a b c d e f->q a b c d e f->r a b c d e f->s a b c d e f->t a b c d e f->G):G:=h.elim λa h0=>h0.elim λb h1=>h1.elim λc h2=>h2.elim λd h3=>h3.elim λe h4=>h4.elim λf h5=>k a b c d e f h5.1 h5.2.1 h5.2.2.1 h5.2.2.2.1 h5.2.2.2.2
theorem xG{A B C D E F H I J K L M:Sort _}{p:A->B->C->D->E->F->H->I->J->K->L->M->Prop}{G:Prop}(h:∃a b c d e f i j l m n o,p a b c d e f i j l m n o)(k:∀a b c d e f i j l m n o,p a b c d e f i j l m n o->G):G:=h.elim λa h0=>h0.elim λb h1=>h1.elim λc h2=>h2.elim λd h3=>h3.elim λe h4=>h4.elim λf h5=>h5.elim λi h6=>h6.elim λj h7=>h7.elim λl h8=>h8.elim λm h9=>h9.elim λn h10=>h10.elim λo h11=>k a b c d e f i j l m n o h11
theorem JH{A B C D E F:Sort _}{p:Prop}{q r s t u v w x:A->B->C->D->E->F->Prop}{G:Prop}(h:p/\(∃a b c d e f,q a b c d e f/\r a b c d e f/\s a b c d e f/\t a b c d e f/\u a b c d e f/\v a b c d e f/\w a b c d e f/\x a b c d e f))(k:p->∀a b c d e f,q a b c d e f->r a b c d e f->s a b c d e f->t a b c d e f->u a b c d e f->v a b c d e f->w a b c d e f->x a b c d e f->G):G:=h.2.elim λa h0=>h0.elim λb h1=>h1.elim λc h2=>h2.elim λd h3=>h3.elim λe h4=>h4.elim λf h5=>k h.1 a b c d e f h5.1 h5.2.1 h5.2.2.1 h5.2.2.2.1 h5.2.2.2.2.1 h5.2.2.2.2.2.1 h5.2.2.2.2.2.2.1 h5.2.2.2.2.2.2.2
@[elab_as_elim] theorem cR {aJ dj:Sort _} {f0:aJ->dj} (y0:dj) {G:dj->Prop} (h:∃a0,y0=f0 a0) (k:∀a0,G (f0 a0)):G y0:=by
 obtain⟨a0,rfl⟩:=h;exact k a0
@[elab_as_elim] theorem Xg {dj zO:Sort _} {f0:dj} {f1:zO} (y0:dj) (y1:zO) {G:dj->zO->Prop} (h:y0=f0/\f1=y1) (k:G f0 f1):G y0 y1:=by
 obtain⟨rfl,rfl⟩:=h;exact k
@[elab_as_elim] theorem vI {dj zO:Sort _} {f0:dj} {f1:zO} (y0:dj) (y1:zO) {G:dj->zO->Prop} (h:y0=f0/\y1=f1) (k:G f0 f1):G y0 y1:=by
 obtain⟨rfl,rfl⟩:=h;exact k
@[elab_as_elim] theorem gJ {dj:Sort _} {f0:dj} {p1:Prop} (y0:dj) {G:dj->Prop} (h:y0=f0/\p1) (k:p1->G f0):G y0:=by
 obtain⟨rfl,h1⟩:=h;exact k h1
@[elab_as_elim] theorem eY {aJ dj:Sort _} {p1:aJ->Prop} {f0:aJ->dj} (y0:dj) {G:dj->Prop} (h:∃a0,p1 a0/\f0 a0=y0) (k:∀a0,p1 a0->G (f0 a0)):G y0:=by
 obtain⟨a0,h1,rfl⟩:=h;exact k a0 h1
@[elab_as_elim] theorem Bc {aJ α1 dj:Sort _} {f0:aJ->α1->dj} (y0:dj) {G:dj->Prop} (h:∃a0,∃a1,y0=f0 a0 a1) (k:∀a0,∀a1,G (f0 a0 a1)):G y0:=by
 obtain⟨a0,a1,rfl⟩:=h;exact k a0 a1
@[elab_as_elim] theorem oW {aJ dj:Sort _} {f0:aJ->dj} {p2:aJ->Prop} (y0:dj) {G:dj->Prop} (h:∃a0,y0=f0 a0/\p2 a0) (k:∀a0,p2 a0->G (f0 a0)):G y0:=by
 obtain⟨a0,rfl,h2⟩:=h;exact k a0 h2
@[elab_as_elim] theorem jDc {dj:Sort _} {f0:dj} {p1:Prop} {p2:Prop} (y0:dj) {G:dj->Prop} (h:f0=y0/\p1/\p2) (k:p1->p2->G f0):G y0:=by
 obtain⟨rfl,h1,h2⟩:=h;exact k h1 h2
@[elab_as_elim] theorem JK {dj:Sort _} {f0:dj} {p1:Prop} {p2:Prop} (y0:dj) {G:dj->Prop} (h:y0=f0/\p1/\p2) (k:p1->p2->G f0):G y0:=by
 obtain⟨rfl,h1,h2⟩:=h;exact k h1 h2
@[elab_as_elim] theorem cP {aJ α1 dj:Sort _} {f0:aJ->α1->dj} {p3:aJ->α1->Prop} {p4:aJ->α1->Prop} (y0:dj) {G:dj->Prop} (h:∃a0,∃a1,y0=f0 a0 a1/\p3 a0 a1/\p4 a0 a1) (k:∀a0,∀a1,p3 a0 a1->p4 a0 a1->G (f0 a0 a1)):G y0:=by
 obtain⟨a0,a1,rfl,h3,h4⟩:=h;exact k a0 a1 h3 h4
@[elab_as_elim] theorem Fe {aJ dj:Sort _} {f0:aJ->dj} {p2:aJ->Prop} {p3:aJ->Prop} {p4:aJ->Prop} (y0:dj) {G:dj->Prop} (h:∃a0,y0=f0 a0/\p2 a0/\p3 a0/\p4 a0) (k:∀a0,p2 a0->p3 a0->p4 a0->G (f0 a0)):G y0:=by
 obtain⟨a0,rfl,h2,h3,h4⟩:=h;exact k a0 h2 h3 h4
theorem nn{α:Type}{x:α}{P:Prop}(h:none=some x):P:=nomatch h
theorem nf{P:Prop}(h:false=true):P:=nomatch h
theorem nt{P:Prop}(h:true=false):P:=nomatch h
theorem ns{α:Type _}{x:α}{P:Prop}(h:some x=none):P:=nomatch h
theorem Xh{aJ:Sort _}{p0:Prop}{p2:aJ->Prop}(h0:p0)(a0:aJ)(h2:p2 a0):p0/\(∃a0,p2 a0):=⟨h0,a0,h2⟩
theorem aW{aJ:Sort _}{p1:aJ->Prop}{p2:aJ->Prop}(a0:aJ)(h1:p1 a0)(h2:p2 a0):∃a0,p1 a0/\p2 a0:=⟨a0,h1,h2⟩
theorem kW{aJ α1:Sort _}{p2:aJ->α1->Prop}(a0:aJ)(a1:α1)(h2:p2 a0 a1):∃a0,∃a1,p2 a0 a1:=⟨a0,a1,h2⟩
theorem jh{p0:Prop}{p1:Prop}{p2:Prop}{p3:Prop}(h0:p0)(h1:p1)(h2:p2)(h3:p3):p0/\p1/\p2/\p3:=⟨h0,h1,h2,h3⟩
theorem kY{aJ:Sort _}{p0:Prop}{p2:aJ->Prop}{p3:aJ->Prop}(h0:p0)(a0:aJ)(h2:p2 a0)(h3:p3 a0):p0/\(∃a0,p2 a0/\p3 a0):=⟨h0,a0,h2,h3⟩
theorem cG{aJ:Sort _}{p1:aJ->Prop}{p2:aJ->Prop}{p3:aJ->Prop}(a0:aJ)(h1:p1 a0)(h2:p2 a0)(h3:p3 a0):∃a0,p1 a0/\p2 a0/\p3 a0:=⟨a0,h1,h2,h3⟩
theorem nJ{aJ α1:Sort _}{p1:aJ->Prop}{p3:aJ->α1->Prop}(a0:aJ)(h1:p1 a0)(a1:α1)(h3:p3 a0 a1):∃a0,p1 a0/\(∃a1,p3 a0 a1):=⟨a0,h1,a1,h3⟩
theorem fP{aJ α1:Sort _}{p2:aJ->α1->Prop}{p3:aJ->α1->Prop}(a0:aJ)(a1:α1)(h2:p2 a0 a1)(h3:p3 a0 a1):∃a0,∃a1,p2 a0 a1/\p3 a0 a1:=⟨a0,a1,h2,h3⟩
theorem Qq{aJ α1 α2:Sort _}{p3:aJ->α1->α2->Prop}(a0:aJ)(a1:α1)(a2:α2)(h3:p3 a0 a1 a2):∃a0,∃a1,∃a2,p3 a0 a1 a2:=⟨a0,a1,a2,h3⟩
theorem nM{p0:Prop}{p1:Prop}{p2:Prop}{p3:Prop}{p4:Prop}(h0:p0)(h1:p1)(h2:p2)(h3:p3)(h4:p4):p0/\p1/\p2/\p3/\p4:=⟨h0,h1,h2,h3,h4⟩
theorem Qs{aJ:Sort _}{p0:Prop}{p1:Prop}{p3:aJ->Prop}{p4:aJ->Prop}(h0:p0)(h1:p1)(a0:aJ)(h3:p3 a0)(h4:p4 a0):p0/\p1/\(∃a0,p3 a0/\p4 a0):=⟨h0,h1,a0,h3,h4⟩
theorem Qt{aJ:Sort _}{p0:Prop}{p2:aJ->Prop}{p3:aJ->Prop}{p4:aJ->Prop}(h0:p0)(a0:aJ)(h2:p2 a0)(h3:p3 a0)(h4:p4 a0):p0/\(∃a0,p2 a0/\p3 a0/\p4 a0):=⟨h0,a0,h2,h3,h4⟩
theorem ru{aJ:Sort _}{p1:aJ->Prop}{p2:aJ->Prop}{p3:aJ->Prop}{p4:aJ->Prop}(a0:aJ)(h1:p1 a0)(h2:p2 a0)(h3:p3 a0)(h4:p4 a0):∃a0,p1 a0/\p2 a0/\p3 a0/\p4 a0:=⟨a0,h1,h2,h3,h4⟩
theorem JL{aJ α1:Sort _}{p1:aJ->Prop}{p2:aJ->Prop}{p4:aJ->α1->Prop}(a0:aJ)(h1:p1 a0)(h2:p2 a0)(a1:α1)(h4:p4 a0 a1):∃a0,p1 a0/\p2 a0/\(∃a1,p4 a0 a1):=⟨a0,h1,h2,a1,h4⟩
theorem Bd{aJ α1:Sort _}{p1:aJ->Prop}{p3:aJ->α1->Prop}{p4:aJ->α1->Prop}(a0:aJ)(h1:p1 a0)(a1:α1)(h3:p3 a0 a1)(h4:p4 a0 a1):∃a0,p1 a0/\(∃a1,p3 a0 a1/\p4 a0 a1):=⟨a0,h1,a1,h3,h4⟩
theorem jT{aJ α1:Sort _}{p2:aJ->α1->Prop}{p3:aJ->α1->Prop}{p4:aJ->α1->Prop}(a0:aJ)(a1:α1)(h2:p2 a0 a1)(h3:p3 a0 a1)(h4:p4 a0 a1):∃a0,∃a1,p2 a0 a1/\p3 a0 a1/\p4 a0 a1:=⟨a0,a1,h2,h3,h4⟩
theorem jU{aJ α1 α2:Sort _}{p3:aJ->α1->α2->Prop}{p4:aJ->α1->α2->Prop}(a0:aJ)(a1:α1)(a2:α2)(h3:p3 a0 a1 a2)(h4:p4 a0 a1 a2):∃a0,∃a1,∃a2,p3 a0 a1 a2/\p4 a0 a1 a2:=⟨a0,a1,a2,h3,h4⟩
theorem JM{aJ α1 α2 α3:Sort _}{p4:aJ->α1->α2->α3->Prop}(a0:aJ)(a1:α1)(a2:α2)(a3:α3)(h4:p4 a0 a1 a2 a3):∃a0,∃a1,∃a2,∃a3,p4 a0 a1 a2 a3:=⟨a0,a1,a2,a3,h4⟩
theorem JN{aJ:Sort _}{p1:aJ->Prop}{p2:aJ->Prop}{p3:aJ->Prop}{p4:aJ->Prop}{p5:aJ->Prop}(a0:aJ)(h1:p1 a0)(h2:p2 a0)(h3:p3 a0)(h4:p4 a0)(h5:p5 a0):∃a0,p1 a0/\p2 a0/\p3 a0/\p4 a0/\p5 a0:=⟨a0,h1,h2,h3,h4,h5⟩
theorem fW{aJ α1:Sort _}{p2:aJ->α1->Prop}{p3:aJ->α1->Prop}{p4:aJ->α1->Prop}{p5:aJ->α1->Prop}(a0:aJ)(a1:α1)(h2:p2 a0 a1)(h3:p3 a0 a1)(h4:p4 a0 a1)(h5:p5 a0 a1):∃a0,∃a1,p2 a0 a1/\p3 a0 a1/\p4 a0 a1/\p5 a0 a1:=⟨a0,a1,h2,h3,h4,h5⟩
theorem Ff{aJ α1 α2 α3:Sort _}{p4:aJ->α1->α2->α3->Prop}{p5:aJ->α1->α2->α3->Prop}(a0:aJ)(a1:α1)(a2:α2)(a3:α3)(h4:p4 a0 a1 a2 a3)(h5:p5 a0 a1 a2 a3):∃a0,∃a1,∃a2,∃a3,p4 a0 a1 a2 a3/\p5 a0 a1 a2 a3:=⟨a0,a1,a2,a3,h4,h5⟩
theorem Qu{aJ:Sort _}{p0:Prop}{p1:Prop}{p3:aJ->Prop}{p4:aJ->Prop}{p5:aJ->Prop}{p6:aJ->Prop}(h0:p0)(h1:p1)(a0:aJ)(h3:p3 a0)(h4:p4 a0)(h5:p5 a0)(h6:p6 a0):p0/\p1/\(∃a0,p3 a0/\p4 a0/\p5 a0/\p6 a0):=⟨h0,h1,a0,h3,h4,h5,h6⟩
theorem Fg{aJ α1:Sort _}{p0:Prop}{p3:aJ->α1->Prop}{p4:aJ->α1->Prop}{p5:aJ->α1->Prop}{p6:aJ->α1->Prop}(h0:p0)(a0:aJ)(a1:α1)(h3:p3 a0 a1)(h4:p4 a0 a1)(h5:p5 a0 a1)(h6:p6 a0 a1):p0/\(∃a0,∃a1,p3 a0 a1/\p4 a0 a1/\p5 a0 a1/\p6 a0 a1):=⟨h0,a0,a1,h3,h4,h5,h6⟩
theorem Qv{aJ α1:Sort _}{p2:aJ->α1->Prop}{p3:aJ->α1->Prop}{p4:aJ->α1->Prop}{p5:aJ->α1->Prop}{p6:aJ->α1->Prop}(a0:aJ)(a1:α1)(h2:p2 a0 a1)(h3:p3 a0 a1)(h4:p4 a0 a1)(h5:p5 a0 a1)(h6:p6 a0 a1):∃a0,∃a1,p2 a0 a1/\p3 a0 a1/\p4 a0 a1/\p5 a0 a1/\p6 a0 a1:=⟨a0,a1,h2,h3,h4,h5,h6⟩
theorem Be{aJ α1 α2:Sort _}{p3:aJ->α1->α2->Prop}{p4:aJ->α1->α2->Prop}{p5:aJ->α1->α2->Prop}{p6:aJ->α1->α2->Prop}(a0:aJ)(a1:α1)(a2:α2)(h3:p3 a0 a1 a2)(h4:p4 a0 a1 a2)(h5:p5 a0 a1 a2)(h6:p6 a0 a1 a2):∃a0,∃a1,∃a2,p3 a0 a1 a2/\p4 a0 a1 a2/\p5 a0 a1 a2/\p6 a0 a1 a2:=⟨a0,a1,a2,h3,h4,h5,h6⟩
theorem Qw{aJ α1 α2 α3:Sort _}{p4:aJ->α1->α2->α3->Prop}{p5:aJ->α1->α2->α3->Prop}{p6:aJ->α1->α2->α3->Prop}(a0:aJ)(a1:α1)(a2:α2)(a3:α3)(h4:p4 a0 a1 a2 a3)(h5:p5 a0 a1 a2 a3)(h6:p6 a0 a1 a2 a3):∃a0,∃a1,∃a2,∃a3,p4 a0 a1 a2 a3/\p5 a0 a1 a2 a3/\p6 a0 a1 a2 a3:=⟨a0,a1,a2,a3,h4,h5,h6⟩
theorem Qx{aJ α1:Sort _}{p0:Prop}{p1:Prop}{p4:aJ->α1->Prop}{p5:aJ->α1->Prop}{p6:aJ->α1->Prop}{p7:aJ->α1->Prop}(h0:p0)(h1:p1)(a0:aJ)(a1:α1)(h4:p4 a0 a1)(h5:p5 a0 a1)(h6:p6 a0 a1)(h7:p7 a0 a1):p0/\p1/\(∃a0,∃a1,p4 a0 a1/\p5 a0 a1/\p6 a0 a1/\p7 a0 a1):=⟨h0,h1,a0,a1,h4,h5,h6,h7⟩
theorem Qy{aJ α1 α2:Sort _}{p3:aJ->α1->α2->Prop}{p4:aJ->α1->α2->Prop}{p5:aJ->α1->α2->Prop}{p6:aJ->α1->α2->Prop}{p7:aJ->α1->α2->Prop}(a0:aJ)(a1:α1)(a2:α2)(h3:p3 a0 a1 a2)(h4:p4 a0 a1 a2)(h5:p5 a0 a1 a2)(h6:p6 a0 a1 a2)(h7:p7 a0 a1 a2):∃a0,∃a1,∃a2,p3 a0 a1 a2/\p4 a0 a1 a2/\p5 a0 a1 a2/\p6 a0 a1 a2/\p7 a0 a1 a2:=⟨a0,a1,a2,h3,h4,h5,h6,h7⟩
theorem Qz{aJ α1 α2:Sort _}{p3:aJ->α1->α2->Prop}{p4:aJ->α1->α2->Prop}{p5:aJ->α1->α2->Prop}{p6:aJ->α1->α2->Prop}{p7:aJ->α1->α2->Prop}{p8:aJ->α1->α2->Prop}(a0:aJ)(a1:α1)(a2:α2)(h3:p3 a0 a1 a2)(h4:p4 a0 a1 a2)(h5:p5 a0 a1 a2)(h6:p6 a0 a1 a2)(h7:p7 a0 a1 a2)(h8:p8 a0 a1 a2):∃a0,∃a1,∃a2,p3 a0 a1 a2/\p4 a0 a1 a2/\p5 a0 a1 a2/\p6 a0 a1 a2/\p7 a0 a1 a2/\p8 a0 a1 a2:=⟨a0,a1,a2,h3,h4,h5,h6,h7,h8⟩
theorem QB{aJ α1 α2:Sort _}{p3:aJ->α1->α2->Prop}{p4:aJ->α1->α2->Prop}{p5:aJ->α1->α2->Prop}{p6:aJ->α1->α2->Prop}{p7:aJ->α1->α2->Prop}{p8:aJ->α1->α2->Prop}{p9:aJ->α1->α2->Prop}(a0:aJ)(a1:α1)(a2:α2)(h3:p3 a0 a1 a2)(h4:p4 a0 a1 a2)(h5:p5 a0 a1 a2)(h6:p6 a0 a1 a2)(h7:p7 a0 a1 a2)(h8:p8 a0 a1 a2)(h9:p9 a0 a1 a2):∃a0,∃a1,∃a2,p3 a0 a1 a2/\p4 a0 a1 a2/\p5 a0 a1 a2/\p6 a0 a1 a2/\p7 a0 a1 a2/\p8 a0 a1 a2/\p9 a0 a1 a2:=⟨a0,a1,a2,h3,h4,h5,h6,h7,h8,h9⟩
theorem QC{aJ α1 α2 α3 gW lY:Sort _}{p6:aJ->α1->α2->α3->gW->lY->Prop}{p7:aJ->α1->α2->α3->gW->lY->Prop}{p8:aJ->α1->α2->α3->gW->lY->Prop}{p9:aJ->α1->α2->α3->gW->lY->Prop}{lG:aJ->α1->α2->α3->gW->lY->Prop}(a0:aJ)(a1:α1)(a2:α2)(a3:α3)(a4:gW)(a5:lY)(h6:p6 a0 a1 a2 a3 a4 a5)(h7:p7 a0 a1 a2 a3 a4 a5)(h8:p8 a0 a1 a2 a3 a4 a5)(h9:p9 a0 a1 a2 a3 a4 a5)(h10:lG a0 a1 a2 a3 a4 a5):∃a0,∃a1,∃a2,∃a3,∃a4,∃a5,p6 a0 a1 a2 a3 a4 a5/\p7 a0 a1 a2 a3 a4 a5/\p8 a0 a1 a2 a3 a4 a5/\p9 a0 a1 a2 a3 a4 a5/\lG a0 a1 a2 a3 a4 a5:=⟨a0,a1,a2,a3,a4,a5,h6,h7,h8,h9,h10⟩
theorem Fi{aJ α1 α2 α3 gW:Sort _}{p5:aJ->α1->α2->α3->gW->Prop}{p6:aJ->α1->α2->α3->gW->Prop}{p7:aJ->α1->α2->α3->gW->Prop}{p8:aJ->α1->α2->α3->gW->Prop}{p9:aJ->α1->α2->α3->gW->Prop}{lG:aJ->α1->α2->α3->gW->Prop}{jV:aJ->α1->α2->α3->gW->Prop}(a0:aJ)(a1:α1)(a2:α2)(a3:α3)(a4:gW)(h5:p5 a0 a1 a2 a3 a4)(h6:p6 a0 a1 a2 a3 a4)(h7:p7 a0 a1 a2 a3 a4)(h8:p8 a0 a1 a2 a3 a4)(h9:p9 a0 a1 a2 a3 a4)(h10:lG a0 a1 a2 a3 a4)(h11:jV a0 a1 a2 a3 a4):∃a0,∃a1,∃a2,∃a3,∃a4,p5 a0 a1 a2 a3 a4/\p6 a0 a1 a2 a3 a4/\p7 a0 a1 a2 a3 a4/\p8 a0 a1 a2 a3 a4/\p9 a0 a1 a2 a3 a4/\lG a0 a1 a2 a3 a4/\jV a0 a1 a2 a3 a4:=⟨a0,a1,a2,a3,a4,h5,h6,h7,h8,h9,h10,h11⟩
theorem QD{aJ α1 α2:Sort _}{p3:aJ->α1->α2->Prop}{p4:aJ->α1->α2->Prop}{p5:aJ->α1->α2->Prop}{p6:aJ->α1->α2->Prop}{p7:aJ->α1->α2->Prop}{p8:aJ->α1->α2->Prop}{p9:aJ->α1->α2->Prop}{lG:aJ->α1->α2->Prop}{jV:aJ->α1->α2->Prop}{wL:aJ->α1->α2->Prop}(a0:aJ)(a1:α1)(a2:α2)(h3:p3 a0 a1 a2)(h4:p4 a0 a1 a2)(h5:p5 a0 a1 a2)(h6:p6 a0 a1 a2)(h7:p7 a0 a1 a2)(h8:p8 a0 a1 a2)(h9:p9 a0 a1 a2)(h10:lG a0 a1 a2)(h11:jV a0 a1 a2)(h12:wL a0 a1 a2):∃a0,∃a1,∃a2,p3 a0 a1 a2/\p4 a0 a1 a2/\p5 a0 a1 a2/\p6 a0 a1 a2/\p7 a0 a1 a2/\p8 a0 a1 a2/\p9 a0 a1 a2/\lG a0 a1 a2/\jV a0 a1 a2/\wL a0 a1 a2:=⟨a0,a1,a2,h3,h4,h5,h6,h7,h8,h9,h10,h11,h12⟩
theorem JP{aJ α1 α2 α3 gW lY:Sort _}{p0:Prop}{p7:aJ->α1->α2->α3->gW->lY->Prop}{p8:aJ->α1->α2->α3->gW->lY->Prop}{p9:aJ->α1->α2->α3->gW->lY->Prop}{lG:aJ->α1->α2->α3->gW->lY->Prop}{jV:aJ->α1->α2->α3->gW->lY->Prop}{wL:aJ->α1->α2->α3->gW->lY->Prop}{xH:aJ->α1->α2->α3->gW->lY->Prop}{Bf:aJ->α1->α2->α3->gW->lY->Prop}(h0:p0)(a0:aJ)(a1:α1)(a2:α2)(a3:α3)(a4:gW)(a5:lY)(h7:p7 a0 a1 a2 a3 a4 a5)(h8:p8 a0 a1 a2 a3 a4 a5)(h9:p9 a0 a1 a2 a3 a4 a5)(h10:lG a0 a1 a2 a3 a4 a5)(h11:jV a0 a1 a2 a3 a4 a5)(h12:wL a0 a1 a2 a3 a4 a5)(h13:xH a0 a1 a2 a3 a4 a5)(h14:Bf a0 a1 a2 a3 a4 a5):p0/\(∃a0,∃a1,∃a2,∃a3,∃a4,∃a5,p7 a0 a1 a2 a3 a4 a5/\p8 a0 a1 a2 a3 a4 a5/\p9 a0 a1 a2 a3 a4 a5/\lG a0 a1 a2 a3 a4 a5/\jV a0 a1 a2 a3 a4 a5/\wL a0 a1 a2 a3 a4 a5/\xH a0 a1 a2 a3 a4 a5/\Bf a0 a1 a2 a3 a4 a5):=⟨h0,a0,a1,a2,a3,a4,a5,h7,h8,h9,h10,h11,h12,h13,h14⟩
inductive PV where
 |none|bool (b:Bool)|int (i:Int)|str (s:List Nat)
 |tup (l:List PV)|lst (l:List PV)|own (l:List PV)|dct (l:List (PV×PV))|gf (a b:Int)|gen (l:List PV)|hdr (l:List PV)|obj (a:Nat)|typ (T:String)
 deriving Inhabited
abbrev PE:=PySem.Expr
abbrev AP:=Addr->Prop
abbrev NP:=Nat->Prop
abbrev OV:=Option PV
abbrev LV:=List PV
noncomputable def aL(n:Nat):Bool:=decide (n<=1000000)
noncomputable def cX(i:Int):Bool:=decide (-1000000000000000000<=i)&&decide (i<=1000000000000000000)
noncomputable def PV.asInt:PV->Option Int
 | .int i=>some i|_=>.none
noncomputable def PV.bV:PV->Option (List Nat)
 | .str s=>some s|_=>.none
noncomputable def PV.sO:PV->Option (LV)
 | .tup l=>some l|_=>.none
noncomputable def PV.sJ:PV->Option (LV)
 | .lst l=>some l|_=>.none
noncomputable def PV.vy:PV->Option Bool
 | .bool b=>some b|_=>.none
noncomputable def PV.items?:PV->Option (LV)
 | .lst l=>some l| .own l=>some l|_=>.none
theorem PV.nF{p:PV}{i:Int}:p.asInt=some i->p=.int i:=by cases p<;>first|exact nn|(intro h;cases h;rfl)
theorem PV.VV{p:PV}{i:Bool}:p.vy=some i->p=.bool i:=by cases p<;>first|exact nn|(intro h;cases h;rfl)
theorem PV.fJ{p:PV}{i:List Nat}:p.bV=some i->p=.str i:=by cases p<;>first|exact nn|(intro h;cases h;rfl)
theorem PV.Ae{p:PV}{i:LV}:p.sO=some i->p=.tup i:=by cases p<;>first|exact nn|(intro h;cases h;rfl)
theorem PV.sy{p:PV}{i:LV}:p.sJ=some i->p=.lst i:=by cases p<;>first|exact nn|(intro h;cases h;rfl)
theorem PV.Ep{p:PV}{i:LV}:p.items?=some i->p=.lst i\/p=.own i:=by cases p<;>first|exact nn|(intro h;cases h;first|exact .inl rfl|exact .inr rfl)
theorem bx(h:o.bind f=some b):∃a,o=some a/\f a=some b:=Option.bind_eq_some_iff.mp h
theorem dq[Decidable c](h:(if c then x else .none)=some y):c/\x=some y:=
 if hc:c then⟨hc,(aX hc).symm.trans h⟩ else nomatch (aZ hc).symm.trans h
theorem Bg(h:(if c then .none else x)=some y):c=false/\x=some y:=
 match c,h with|false,h=>⟨rfl,h⟩
theorem ux(h:o.any f=true):∃a,o=some a/\f a=true:=
 match o,h with|some a,h=>aW a rfl h
theorem bD(h:(a&&b)=true):a=true/\b=true:=(eN _ _).mp h
theorem aM{α β:Type}{o:Option α}{f:α->Option β}{b:β}{G:Prop}(h:o.bind f=some b)(k:∀a,o=some a->f a=some b->G):G:=let ⟨a,x,y⟩:=bx h;k a x y
theorem cY{α:Type}{c:Prop}[Decidable c]{x:Option α}{y:α}{G:Prop}(h:(if c then x else .none)=some y)(k:c->x=some y->G):G:=k (dq h).1 (dq h).2
theorem Bh{α:Type}{c:Bool}{x:Option α}{y:α}{G:Prop}(h:(if c then .none else x)=some y)(k:c=false->x=some y->G):G:=k (Bg h).1 (Bg h).2
theorem fM{a b:Bool}{G:Prop}(h:(a&&b)=true)(k:a=true->b=true->G):G:=k (bD h).1 (bD h).2
theorem mH{α β:Type}{o:Option α}{f:α->β}{b:β}{G:Prop}(h:o.map f=some b)(k:∀a,o=some a->f a=b->G):G:=let ⟨a,x,y⟩:=iM h;k a x y
noncomputable def both{α:Type}(f:α->α->Bool)(x y:Option α):Bool:=match x with
 |some a=>(match y with
  |some b=>f a b
  | .none=>false)
 | .none=>false
theorem Xi(h:both f x y=true):∃a b,x=some a/\y=some b/\f a b=true:=by
 cases x with
 |none=>cases h
 |some a=>cases y with
  |none=>cases h
  |some b=>exact jT a b rfl rfl h
noncomputable def dF{α:Type}:List α->Option α
 |[]=>.none|x::r=>if r.isEmpty then some x else .none
theorem gQ(h:dF l=some x):l=[x]:=by
 cases l with
 |nil=>cases h
 |cons y r=>
  have h:(if r.isEmpty then some y else .none)=some x:=h;refine kA (dq h) λh1 h2=>?_;cases h2;rw[qj.mp h1]
noncomputable def kI{α:Type}:List α->Option (α×α)
 |[]=>.none|x::r=>(dF r).map λy=>(x,y)
theorem qx(h:kI l=some x):l=[x.1,x.2]:=by
 cases l with
 |nil=>cases h
 |cons y r=>
  refine aH (iM (show(dF r).map (λz=>(y,z))=some x from h)) λz h1 h2=>?_;rw[gQ h1,←h2]
mutual
noncomputable def PV.beq:PV->PV->Bool
 | .int x,q=>q.asInt==some x| .str x,q=>q.bV==some x| .bool x,q=>q.vy==some x
 | .tup l,q=>(match q.sO with|some r=>PV.iK l r| .none=>false)
 | .lst l,q=>(match q.items? with|some r=>PV.iK l r| .none=>false)
 | .own l,q=>(match q.items? with|some r=>PV.iK l r| .none=>false)
 |_,_=>false
noncomputable def PV.iK:LV->LV->Bool
 |[],r=>r.isEmpty
 |a::l,r=>(match r with
  |[]=>false
  |b::r=>PV.beq a b&&PV.iK l r)
end
noncomputable def nO(f:PV->PV->Bool)(l r:LV):Bool:=(l.zip r).all λp=>f p.1 p.2
def PV.cQ:Nat->PV->PV->Bool
 |0,_,_=>false|n+1,a,b=>(a.asInt.isSome&&b.asInt.isSome)||(a.bV.isSome&&b.bV.isSome)||(a.vy.isSome&&b.vy.isSome)||both (nO (PV.cQ n)) a.sO b.sO||both (nO (PV.cQ n)) a.items? b.items?
structure MF where
 names:List (Str×NameKind)
 vals:List (OV)
abbrev ME:=List MF
noncomputable def valAt(x:Str):List (Str×NameKind)->List (OV)->OV
 |n::ns,v::vs=>if x==n.1 then v else valAt x ns vs|_,_=>.none
noncomputable def look(x:Str):ME->OV
 |[]=>.none
 |f::r=>match f.names.lookup x with
  |some .local=>valAt x f.names f.vals|some .cell=>valAt x f.names f.vals|some .free=>look x r|_=>.none
theorem Xj{P:OV->Prop}(hv:valAt x f.names f.vals=none)(hf:f.names.lookup x=some .free->P (look x r))(hn:P none):P (look x (f::r)):=by
 show P (match f.names.lookup x with|some .local=>valAt x f.names f.vals|some .cell=>valAt x f.names f.vals|some .free=>look x r|_=>.none);rw[hv];cases hq:f.names.lookup x with
 |none=>exact hn
 |some k=>cases k<;>first|exact hn|exact hf hq
theorem JQ(x:Str)(f:MF)(r:ME):look x (f::r)=match f.names.lookup x with|some .local=>valAt x f.names f.vals|some .cell=>valAt x f.names f.vals|some .free=>look x r|_=>.none:=rfl
noncomputable def setAt(x:Str)(pv:PV):List (Str×NameKind)->List (OV)->List (OV)
 |n::ns,v::vs=>if x==n.1 then some pv::vs else v::setAt x pv ns vs|_,vs=>vs
def bM(x:Str)(pv:PV):ME->Option ME
 |[]=>.none
 |f::r=>match f.names.lookup x with
  |some .local=>some ({f with vals:=setAt x pv f.names f.vals}::r)
  |some .cell=>some ({f with vals:=setAt x pv f.names f.vals}::r)
  |_=>.none
noncomputable def PV.isOwn:PV->Bool
 | .own _=>true|_=>false
noncomputable def PV.oN:PV->Bool
 | .gen _=>true|_=>false
def PV.plain(v:PV):Bool:= !v.isOwn&& !v.oN
noncomputable def nmE:PE->Option Str
 | .Name x _=>some x|_=>.none
theorem oX{e:PE}{x:Str}:nmE e=some x->∃p,e=.Name x p:=by cases e<;>first|exact nn|(intro h;cases h;exact⟨_,rfl⟩)
noncomputable def uy:PE->Option (List PySem.Expr)
 | .Tuple ts _ _=>some ts|_=>.none
theorem JR{e:PE}{x:List PySem.Expr}:uy e=some x->∃k p,e=.Tuple x k p:=by cases e<;>first|exact nn|(intro h;cases h;exact kW _ _ rfl)
def cH:List PySem.Expr->LV->ME->Option ME
 |[],vs,η=>if vs.isEmpty then some η else .none
 |t::ts,vs,η=>(match vs with
  |[]=>.none
  |v::vs=>(nmE t).bind λx=>if v.plain then(bM x v η).bind (cH ts vs) else .none)
theorem xJ(h:cH [] l η=some aq):l=[]/\η=aq:=by
 refine kA (dq (show(if l.isEmpty then some η else .none)=some aq from h)) λh1 h2=>?_;exact⟨qj.mp h1,ir h2⟩
theorem xK{t:PE}{ts:List PySem.Expr}{l:LV}{η aq:ME}(h:cH (t::ts) l η=some aq):∃y py p r aD,t=.Name y py/\l=p::r/\p.plain=true/\bM y p η=some aD/\cH ts r aD=some aq:=by
 cases l with
 |nil=>exact nn h
 |cons p r=>
  refine aH (bx (show((nmE t).bind λx=>if p.plain then(bM x p η).bind (cH ts r) else .none)=some aq from h)) λy h1 h=>?_;refine kA (dq h) λh2 h=>?_;refine aH (bx h) λaD h3 h=>?_;refine kE (oX h1) λpy h4=>?_;exact⟨y,py,p,r,aD,h4,rfl,h2,h3,h⟩
noncomputable def d8(t:PE)(v:PV)(η:ME):Option ME:=match nmE t with
 |some x=>if v.plain then bM x v η else .none| .none=>(uy t).bind λts=>v.sO.bind λl=>cH ts l η
theorem Xk(h:d8 t v η=some aq):(∃y py,t=.Name y py/\v.plain=true/\bM y v η=some aq)\/∃ts k py l,t=.Tuple ts k py/\v=.tup l/\cH ts l η=some aq:=by
 unfold d8 at h;cases hn:nmE t with
 |some x=>
  rw[hn] at h;refine kE (oX hn) λpy h4=>?_;exact .inl (fP x py h4 (dq h))
 |none=>
  rw[hn] at h;refine aH (bx h) λts h1 h=>?_;refine aH (bx h) λl h2 h=>?_;refine kO (JR h1) λk py h4=>?_;exact .inr (Qw ts k py l h4 (PV.Ae h2) h)
noncomputable def Bj:Const->OV
 | .none=>some .none| .bool b=>some (.bool b)| .int i=>some (.int i)| .str s=>some (.str s.cps.toList)|_=>.none
def gj(l:LV):OV:=if aL l.length then some (.lst l) else .none
def lH(s:List Nat):OV:=if aL s.length then some (.str s) else .none
noncomputable def sV(i:Int):OV:=some (.int i)
def lJ{α:Type}(f:Int->Int->Option α)(a b:PV):Option α:=a.asInt.bind λx=>b.asInt.bind (f x)
theorem xM(h:lJ f a b=some r):∃x y,a=.int x/\b=.int y/\f x y=some r:=by
 refine aH (bx h) λx hx h=>?_;refine aH (bx h) λy hy h=>?_;exact jT x y (PV.nF hx) (PV.nF hy) h
def jAP(b:PV):PV->OV
 | .int x=>b.asInt.bind λy=>sV (x+y)| .str x=>b.bV.bind λy=>lH (x++y)| .lst x=>b.sJ.bind λy=>gj (x++y)|_=>.none
def iR(op:Operator)(a b:PV):OV:=match op with
 | .Add=>jAP b a| .Sub=>lJ (λx y=>sV (x-y)) a b| .Mult=>lJ (λx y=>if cX x then sV (x*y) else .none) a b| .Mod=>lJ (λx y=>if y==0 then .none else some (.int (Int.fmod x y))) a b| .FloorDiv=>lJ (λx y=>if y==0 then .none else if decide (y.natAbs<1073741824) then some (.int (Int.fdiv x y)) else .none) a b| .Pow=>lJ (λx y=>if decide (0<=y)&&decide (y<=60)&&x==2 then some (.int (2 ^ y.toNat)) else .none) a b|_=>.none
noncomputable def PV.isNone:PV->Bool
 | .none=>true|_=>false
noncomputable def PV.Wt:PV->Option String
 | .typ b=>some b|_=>.none
theorem PV.jHw{p:PV}{i:String}:p.Wt=some i->p=.typ i:=by cases p<;>first|exact nn|(intro h;cases h;rfl)
def QF(a:PV):PV->Option Bool
 | .none=>some a.isNone| .bool y=>some (a.vy==some y)| .typ y=>a.Wt.map (·==y)|_=>.none
noncomputable def gR(k:List Nat):List (PV×PV)->OV
 |[]=>.none|p::r=>if p.1.bV==some k then some p.2 else gR k r
def oY(k:List Nat)(v:PV):List (PV×PV)->List (PV×PV)
 |[]=>[(.str k,v)]|p::r=>if p.1.bV==some k then(p.1,v)::r else p::oY k v r
def QG(a:PV):PV->Option Bool
 | .str y=>a.bV.bind λs=>(dF s).map y.contains| .dct l=>a.bV.map λk=>(gR k l).isSome|_=>.none
def gk(op:CmpOp)(a b:PV):Option Bool:=match op with
 | .Eq=>if PV.cQ 8 a b then some (a.beq b) else .none| .NotEq=>if PV.cQ 8 a b then some (!a.beq b) else .none| .Lt=>lJ (λx y=>some (decide (x<y))) a b| .Is=>QF a b| .IsNot=>(QF a b).map (!·)| .In=>QG a b| .NotIn=>(QG a b).map (!·)|_=>.none
noncomputable def vJ:PV->Option Bool
 | .bool b=>some b| .none=>some false|_=>.none
def rz{α:Type}(l:List α)(i:Int):Option α:=if decide (i<0)|| !cX i then .none else l[i.toNat]?
def iz(a i:PV):OV:=match a with
 | .lst l=>i.asInt.bind (rz l)| .own l=>i.asInt.bind (rz l)| .tup l=>i.asInt.bind (rz l)| .str s=>i.asInt.bind λi=>(rz s i).map λc=>.str [c]| .dct l=>i.bV.bind λk=>gR k l|_=>.none
noncomputable def jw(i:Int)(n:Nat):Nat:=(max 0 (min (if i<0 then i+n else i) (n:Int))).toNat
noncomputable def fX{α:Type}(l:List α)(lo up:Option Int):List α:=
 let n:=l.length;let a:=match lo with|some i=>jw i n| .none=>0
 let b:=match up with|some i=>jw i n| .none=>n
 (l.take b).drop a
noncomputable def rA{α:Type}(l:List α)(k:Nat):Nat->List α
 |0=>[]
 |n+1=>match l with
  |[]=>[]|x::r=>x::rA (r.drop (k-1)) k n
def gm(a:PV)(lo up:Option Int):OV:=match a with
 | .lst l=>if aL l.length then some (.lst (fX l lo up)) else .none| .own l=>if aL l.length then some (.lst (fX l lo up)) else .none| .str s=>if aL s.length then some (.str (fX s lo up)) else .none|_=>.none
def qy(a:PV)(lo step:Int):OV:=match a with
 | .lst l=>if decide (0<=lo)&&decide (lo<=1000)&&decide (0<step)&&decide (step<=100)&&aL l.length then some (.lst (rA (l.drop lo.toNat) step.toNat l.length)) else .none|_=>.none
noncomputable def jx(a b:Int):LV:=(List.range (b-a).toNat).map λ(k:Nat)=>PV.int (a+(k:Int))
def fQ:PV->Option (LV)
 | .lst l=>some l| .tup l=>some l| .str s=>some (s.map λc=>.str [c])| .gf a b=>if cX a&&cX b&&aL (b-a).toNat then some (jx a b) else .none|_=>.none
def Bk(b:Bool):PV->Option (LV)
 | .gen l=>if b then some l else .none|p=>fQ p
def sW:LV->Option Int
 |[]=>some 0|p::r=>p.asInt.bind λi=>(sW r).map (i+·)
def gn(sep:List Nat):LV->Option (List Nat)
 |[]=>some []|p::r=>p.bV.bind λs=>if r.isEmpty then some s else(gn sep r).map (s++sep++·)
structure Sp where
 kJ:Str->Option (LV->OV)
 q8:Str->Option (LV->OV)
 meth:Str->PV->LV->OV
 dX:List Str
 gens:Bool:=false
 glob:Str->OV:=λZ=>.none
 attr:Str->PV->OV:=λZ Z=>.none
 mG:Str->PV->LV->Str->Bool->OV:=λZ Z Z Z Z=>.none
 hand:Stmt->ME->Option ME:=λZ Z=>.none
noncomputable def cF{α β:Type}(f:α->Option β):List α->Option (List β)
 |[]=>some []|x::r=>(f x).bind λy=>(cF f r).bind λys=>some (y::ys)
noncomputable def mJ(step:PV->Option (LV)):LV->Option (LV)
 |[]=>some []|x::r=>(step x).bind λa=>(mJ step r).bind λb=>some (a++b)
noncomputable def jW(te:ME->PE->Option Bool)(η:ME):List PySem.Expr->Option Bool
 |[]=>some true|c::r=>(te η c).bind λb=>if b then jW te η r else some false
def QH(η:ME)(t:PE):Bool:=match nmE t with
 |some x=>(look x η).isNone| .none=>false
def freshT(η:ME)(t:PE):Bool:=match uy t with
 |some ts=>ts.all (QH η)| .none=>QH η t
def lK(te:ME->PE->Option Bool)(η:ME)(tgt:PE)(ifs:List PySem.Expr)(emit:ME->Option (LV))(items:LV):Option (LV):=
 if !freshT η tgt then .none else mJ (λx=>(d8 tgt x η).bind λaD=>(jW te aD ifs).bind λok=>if ok then emit aD else some []) items
noncomputable def lL(η:ME)(f:Str):Bool:=match η with
 |[]=>false|m::_=>m.names.lookup f==some .globalImplicit
noncomputable def xN:OV->Option (Option Int)
 |some .none=>some .none|some (.int i)=>some (some i)|_=>.none
noncomputable def bQ(sc:Scope):MF:=⟨sc.names,sc.names.map λZ=>.none⟩
def lM(p:PV):Option (List Nat×PV):=p.sO.bind λl=>(kI l).bind λq=>q.1.bV.map λk=>(k,q.2)
theorem Bl{p:PV}{q:List Nat×PV}(h:lM p=some q):p=.tup [.str q.1,q.2]:=by
 refine aH (bx h) λl hl h=>?_;refine aH (bx h) λbC hr h=>?_;obtain⟨a,b⟩:=bC;refine eY q (iM h) λk hk=>?_;rw[PV.Ae hl,qx hr,PV.fJ hk]
def putAll:LV->List (PV×PV)->Option (List (PV×PV))
 |[],d=>some d|p::r,d=>(lM p).bind λq=>if q.2.plain then putAll r (oY q.1 q.2 d) else .none
noncomputable def cZ(η:ME)(x:Str):Option NameKind:=match η with
 |[]=>none|f::_=>f.names.lookup x
noncomputable def gw(sc:Scope)(η:ME):Bool:=sc.kind== .function&&sc.names.all λx=>sc.names.lookup x.1==some x.2&&(match x.2 with
 | .local=>true| .cell=>true| .free=>cZ η x.1==some .cell||cZ η x.1==some .free| .globalImplicit=>true
 |_=>false)
noncomputable def jX(g:Comprehension):Bool:=g.is_async==0&&match g.iter with
 | .Set .. =>false|_=>true
noncomputable def baseOk:PE->Bool
 | .Call (.Name _ _) [] [] _=>false|_=>true
noncomputable def vK:PE->Option (PE×Str×Pos)
 | .Attribute o m p=>some (o,m,p)|_=>.none
theorem JS{e:PE}{q:PE×Str×Pos}:vK e=some q->e=.Attribute q.1 q.2.1 q.2.2:=by cases e<;>first|exact nn|(intro h;cases h;rfl)
noncomputable def Xl:Const->Option Bool
 | .bool b=>some b|_=>.none
theorem jqL:Xl e=some q->e=.bool q:=by cases e<;>first|exact nn|(intro h;cases h;rfl)
noncomputable def uz:PE->Option Const
 | .Constant c _ _=>some c|_=>.none
theorem JT:uz e=some q->∃k p,e=.Constant q k p:=by cases e<;>first|exact nn|(intro h;cases h;exact kW _ _ rfl)
noncomputable def xO:Const->Option Str
 | .str s=>some s|_=>.none
theorem Xm:xO e=some q->e=.str q:=by cases e<;>first|exact nn|(intro h;cases h;rfl)
def Xn(l:List Keyword):Option (Str×Bool):=(dF l).bind λk=>k.arg.bind λx=>((uz k.value).bind Xl).map λb=>(x,b)
theorem jwX(h:Xn l=some q):∃k p r,l=[⟨some q.1,.Constant (.bool q.2) k p,r⟩]:=by
 refine aH (bx h) λbC h1 h=>?_;obtain⟨a,v,r⟩:=bC;refine aH (bx h) λx h2 h=>?_;refine eY q (iM h) λb h3=>?_;refine aH (bx h3) λc h4 h5=>?_;refine kO (JT h4) λk p h6=>?_;rw[jqL h5] at h6;exact Qq k p r (by rw[gQ h1,show a=some x from h2,show v=_ from h6])
noncomputable def JV:PE->Option (Option PySem.Expr×Option PySem.Expr×Option PySem.Expr)
 | .Slice a b c _=>some (a,b,c)|_=>.none
theorem juG:JV e=some q->∃p,e=.Slice q.1 q.2.1 q.2.2 p:=by cases e<;>first|exact nn|(intro h;cases h;exact⟨_,rfl⟩)
def nameP(S:Sp)(η:ME)(x:Str):OV:=if x==("__debug__":Str) then .none else(look x η).or (if lL η x then S.glob x else .none)
def Xo(op:UnaryOp)(a:OV):OV:=match op with
 | .USub=>a.bind λa=>a.asInt.bind λi=>sV (-i)|_=>.none
def Xp(S:Sp)(η:ME)(o:PE)(m:Str):OV:=(nmE o).bind λy=>if y==("__debug__":Str) then .none else(look y η).bind λa=>S.attr m a
section
variable(S:Sp)(ev:ME->PE->OV)(te:ME->PE->Option Bool)(η:ME)
def Fj(l:PE)(ops:List CmpOp)(rs:List PySem.Expr):Option Bool:=(dF ops).bind λop=>(dF rs).bind λr=>
 if behindInMarks op r then .none else(ev η l).bind λa=>(ev η r).bind λb=>gk op a b
def Fl(es:List PySem.Expr)(k:LV->PV):OV:=(cF (ev η) es).bind λl=>if aL l.length&&l.all PV.plain then some (k l) else .none
def Fo(g:Str)(args:List PySem.Expr):OV:=if g==("__debug__":Str) then .none else if lL η g then(match S.kJ g with
  |some F=>(cF (ev η) args).bind λl=>if l.all PV.plain then F l else .none
  | .none=>(S.q8 g).bind λF=>(cF (ev η) args).bind F) else .none
def sI(k:PV->LV->OV)(o:PE)(ap pos:Pos)(args:List PySem.Expr):OV:=
 if (ap.endLine==pos.line)&&decide (args.length<20)&&baseOk o then(ev η o).bind λa=>(cF (ev η) args).bind λl=>k a l else .none
def Xq(f:PE)(args:List PySem.Expr)(kws:List Keyword)(pos:Pos):OV:=if kws.isEmpty then(match nmE f with
  |some g=>Fo S ev η g args
  | .none=>(vK f).bind λq=>sI ev η (S.meth q.2.1) q.1 q.2.2 pos args)
 else(Xn kws).bind λk=>(vK f).bind λq=>sI ev η (λa l=>S.mG q.2.1 a l k.1 k.2) q.1 q.2.2 pos args
def Fp(o:Option PySem.Expr):Option (Option Int):=xN (match o with|some x=>ev η x| .none=>some .none)
def Fq(v i:PE):OV:=match JV i with
 |some q=>(ev η v).bind λa=>(match q.2.2 with
  | .none=>(Fp ev η q.1).bind λl=>(Fp ev η q.2.1).bind λu=>gm a l u
  |some s=>if q.2.1.isNone then q.1.bind λx=>(ev η x).bind λl=>(ev η s).bind λk=>lJ (qy a) l k else .none)
 | .none=>(ev η v).bind λa=>(ev η i).bind λk=>iz a k
def Bm(elt:PE)(η:ME):Option (LV):=(ev η elt).bind λv=>if v.plain then some [v] else .none
def Xr(elt:PE)(sc:Scope):List Comprehension->OV
 |[]=>.none
 |g::gs=>match gs with
  |[]=>if !(gw sc η&&jX g) then .none else((ev η g.iter).bind fQ).bind λitems=>(lK te (bQ sc::η) g.target g.ifs (Bm ev elt) items).bind gj
  |g'::gs=>if !gs.isEmpty then .none else if !(gw sc η&&jX g&&jX g') then .none else((ev η g.iter).bind fQ).bind λitems=>
     (lK te (bQ sc::η) g.target g.ifs (λaD=>((ev aD g'.iter).bind fQ).bind λitems'=>lK te aD g'.target g'.ifs (Bm ev elt) items') items).bind gj
def Xu(k v:PE)(sc:Scope)(gens:List Comprehension):OV:=(dF gens).bind λg=>if !(gw sc η&&jX g) then .none else((ev η g.iter).bind fQ).bind λitems=>
 (lK te (bQ sc::η) g.target g.ifs (λaD=>(ev aD k).bind λa=>(ev aD v).bind λb=>some [.tup [a,b]]) items).bind λl=>if aL l.length then(putAll l []).map .dct else .none
noncomputable def JW:List Str->Bool
 |[]=>true|x::r=> !r.contains x&&JW r
def Xv(ks:List (Option PySem.Expr))(vs:List PySem.Expr):OV:=(cF (λk=>k.bind λk=>(uz k).bind xO) ks).bind λa=>(cF (λv=>(uz v).bind xO) vs).bind λb=>
 if a.length==b.length&&decide (b.length<=15)&& !a.isEmpty&&JW a then some (.dct ((a.zip b).map λx=>(.str x.1.cps.toList,.str x.2.cps.toList))) else .none
def evB(e:PE):OV:=match e with
 | .Constant c _ _=>Bj c| .Name x _=>nameP S η x| .Attribute o m _=>Xp S η o m| .BinOp l op r _=>(ev η l).bind λa=>(ev η r).bind λb=>iR op a b| .UnaryOp op x _=>Xo op (ev η x)| .IfExp t a b _=>(te η t).bind λc=>if c then ev η a else ev η b| .Compare l ops rs _=>(Fj ev η l ops rs).map .bool| .Tuple es _ _=>Fl ev η es .tup| .List es _=>Fl ev η es .lst| .Call f args kws pos=>Xq S ev η f args kws pos| .Subscript v i _=>Fq ev η v i| .ListComp elt gens sc _=>Xr ev te η elt sc gens| .DictComp k v gens sc _=>Xu ev te η k v sc gens| .Dict ks vs _=>Xv ks vs|_=>.none
noncomputable def jA7(op:UnaryOp)(a:Option Bool):Option Bool:=match op with
 | .Not=>a.map (!·)|_=>.none
def teB(tb:ME->BoolOp->List PySem.Expr->Option Bool)(e:PE):Option Bool:=match e with
 | .UnaryOp op x _=>jA7 op (te η x)| .BoolOp op vs _=>tb η op vs| .Compare l ops rs _=>Fj ev η l ops rs| .Name x p=>if x==("__debug__":Str) then some true else(ev η (.Name x p)).bind vJ| .Call f a k p=>(ev η (.Call f a k p)).bind vJ| .Constant c k p=>(ev η (.Constant c k p)).bind vJ|_=>.none
noncomputable def tbB(tb:ME->BoolOp->List PySem.Expr->Option Bool)(op:BoolOp):List PySem.Expr->Option Bool
 |[]=>some (op== .And)|x::r=>(te η x).bind λb=>if b==(op== .And) then tb η op r else some b
end
structure Ev3 where
 e:ME->PE->OV
 t:ME->PE->Option Bool
 b:ME->BoolOp->List PySem.Expr->Option Bool
def tu(S:Sp):Nat->Ev3
 |0=>⟨λZ Z=>.none,λZ Z=>.none,λZ Z Z=>.none⟩|n+1=>⟨evB S (tu S n).e (tu S n).t,λη=>teB (tu S n).e (tu S n).t η (tu S n).b,λη=>tbB (tu S n).t η (tu S n).b⟩
def aG(S:Sp)(n:Nat):ME->PE->OV:=(tu S n).e
def bI(S:Sp)(n:Nat):ME->PE->Option Bool:=(tu S n).t
def rB(S:Sp)(n:Nat):ME->BoolOp->List PySem.Expr->Option Bool:=(tu S n).b
inductive Out where
 |next
 |ret (v:PV)
def dD(body:ME->Option (Out×ME))(tgt:PE):ME->LV->Option (Out×ME)
 |η,[]=>some (.next,η)
 |η,x::r=>(d8 tgt x η).bind λaD=>(body aD).bind λp=>match p.1 with
  | .next=>dD body tgt p.2 r| .ret v=>some (.ret v,p.2)
set_option backward.match.sparseCases true in
noncomputable def JX:PE->Bool
 | .List _ _=>true
 | .Call f _ kws _=>(match vK f with
  |some q=>kws.isEmpty&&(q.2.1==("items":Str)||q.2.1==("get_all":Str))
  | .none=>false)
 |_=>false
def store(S:Sp)(x:Str)(e:PE)(v:PV)(η:ME):Option ME:=
 if S.dX.contains x then v.sJ.bind λl=>if JX e then bM x (.own l) η else .none
 else if v.plain then bM x v η else .none
noncomputable def isScalar:PV->Bool
 | .none=>true| .bool _=>true| .int _=>true| .str _=>true|_=>false
set_option backward.match.sparseCases true in
noncomputable def isStar:PE->Bool
 | .Starred .. =>true|_=>false
def xP(kd:Str->Option NameKind)(ts:List PySem.Expr):List Str:=
 ts.filterMap λt=>(nmE t).bind λid=>if kd id==some .local&&t.pos.line==(ts.head?.map (·.pos.line)).getD 0 then some id else none
noncomputable def Xw(ts:List PySem.Expr)(names:List Str):Bool:=names.length !=ts.length||names.eraseDups.length !=names.length
def qz(ts es:List PySem.Expr)(η:ME):Option Bool:=
 if !(ts.length==2||ts.length==3)||es.length !=ts.length then some false
 else if es.any isStar then some false
 else if Xw ts (xP (cZ η) ts) then some false
 else if es.all (foldedForSure 8) then some false
 else if es.all (constantsAlone 8) then none
 else some true
def qC(ts:List PySem.Expr)(η:ME):Bool:=ts.all λt=>(nmE t).any λx=>cZ η x==some .local||cZ η x==some .cell
def vL(S:Sp)(e:PE):Bool:=(nmE e).any λx=>S.dX.contains x
def Bo(S:Sp)(ts es:List PySem.Expr)(vs:LV)(η:ME)(sw:Bool):Option ME:=
 if sw then cH ts.reverse vs.reverse η else cH ts vs η
noncomputable def PV.Ww:PV->Option (LV)
 | .own l=>some l|_=>.none
theorem PV.jHu{p:PV}{i:LV}:p.Ww=some i->p=.own i:=by cases p<;>first|exact nn|(intro h;cases h;rfl)
def ownAt(y:Str)(η:ME):Option (LV):=(look y η).bind PV.Ww
theorem Xx{y:Str}{η:ME}{l:LV}(h:ownAt y η=some l):look y η=some (.own l):=by
 refine aH (bx h) λp hp h=>?_;rw[hp,PV.jHu h]
noncomputable def QJ:PE->Option (PE×List PySem.Expr×List Keyword×Pos)
 | .Call f a k p=>some (f,a,k,p)|_=>.none
theorem Xy:QJ e=some q->e=.Call q.1 q.2.1 q.2.2.1 q.2.2.2:=by cases e<;>first|exact nn|(intro h;cases h;rfl)
noncomputable def JZ:PE->Bool
 | .Set .. =>false|_=>true
def ownName(e:PE)(η:ME):Option (LV):=(nmE e).bind λx=>if x==("__debug__":Str) then .none else ownAt x η
noncomputable def dK(ex:ME->Stmt->Option (Out×ME)):ME->List Stmt->Option (Out×ME)
 |η,[]=>some (.next,η)
 |η,st::r=>(ex η st).bind λp=>match p.1 with
  | .next=>dK ex p.2 r| .ret v=>some (.ret v,p.2)
noncomputable def Ft:OV->OV
 |some (.own l)=>some (.lst l)|v=>v
def tB:ME->ME
 |[f]=>[{f with vals:=f.vals.map Ft}]
 |η=>η
noncomputable def vM:PE->Bool
 | .List es _=>es.isEmpty|_=>false
section
variable(S:Sp)(ev:ME->PE->OV)(te:ME->PE->Option Bool)(η:ME)
noncomputable def iT(η:ME):Out×ME:=(.next,η)
noncomputable def PV.zU:PV->Option (LV)
 | .tup l=>some l| .lst l=>some l|_=>.none
def Fv(ts es:List PySem.Expr):Option (Out×ME):=(kI ts).bind λt=>(kI es).bind λe=>(nmE t.1).bind λx=>(nmE t.2).bind λy=>(qz ts es η).bind λsw=>
 if qC ts η&& !(x==y) then
  if sw then(if vM e.1&&S.dX.contains x then(ev η e.2).bind λv=>if v.plain then((bM y v η).bind (bM x (.own []))).map iT else .none else .none)
  else(if vM e.2&&S.dX.contains y then(ev η e.1).bind λv=>if v.plain then((bM x v η).bind (bM y (.own []))).map iT else .none else .none)
 else .none
def Xz(ts:List PySem.Expr)(e:PE):Option (Out×ME):=(dF ts).bind λt=>match nmE t with
 |some x=>(ev η e).bind λv=>(store S x e v η).map iT
 | .none=>(uy t).bind λts=>match uy e with
  |some es=>if ts.any (vL S) then Fv S ev η ts es else(cF (ev η) es).bind λvs=>if qC ts η&&vs.length==ts.length&&es.length==ts.length&&aL vs.length&&vs.all PV.plain then(qz ts es η).bind λsw=>(Bo S ts es vs η sw).map iT else .none| .none=>(ev η e).bind λv=>v.zU.bind λl=>(cH ts l η).map iT
noncomputable def XC(op:Operator)(i j:Int):Option Int:=match op with
 | .Add=>some (i+j)| .Sub=>some (i-j)|_=>.none
def XD(t:PE)(op:Operator)(e:PE):Option (Out×ME):=(nmE t).bind λx=>(look x η).bind λa=>(ev η e).bind λb=>(lJ (XC op) a b).bind λk=>(bM x (.int k) η).map iT
def XF:Option PySem.Expr->Option (Out×ME)
 | .none=>some (.ret .none,η)
 |some e=>match ownName e η with
  |some l=>some (.ret (.lst l),η)| .none=>(ev η e).bind λv=>if v.plain then some (.ret v,η) else .none
def XH(x m:Str)(args:List PySem.Expr)(l:LV):Option (Out×ME):=
 if m==("append":Str) then(dF args).bind λa=>(ev η a).bind λv=>if v.plain&&aL (l.length+1) then(bM x (.own (l++[v])) η).map iT else .none
 else .none
def XJ(e:PE):Option (Out×ME):=(QJ e).bind λc=>(vK c.1).bind λq=>if c.2.2.1.isEmpty then
  (nmE q.1).bind λx=>if !(q.2.2.endLine==c.2.2.2.line&& !(x==("__debug__":Str))) then .none else(ownAt x η).bind (XH ev η x q.2.1 c.2.1)
 else(ev η e).map λZ=>(.next,η)
def exB(ex:ME->Stmt->Option (Out×ME))(st:Stmt):Option (Out×ME):=match st with
 | .Assign ts e _=>Xz S ev η ts e| .AugAssign t op e _=>XD ev η t op e| .If t b o _=>((te η t).or (te (tB η) t)).bind λc=>dK ex η (if c then b else o)| .Return e _=>XF ev η e| .Expr e _=>XJ ev η e| .For t it b o _=>if o.isEmpty&&JZ it then((ev η it).bind (Bk S.gens)).bind λitems=>dD (λη=>dK ex η b) t η items else .none| .Try b h o f p=>(S.hand (.Try b h o f p) η).map iT|_=>.none
end
def bh(S:Sp):Nat->ME->Stmt->Option (Out×ME)
 |0=>λZ Z=>.none|n+1=>λη=>exB S (aG S n) (bI S n) η (bh S n)
noncomputable def iU(S:Sp)(n:Nat)(params:List Str)(sc:Scope)(body:List Stmt)(l:LV):OV:=
 (cH (params.map λx=>PySem.Expr.Name x default) l [bQ sc]).bind λη=>(dK (bh S n) η body).bind λp=>match p.1 with| .ret v=>some v| .next=>some .none
noncomputable def fB:Nat->Bool->List Nat->LV
 |p,e,[]=>if e then [.tup [.int ((p:Int)-1),.str [92]]] else []
 |p,e,c::r=>if e then .tup [.int p,.str [92,c]]::fB (p+1) false r
  else if c==92 then fB (p+1) true r else .tup [.int p,.str [c]]::fB (p+1) false r
noncomputable def szP:PV->Option Nat
 | .lst l=>some l.length| .own l=>some l.length| .tup l=>some l.length| .str s=>some s.length|_=>.none
def rC(l:LV):OV:=(dF l).bind λp=>(szP p).bind λn=>if aL n then some (.int n) else .none
def QK(l:LV):OV:=(dF l).bind λp=>p.asInt.bind λi=>if decide (0<=i)&&decide (i<=0x10FFFF) then some (.str [i.toNat]) else .none
def XK(l:LV):OV:=(dF l).bind λp=>p.bV.bind λs=>(dF s).map λ(c:Nat)=>PV.int (c:Int)
def Bp(p:PV):Bool:=p.asInt.any λi=>decide (-1000000000<=i)&&decide (i<=1000000000)
def xQ(l:LV):OV:=(dF l).bind λp=>p.sJ.bind λl=>if aL l.length&&l.all Bp then(sW l).map .int else .none
def XM(a b:Int):OV:=if cX a&&cX b&&aL (b-a).toNat then some (.gf a b) else .none
def Fw(l:LV):OV:=match dF l with
 |some p=>p.asInt.bind λb=>if cX b&&aL b.toNat then some (.gf 0 b) else .none| .none=>(kI l).bind λq=>lJ XM q.1 q.2
def jDf:PV->Option (LV)
 | .lst l=>some l| .own l=>some l| .tup l=>some l| .gf a b=>if cX a&&cX b then some (jx a b) else .none|_=>.none
def J0(l:LV):OV:=(dF l).bind λp=>(jDf p).bind gj
def QL(l:LV):OV:=(kI l).bind λq=>lJ (λa b=>if b==0 then .none else if decide (b.natAbs<1073741824) then some (.tup [.int (Int.fdiv a b),.int (Int.fmod a b)]) else .none) q.1 q.2
noncomputable def cI(c:Nat):Nat:=if decide (97<=c)&&decide (c<=122) then c-32 else c
noncomputable def du(c:Nat):Nat:=if decide (65<=c)&&decide (c<=90) then c+32 else c
noncomputable def eQ(s:List Nat):Bool:=s.all λc=>decide (c<128)
theorem bk(h:o=some a)(h2:f a=b):o.bind f=b:=by rw[h];exact h2
theorem bN(h:c=true)(h2:x=z):(if c then x else y)=z:=by rw[aX h];exact h2
theorem jY(h:c=false)(h2:y=z):(if c then x else y)=z:=by rw[h];exact h2
theorem QM(h:PV.cQ 8 a b=true):gk .Eq a b=some (a.beq b):=aX h
theorem J1(h:PV.cQ 8 a b=true):gk .NotEq a b=some (!a.beq b):=aX h
section
theorem aQ(h:Bj c=some p):aG S (n+1) η (.Constant c k pos)=some p:=h
theorem az(h:look x η=some p)(hd:(x==("__debug__":Str))=false):aG S (n+1) η (.Name x pos)=some p:=by
 show nameP S η x=some p;exact jY hd (by rw[h];rfl)
theorem XN(hl:look x η=none)(hg:lL η x=true)(h:S.glob x=some p)(hd:(x==("__debug__":Str))=false):aG S (n+1) η (.Name x pos)=some p:=by
 show nameP S η x=some p;exact jY hd (by rw[hl];exact bN hg h)
theorem QQ(hl:look y η=some a)(h:S.attr m a=some p)(hd:(y==("__debug__":Str))=false):aG S (n+1) η (.Attribute (.Name y yp) m pos)=some p:=by
 show(if y==("__debug__":Str) then .none else(look y η).bind λa=>S.attr m a)=some p;exact jY hd (bk hl h)
theorem bA(ha:aG S n η l=some a)(hb:aG S n η r=some b)(h:iR op a b=some p):aG S (n+1) η (.BinOp l op r pos)=some p:=bk ha (bk hb h)
theorem QR(ht:bI S n η t=some c)(h:aG S n η (if c then a else b)=some p):aG S (n+1) η (.IfExp t a b pos)=some p:=by
 refine bk (f:=λc:Bool=>if c then aG S n η a else aG S n η b) ht ?_;cases c<;>exact h
theorem XQ(hm:behindInMarks op r=false)(ha:aG S n η l=some a)(hb:aG S n η r=some b)(h:gk op a b=some c):Fj (aG S n) η l [op] [r]=some c:=by
 show(if behindInMarks op r then .none else(aG S n η l).bind λa=>(aG S n η r).bind λb=>gk op a b)=some c;exact jY hm (bk ha (bk hb h))
theorem QS(hm:behindInMarks op r=false)(ha:aG S n η l=some a)(hb:aG S n η r=some b)(h:gk op a b=some c):aG S (n+1) η (.Compare l [op] [r] pos)=some (.bool c):=by
 show(Fj (aG S n) η l [op] [r]).map PV.bool=_;rw[XQ hm ha hb h];rfl
theorem jZ(h:cF (aG S n η) es=some l)(ho:(aL l.length&&l.all PV.plain)=true):aG S (n+1) η (.Tuple es k pos)=some (.tup l):=by
 show Fl (aG S n) η es .tup=_;exact bk h (bN ho rfl)
theorem qD(h:cF (aG S n η) es=some l)(ho:(aL l.length&&l.all PV.plain)=true):aG S (n+1) η (.List es pos)=some (.lst l):=by
 show Fl (aG S n) η es .lst=_;exact bk h (bN ho rfl)
theorem d9(hd:(g==("__debug__":Str))=false)(hg:lL η g=true)(hF:S.kJ g=some F)(hl:cF (aG S n η) args=some l)(hp:l.all PV.plain=true)(h:F l=some p):
  aG S (n+1) η (.Call (.Name g gp) args [] pos)=some p:=by
 show Fo S (aG S n) η g args=some p;exact jY hd (bN hg (by rw[hF];exact bk hl (bN hp h)))
theorem dN(hd:(g==("__debug__":Str))=false)(hg:lL η g=true)(hF:S.kJ g=none)(hF':S.q8 g=some F)(hl:cF (aG S n η) args=some l)(h:F l=some p):
  aG S (n+1) η (.Call (.Name g gp) args [] pos)=some p:=by
 show Fo S (aG S n) η g args=some p;exact jY hd (bN hg (by rw[hF];exact bk hF' (bk hl h)))
theorem XR(hc:((ap.endLine==pos.line)&&decide (args.length<20)&&baseOk o)=true)(ha:aG S n η o=some a)(hl:cF (aG S n η) args=some l)(h:k a l=some p):
  sI (aG S n) η k o ap pos args=some p:=bN hc (bk ha (bk hl h))
theorem gA(hc:((ap.endLine==pos.line)&&decide (args.length<20)&&baseOk o)=true)(ha:aG S n η o=some a)(hl:cF (aG S n η) args=some l)(h:S.meth m a l=some p):
  aG S (n+1) η (.Call (.Attribute o m ap) args [] pos)=some p:=XR (k:=S.meth m) hc ha hl h
theorem Bq(hc:((ap.endLine==pos.line)&&decide (args.length<20)&&baseOk o)=true)(ha:aG S n η o=some a)(hl:cF (aG S n η) args=some l)(h:S.mG m a l k b=some p):
  aG S (n+1) η (.Call (.Attribute o m ap) args [⟨some k,.Constant (.bool b) ck cp,kp⟩] pos)=some p:=XR (k:=λa l=>S.mG m a l k b) hc ha hl h
def jr6(i:PE):Bool:=(JV i).isNone
theorem bT(hs:jr6 i=true)(ha:aG S n η v=some a)(hk:aG S n η i=some k)(h:iz a k=some p):aG S (n+1) η (.Subscript v i pos)=some p:=by
 show Fq (aG S n) η v i=some p;unfold Fq;rw[Option.isNone_iff_eq_none.mp hs];exact bk ha (bk hk h)
def J2(S:Sp)(n:Nat)(η:ME)(o:Option PySem.Expr):Option (Option Int):=Fp (aG S n) η o
theorem oZ:J2 S n η .none=some .none:=rfl
theorem gU(h:aG S n η x=some (.int i)):J2 S n η (some x)=some (some i):=by
 show xN (aG S n η x)=_;rw[h];rfl
theorem jL{v:PE}{lo up:Option PySem.Expr}{pos sp:Pos}{a p:PV}{i j:Option Int}(ha:aG S n η v=some a)(hi:J2 S n η lo=some i)(hj:J2 S n η up=some j)(h:gm a i j=some p):
  aG S (n+1) η (.Subscript v (.Slice lo up .none sp) pos)=some p:=by
 show((aG S n η v).bind λa=>(Fp (aG S n) η lo).bind λl=>(Fp (aG S n) η up).bind λu=>gm a l u)=some p;exact bk ha (bk hi (bk hj h))
theorem jn5(ha:aG S n η v=some a)(hi:aG S n η x=some (.int i))(hj:aG S n η y=some (.int j))(h:qy a i j=some p):
  aG S (n+1) η (.Subscript v (.Slice (some x) .none (some y) sp) pos)=some p:=by
 show((aG S n η v).bind λa=>(aG S n η x).bind λl=>(aG S n η y).bind λk=>lJ (qy a) l k)=some p;exact bk ha (bk hi (bk hj h))
theorem Br(hc:(gw sc η&&jX g)=true)(ha:aG S n η g.iter=some a)(hi:fQ a=some items)(hf:freshT (bQ sc::η) g.target=true)
  (hl:mJ (λx=>(d8 g.target x (bQ sc::η)).bind λaD=>(jW (bI S n) aD g.ifs).bind λok=>if ok then((aG S n aD elt).bind λv=>if v.plain then some [v] else .none) else some []) items=some out)(hk:aL out.length=true):
  aG S (n+1) η (.ListComp elt [g] sc pos)=some (.lst out):=by
 show(if !(gw sc η&&jX g) then .none else((aG S n η g.iter).bind fQ).bind λitems=>(lK (bI S n) (bQ sc::η) g.target g.ifs (Bm (aG S n) elt) items).bind gj)=_;exact jY (by rw[hc];rfl) (bk (bk ha hi) (bk (show lK (bI S n) (bQ sc::η) g.target g.ifs (Bm (aG S n) elt) items=some out from jY (by rw[hf];rfl) hl) (bN hk rfl)))
theorem aO:cF f []=some []:=rfl
theorem aK(h:f x=some y)(hr:cF f r=some ys):cF f (x::r)=some (y::ys):=bk h (bk hr rfl)
theorem QT(h:bI S n η x=some b):bI S (n+1) η (.UnaryOp .Not x pos)=some (!b):=by
 show(bI S n η x).map (!·)=_;rw[h];rfl
theorem cM(hm:behindInMarks op r=false)(ha:aG S n η l=some a)(hb:aG S n η r=some b)(h:gk op a b=some c):bI S (n+1) η (.Compare l [op] [r] pos)=some c:=XQ hm ha hb h
theorem uA(h:rB S n η op vs=some c):bI S (n+1) η (.BoolOp op vs pos)=some c:=h
theorem juT(h:aG S n η (.Name x pos)=some p)(hp:vJ p=some c)(hd:(x==("__debug__":Str))=false):bI S (n+1) η (.Name x pos)=some c:=by
 show(if x==("__debug__":Str) then some true else(aG S n η (.Name x pos)).bind vJ)=some c;exact jY hd (bk h hp)
theorem J3(h:aG S n η (.Call f a k pos)=some p)(hp:vJ p=some c):bI S (n+1) η (.Call f a k pos)=some c:=bk h hp
theorem QV(h:bI S n η x=some b)(hr:(if b then rB S n η .And r else some false)=some c):rB S (n+1) η .And (x::r)=some c:=by
 refine bk (f:=λb=>if b==(BoolOp.And== .And) then rB S n η .And r else some b) h ?_;cases b<;>exact hr
theorem vN(h:bI S n η x=some b)(hr:(if b then some true else rB S n η .Or r)=some c):rB S (n+1) η .Or (x::r)=some c:=by
 refine bk (f:=λb=>if b==(BoolOp.Or== .And) then rB S n η .Or r else some b) h ?_;cases b<;>exact hr
theorem dz:dK ex η []=some (.next,η):=rfl
theorem bu{ex:ME->Stmt->Option (Out×ME)}{st:Stmt}{r:List Stmt}{aD:ME}{q:Option (Out×ME)}(h:ex η st=some (.next,aD))(hr:dK ex aD r=q):dK ex η (st::r)=q:=bk h hr
theorem gK{ex:ME->Stmt->Option (Out×ME)}{st:Stmt}{r:List Stmt}{aD:ME}{v:PV}(h:ex η st=some (.ret v,aD)):dK ex η (st::r)=some (.ret v,aD):=bk h rfl
theorem fD(hm:S.dX.contains x=false)(he:aG S n η e=some v)(hp:v.plain=true)(hs:bM x v η=some aD):bh S (n+1) η (.Assign [.Name x xp] e pos)=some (.next,aD):=by
 show((aG S n η e).bind λv=>(store S x e v η).map iT)=_;refine bk he ?_;rw[show store S x e v η=some aD from jY hm (bN hp hs)];rfl
theorem j0(ho:ownName e η=none)(he:aG S n η e=some v)(hp:v.plain=true):bh S (n+1) η (.Return (some e) pos)=some (.ret v,η):=by
 show(match ownName e η with
  |some l=>some (Out.ret (.lst l),η)
  | .none=>(aG S n η e).bind λv=>if v.plain then some (Out.ret v,η) else .none)=_
 rw[ho];exact bk he (bN hp rfl)
theorem eZ(ht:bI S n η t=some c)(h:dK (bh S n) η (if c then b else o)=q):bh S (n+1) η (.If t b o pos)=q:=bk (show(bI S n η t).or (bI S n (tB η) t)=some c by rw[ht];rfl) h
theorem jwu(hn:bI S n η t=none)(ht:bI S n (tB η) t=some c)(h:dK (bh S n) η (if c then b else o)=q):bh S (n+1) η (.If t b o pos)=q:=bk (show(bI S n η t).or (bI S n (tB η) t)=some c by rw[hn,ht];rfl) h
end
section
variable(tb:String->Option Builtin)(p:Program)(w:World)(n0:Nat)(ann:Option Value)
def Tw{α:Type}(c:Nat)(x:Sem α)(s:Shared)(q:Pos)(a:α)(s':Shared)(q':Pos):Prop:=
 ∀(K:α->Sem Fin) (H:Value->Sem Fin) (gd:Bool->Bool) (lv:List Value->List Value) (b:List Stmt) (env:Env) (f:Frame) (B:List Frame) (N:Nat) (r:Shared),
  topRun tb p w n0 ann N s' ⟨K a,.body b env,q',f::B⟩=some r->
  topRun tb p w n0 ann (N+c) s ⟨x.wrap K H gd lv,.body b env,q,f::B⟩=some r
end
section
variable{tb:String->Option Builtin}{p:Program}{w:World}{n0:Nat}{ann:Option Value}{α β:Type}{s s' s₁:Shared}{q q' oO:Pos}{c c₁ c₂:Nat}
theorem XS:topRun tb p w n0 ann (N+1) s t=(match through t with
  |true=>some s
  |false=>match stepOk n0 ann t with
   |false=>none
   |true=>match step (denote tb) p w s t with
    | .go s' t'=>topRun tb p w n0 ann N s' t'
    | .halt _ _=>none):=rfl
theorem Tw.le(h:Tw tb p w n0 ann c₁ x s q a s' q')(l:c₁<=c):Tw tb p w n0 ann c x s q a s' q':=λK H gd lv b env f B N r hr=>by
 have:=topRun_mono (c-c₁) _ _ _ _ (h K H gd lv b env f B N r hr);rw[rW,Nat.add_sub_cancel' l] at this;exact this
theorem Tw.pure:Tw tb p w n0 ann 0 (Sem.pure a) s q a s q:=λZ Z Z Z Z Z Z Z Z Z h=>h
theorem Tw.pure':Tw tb p w n0 ann 0 (Pure.pure a:Sem α) s q a s q:=Tw.pure
theorem Tw.bind(h:Tw tb p w n0 ann c₁ m s q a s₁ oO)(k:Tw tb p w n0 ann c₂ (f a) s₁ oO b s' q'):Tw tb p w n0 ann (c₂+c₁) (m>>=f) s q b s' q':=λK H gd lv b env fr B N r hr=>by
 have e:(m>>=f).wrap K H gd lv=m.wrap (λa=>(f a).wrap K H gd lv) H gd lv:=by
  rw[su,pY];rfl
 rw[e,←rW];exact h _ H gd lv b env fr B (N+c₂) r (k K H gd lv b env fr B N r hr)
theorem Tw.holding(h:Tw tb p w n0 ann c m s q a s' q'):Tw tb p w n0 ann c (PySem.holding vs m) s q a s' q':=by
 unfold PySem.holding;split
 ·exact h
 ·intro K H gd lv b env fr B N r hr;rw[Sem.keep_eq_wrap,pY];exact h _ _ _ _ _ _ _ _ _ _ hr
theorem Tw.one(k:Tw tb p w n0 ann c x s₁ oO a s' q')
  (h:∀(K:α->Sem Fin) (H:Value->Sem Fin) (gd:Bool->Bool) (lv:List Value->List Value) (b:List Stmt) (env:Env) (f:Frame) (B:List Frame) (N:Nat),
   topRun tb p w n0 ann (N+1) s ⟨y.wrap K H gd lv,.body b env,q,f::B⟩=topRun tb p w n0 ann N s₁ ⟨x.wrap K H gd lv,.body b env,oO,f::B⟩):Tw tb p w n0 ann (c+1) y s q a s' q':=λK H gd lv b env fr B N r hr=>by
 rw[←rW,h];exact k K H gd lv b env fr B N r hr
theorem Tw.Wq(h:Tw tb p w n0 ann c (k ()) s q a s' q'):Tw tb p w n0 ann (c+1) (.rule t k) s q a s' q':=h.one λZ Z Z Z Z Z Z Z Z=>rfl
theorem Tw.at_(h:Tw tb p w n0 ann c (k ()) s t a s' q'):Tw tb p w n0 ann (c+1) (.at t k) s q a s' q':=h.one λZ Z Z Z Z Z Z Z Z=>rfl
theorem Tw.We(h:Tw tb p w n0 ann c (k ()) s q a s' q'):Tw tb p w n0 ann (c+1) (.point l k) s q a s' q':=h.one λZ Z Z Z Z Z Z Z Z=>rfl
theorem Tw.jH8(h:Tw tb p w n0 ann c (k ⟨p,w.params⟩) s q a s' q'):Tw tb p w n0 ann (c+1) (.ask k) s q a s' q':=h.one λZ Z Z Z Z Z Z Z Z=>rfl
theorem Tw.PQ(h:Tw tb p w n0 ann c (k s.toks) {s with toks:=s.toks+1} q a s' q'):Tw tb p w n0 ann (c+1) (.fresh k) s q a s' q':=h.one λZ Z Z Z Z Z Z Z Z=>rfl
theorem Tw.Wh(h:Tw tb p w n0 ann c (k s.heap.objs.size) {s with heap:=s.heap.push o} q a s' q'):Tw tb p w n0 ann (c+1) (.alloc o k) s q a s' q':=h.one λZ Z Z Z Z Z Z Z Z=>rfl
theorem Tw.Ax(ho:s.heap.get? b=some o)(h:Tw tb p w n0 ann c (k o) s q a s' q'):Tw tb p w n0 ann (c+1) (.load b t k) s q a s' q':=by
 refine h.one λK H gd lv b' env f B N=>?_;obtain⟨heap,gens,drawn,toks,os⟩:=s;show(match step (denote tb) p w _ _ with| .go s' t'=>topRun tb p w n0 ann N s' t'| .halt _ _=>none)=_;show(match (match heap.get? b with|some o=>Step.go _ _|none=>Step.halt _ _) with| .go s' t'=>topRun tb p w n0 ann N s' t'| .halt _ _=>none)=_;simp only at ho;rw[ho]
theorem Tw.jHx(hb:n0<=b)(ho:(s.heap.get? b).isSome=true)
  (h:Tw tb p w n0 ann c (k ()) {s with heap:=s.heap.update b g} q a s' q'):Tw tb p w n0 ann (c+1) (.update b t g k) s q a s' q':=by
 refine h.one λK H gd lv b' env f B N=>?_;obtain⟨heap,gens,drawn,toks,os⟩:=s;have hs:stepOk n0 ann ⟨(Sem.update b t g k).wrap K H gd lv,.body b' env,q,f::B⟩=true:=by
  simp only[stepOk,Sem.wrap,Thread.calm,Thread.atCollectorCode,Thread.yieldsInsideHandler];simp[hb]
 have ht:through ⟨(Sem.update b t g k).wrap K H gd lv,.body b' env,q,f::B⟩=false:=rfl;rw[XS,ht,hs];show(match (if (heap.get? b).isSome then Step.go _ _ else Step.halt _ _) with| .go s' t'=>topRun tb p w n0 ann N s' t'| .halt _ _=>none)=_;simp only at ho;rw[aX ho]
theorem Tw.of_eq(e:x=y)(h:Tw tb p w n0 ann c y s q a s' q'):Tw tb p w n0 ann c x s q a s' q':=e▸h
theorem Tw.forIn(f:γ->δ->Sem (ForInStep δ))(I:List γ->δ->Shared->Pos->Prop)(c:Nat)
  (turn:∀x rest b s q,I (x::rest) b s q->∃b₁ s₁ oO,Tw tb p w n0 ann c (f x b) s q (.yield b₁) s₁ oO/\I rest b₁ s₁ oO)
  (fin:∀b s q,I [] b s q->b=b'/\s=s'/\q=q'):∀(l:List γ) (b:δ) (s:Shared) (q:Pos),I l b s q->Tw tb p w n0 ann (l.length*c) (forIn l b f) s q b' s' q':=λl=>l.rec
  (λb s q h=>by
  refine cD (fin b s q h) λeq1 eq2 eq3=>?_;subst eq1;subst eq2;subst eq3;rw[Jq];exact Tw.pure.le (jq _))
  λx l ih b s q h=>by
  refine jK (turn x l b s q h) λb₁ s₁ oO h1 h2=>?_;rw[An,dC,Ed];exact h1.bind (ih b₁ s₁ oO h2)
end
theorem jop(p:Program)(n0:Nat)(ann:Option Value)(k:Int)(t:Tok)(w:World):∀(h:Heap) (g:Array GenState) (d:Drawn) (tk:Nat) (os:OsState) (q:Pos)
  (K:Int->Sem PySem.Fin)(H:Value->Sem PySem.Fin)(gd:Bool->Bool)(lv:List Value->List Value)(b:List Stmt)(env:Env)(f:Frame)(B:List Frame)(N:Nat),
  topRun treeTable p w n0 ann (N+5) ⟨h,g,d,tk,os⟩ ⟨(pyHash (.int k t)).wrap K H gd lv,.body b env,q,f::B⟩=
   topRun treeTable p w n0 ann N ⟨h,g,d,tk+1,os⟩ ⟨(pyHashByItsType.reduced (rawHash k)).wrap K H gd lv,.body b env,q,f::B⟩:=by
 refine byRow2 "special-get-raises" (P:=λw=>∀(h:Heap) (g:Array GenState) (d:Drawn) (tk:Nat) (os:OsState) (q:Pos)
  (K:Int->Sem PySem.Fin) (H:Value->Sem PySem.Fin) (gd:Bool->Bool) (lv:List Value->List Value) (b:List Stmt) (env:Env) (f:Frame) (B:List Frame) (N:Nat),
  topRun treeTable p w n0 ann (N+5) ⟨h,g,d,tk,os⟩ ⟨(pyHash (.int k t)).wrap K H gd lv,.body b env,q,f::B⟩=
   topRun treeTable p w n0 ann N ⟨h,g,d,tk+1,os⟩ ⟨(pyHashByItsType.reduced (rawHash k)).wrap K H gd lv,.body b env,q,f::B⟩) ?_ ?_ w
 all_goals
  intro w h g d tk os q K H gd lv b env f B N;kernel_rfl
section
theorem Tw.hash:Tw treeTable p w n0 ann 5 (pyHash (.int k t)) s q (hashInt k) {s with toks:=s.toks+1} q:=by
 intro K H gd lv b env f B N r hr;obtain⟨h,g,d,tk,os⟩:=s;rw[jop];have e:pyHashByItsType.reduced (rawHash k)=Sem.pure (hashInt k):=by
  have hr:=rawHash_range k;show(if (decide (-(2:Int) ^ 63<=rawHash k)&&decide (rawHash k<2 ^ 63))=true then _ else _)=_;rw[aX (by rw[b8 hr.1,b8 hr.2];rfl)];rfl
 rw[e];exact hr
theorem jkx{es:Array DictEntry}{h:Int}(hn:∀e∈es,e.hash≠h):placesWithHash es.size (λi=>es[i]?.map (·.hash)) h=[]:=by
 unfold placesWithHash;rw[List.filter_eq_nil_iff];intro i hi hb;have hi':i<es.size:=uc.mp hi;have hb:(es[i]?.map (·.hash)==some h)=true:=hb;rw[V7 hi'] at hb;simp only[Option.map_some,bO,Option.some.injEq] at hb;exact hn _ (Array.getElem_mem hi') hb
theorem Tw.entries(ho:s.heap.get? a=some o)(hd:o.data=.dict es n):
  Tw tb p w n0 ann 1 (dictEntries a part) s q es s q:=by
 unfold dictEntries;refine Tw.bind (Tw.Ax ho Tw.pure) ?_;rw[hd];exact Tw.pure
theorem Tw.find_none{d:Addr}{k:Int}{t:Tok}{o:Obj}{es:Array DictEntry}{n:Nat}(ho:s.heap.get? d=some o)(hd:o.data=.dict es n)(hn:∀e∈es,e.hash≠hashInt k):
  Tw tb p w n0 ann 1 (dictFind d (.int k t) (hashInt k)) s q none s q:=by
 unfold dictFind;refine Tw.holding (Tw.bind (Tw.entries ho hd) ?_);dsimp only;rw[jkx hn];exact Tw.pure
theorem Tw.V3(hd₀:n0<=d)(ho:s.heap.get? d=some ⟨.type "dict",none,.dict es n,#[]⟩)(hz:es.size<=1000):
  Tw tb p w n0 ann 3 (updateDictKeys d (·.push ⟨hashInt k,.int k t,v⟩) part) s q () {s with heap:=s.heap.update d (Obj.mapDictKeys (·.push ⟨hashInt k,.int k t,v⟩))} q:=by
 unfold updateDictKeys;refine Tw.bind (Tw.Ax ho Tw.pure) ?_;refine Tw.bind (Tw.jHx hd₀ (by rw[ho];rfl) Tw.pure) ?_;unfold lookBehind;refine Tw.bind (Tw.Ax (o:=Obj.mapDictKeys (·.push ⟨hashInt k,.int k t,v⟩) ⟨.type "dict",none,.dict es n,#[]⟩) (Er _ ho rfl) Tw.pure) ?_;have:(Obj.mapDictKeys (·.push ⟨hashInt k,.int k t,v⟩) ⟨.type "dict",none,.dict es n,#[]⟩).data.pastItsLine=none:=by
  refine pastItsLine_dict ?_;rw[Ar,qU];lia
 rw[this];exact Tw.pure
end
section
theorem Tw.onRaise(h:Tw tb p w n0 ann c m s q a s' q'):Tw tb p w n0 ann c (m.onRaise k) s q a s' q':=by
 intro K H gd lv b env fr B N r hr;rw[Sem.onRaise_eq_wrap,pY];exact h _ _ _ _ _ _ _ _ _ _ hr
noncomputable def Bs{α:Type}:Sem α->Obj->Sem α
 | .load _ _ k,o=>k o|x,_=>x
theorem Tw.V5(hx:x=.load b t (Bs x))(ho:s.heap.get? b=some o)(h:Tw tb p w n0 ann c (Bs x o) s q a s' q'):Tw tb p w n0 ann (c+1) x s q a s' q':=
 Tw.of_eq hx (Tw.Ax ho h)
noncomputable abbrev dO(es:List DictEntry)(n:Nat):Obj:=⟨.type "dict",none,.dict es.toArray n,#[]⟩
noncomputable def hp(base:List Obj)(life:Life)(more:List Obj):Heap:=⟨(base++more).toArray,life⟩
theorem XX(base:List Obj)(life:Life)(more:List Obj):(hp base life more).objs.size=base.length+more.length:=by simp[hp]
theorem X5(base:List Obj)(life:Life)(more:List Obj)(o:Obj):(hp base life more).push o=hp base life (more++[o]):=by simp[hp,Heap.push]
theorem J5(base:List Obj)(life:Life)(more:List Obj)(i:Nat)(es:List DictEntry)(n:Nat)(h:more[i]?=some (dO es n)):(hp base life more).get? (base.length+i)=some (dO es n):=by
 have:(base++more)[base.length+i]?=some (dO es n):=by rw[Ao (je ..)];simpa using h
 simp[hp,Heap.get?,this]
theorem jmF(f:Obj->Obj)(i:Nat)(more:List Obj):∀base:List Obj,(base++more).modify (base.length+i) f=base++more.modify i f:=λbase=>base.rec
  (by simp)
  λx base ih=>by
  rw[dC,zY,vg,List.modify_succ_cons,ih,vg]
theorem X6(base:List Obj)(life:Life)(more:List Obj)(i:Nat)(f:Obj->Obj):(hp base life more).update (base.length+i) f=hp base life (more.modify i f):=by
 simp only[hp,Heap.update];congr 1;apply Array.ext';simp only[Array.toList_modify];exact jmF f i more base
end
section
noncomputable abbrev cp(pos:Pos)(x:Int×Str):Sem Value×Sem Value:=(mkInt x.1,do let v ←mkText x.2;standAt pos;pure v)
noncomputable def eE:Nat->List (Int×Str)->List DictEntry
 |_,[]=>[]|t,x::r=>⟨hashInt x.1,.int x.1 t,.str x.2 (t+1)⟩::eE (t+3) r
noncomputable def fY:Nat->List (Int×Str)->List DictEntry
 |_,[]=>[]|t,x::r=>⟨hashInt x.1,.int x.1 t,.str x.2 (t+1)⟩::fY (t+2) r
theorem Bt:∀(l:List (Int×Str)) (t:Nat),(eE t l).length=l.length:=λl=>l.rec
  (λZ=>rfl)
  λZ r ih t=>by simp[eE,ih]
theorem QW:∀(l:List (Int×Str)) (t:Nat),(fY t l).length=l.length:=λl=>l.rec
  (λZ=>rfl)
  λZ r ih t=>by simp[fY,ih]
theorem jnY:∀(l:List (Int×Str)) (t:Nat) (e:DictEntry),e∈eE t l->∃x∈l,e.hash=hashInt x.1:=λl=>l.rec
  (λZ Z h=>nomatch h)
  λx r ih t e h=>by
  rcases gO.mp h with rfl|h
  ·exact⟨x,.head _,rfl⟩
  ·refine aH (ih _ _ h) λy hy e=>?_;exact⟨y,.tail _ hy,e⟩
theorem jnX:∀(l:List (Int×Str)) (t:Nat) (e:DictEntry),e∈fY t l->∃x∈l,e.hash=hashInt x.1:=λl=>l.rec
  (λZ Z h=>nomatch h)
  λx r ih t e h=>by
  rcases gO.mp h with rfl|h
  ·exact⟨x,.head _,rfl⟩
  ·refine aH (ih _ _ h) λy hy e=>?_;exact⟨y,.tail _ hy,e⟩
theorem X7:∀(l r:List (Int×Str)) (t:Nat),eE t (l++r)=eE t l++eE (t+3*l.length) r:=λl=>l.rec
  (λZ Z=>rfl)
  λx l ih r t=>by
  simp only[vg,eE,ih r,dC];rw[show t+3+3*l.length=t+3*(l.length+1) by lia]
theorem X8:Obj.mapDictKeys (·.push e) (dO es n)=dO (es++[e]) (n+1):=aU (λz=>(⟨.type "dict",none,.dict z (n+1),#[]⟩:Obj)) (List.push_toArray ..)
theorem Yb{l:List Obj}{i:Nat}{x:Obj}{f:Obj->Obj}(h:l[i]?=some x):l.modify i f=l.set i (f x):=by
 apply List.ext_getElem?;intro j;rw[List.getElem?_modify,List.getElem?_set];by_cases e:i=j
 ·subst e;obtain⟨this,rfl⟩:=um.mp h;simp[this]
 ·simp[e]
theorem Tw.Wg{base:List Obj}{life:Life}{more:List Obj}{g:Array GenState}{d:Drawn}{os:OsState}{tk i:Nat}{es:List DictEntry}{n:Nat}{k:Int}{t:Tok}{v:Value}
  (oM:n0<=base.length)(hi:more[i]?=some (dO es n))(hn:∀e∈es,e.hash≠hashInt k)(hz:es.length<=1000):
  Tw treeTable p w n0 ann 10 (dictSet (base.length+i) (.int k t) v) ⟨hp base life more,g,d,tk,os⟩ q () ⟨hp base life (more.set i (dO (es++[⟨hashInt k,.int k t,v⟩]) (n+1))),g,d,tk+1,os⟩ q:=by
 have ho:=J5 base life more i es n hi;unfold dictSet;refine Tw.holding (Tw.bind Tw.hash ?_);unfold dictSetHashed;refine Tw.holding (Tw.bind (Tw.find_none ho rfl (λe he=>hn e (by simpa using he))) ?_);refine Tw.Wq ?_;have z:=Tw.V3 (p:=p) (w:=w) (tb:=treeTable) (ann:=ann) (q:=q) (k:=k) (part:=keyPart (.int k t)) (t:=t) (v:=v) (s:=⟨hp base life more,g,d,tk+1,os⟩) (aF oM (je _ i)) ho (by simpa using hz);have e:(hp base life more).update (base.length+i) (Obj.mapDictKeys (·.push ⟨hashInt k,.int k t,v⟩))=hp base life (more.set i (dO (es++[⟨hashInt k,.int k t,v⟩]) (n+1))):=by
  rw[X6,Yb hi,X8]
 rw[e] at z;exact z
theorem Tw.jHF{base:List Obj}{life:Life}{more:List Obj}{g:Array GenState}{d:Drawn}{os:OsState}{tk i:Nat}{es:List DictEntry}{n:Nat}{k:Int}{t:Tok}{v:Value}
  (oM:n0<=base.length)(hi:more[i]?=some (dO es n))(hn:∀e∈es,e.hash≠hashInt k)(hz:es.length<=1000):
  Tw treeTable p w n0 ann 4 (dictPut (base.length+i) (hashInt k) (.int k t) v) ⟨hp base life more,g,d,tk,os⟩ q () ⟨hp base life (more.set i (dO (es++[⟨hashInt k,.int k t,v⟩]) (n+1))),g,d,tk,os⟩ q:=by
 have ho:=J5 base life more i es n hi;unfold dictPut;refine Tw.bind (Tw.find_none ho rfl (λe he=>hn e (by simpa using he))) ?_;have z:=Tw.V3 (p:=p) (w:=w) (tb:=treeTable) (ann:=ann) (q:=q) (k:=k) (part:=none) (t:=t) (v:=v) (s:=⟨hp base life more,g,d,tk,os⟩) (aF oM (je _ i)) ho (by simpa using hz);have e:(hp base life more).update (base.length+i) (Obj.mapDictKeys (·.push ⟨hashInt k,.int k t,v⟩))=hp base life (more.set i (dO (es++[⟨hashInt k,.int k t,v⟩]) (n+1))):=by
  rw[X6,Yb hi,X8]
 rw[e] at z;exact z
theorem Tw.pair:Tw treeTable p w n0 ann 1 (cp pos x).1 s q (.int x.1 s.toks) {s with toks:=s.toks+1} q:=Tw.PQ Tw.pure
theorem Tw.Wx:Tw treeTable p w n0 ann 2 (cp pos x).2 s q (.str x.2 s.toks) {s with toks:=s.toks+1} pos:=Tw.bind (Tw.PQ Tw.pure) (Tw.at_ Tw.pure)
theorem Tw.V4{base:List Obj}{life:Life}{more:List Obj}{g:Array GenState}{d:Drawn}{os:OsState}{tk:Nat}{run:List (Int×Str)}
  (oM:n0<=base.length)(hlen:15<run.length)(hz:run.length<=1000)(hnd:(run.map λx=>hashInt x.1).Nodup):
  Tw treeTable p w n0 ann (13*run.length+2) (subDict (run.map (cp pos))) ⟨hp base life more,g,d,tk,os⟩ pos (base.length+more.length) ⟨hp base life (more++[dO (eE tk run) run.length]),g,d,tk+3*run.length,os⟩ pos:=by
 unfold subDict;refine Tw.le (c₁:=(0+(0+(run.map (cp pos)).length*13+1))+1) ?_ (fH (by rw[bH,Il,mC,mC]));refine Tw.bind (c₁:=1) (Tw.Wh Tw.pure) ?_;rw[XX,X5];refine Tw.bind (a:=()) (c₁:=0+(run.map (cp pos)).length*13+1) (c₂:=0) (Tw.holding ?_) Tw.pure;rw[aZ (by rw[bH];exact Im.mpr hlen)];refine Tw.bind (a:=()) (c₁:=1) (Tw.Wq Tw.pure) ?_;refine Tw.bind (a:=PUnit.unit) ?_ Tw.pure';refine Tw.forIn (c:=13) (s':=⟨hp base life (more++[dO (eE tk run) run.length]),g,d,tk+3*run.length,os⟩) (q':=pos) _ (λrest Z s q=>q=pos/\∃done rest',run=done++rest'/\rest=rest'.map (cp pos)/\s=⟨hp base life (more++[dO (eE tk done) done.length]),g,d,tk+3*done.length,os⟩) ?_ ?_ _ _ _ _ ⟨rfl,[],run,rfl,rfl,rfl⟩
 ·rintro x rest b s q ⟨rfl,done,rest',hr,hx,rfl⟩;cases rest' with
  |nil=>cases hx
  |cons y rest'=>
   rw[fu] at hx;refine vI x rest (sG hx) ?_;refine⟨_,_,_,Tw.bind (Tw.pair (pos:=q)) (Tw.bind (Tw.holding Tw.Wx) (Tw.bind (Tw.holding (Tw.Wg (i:=more.length) (es:=eE tk done) (n:=done.length) oM ?_ ?_ ?_)) Tw.pure)),rfl,done++[y],rest',by rw[hr];simp,rfl,?_⟩
   ·simp
   ·intro e he;refine aH (jnY _ _ _ he) λz hz e1=>?_;rw[e1];rw[hr,il,fu] at hnd;have:=(zV.mp hnd).2.2 (hashInt z.1) (DG hz) (hashInt y.1) (.head _);exact this
   ·rw[Bt];rw[hr,bz] at hz;exact aF (je ..) hz
   ·rw[X7];simp only[eE,bz,dC,jJ];congr 1<;>first|lia|(simp;done)
 ·rintro b s q ⟨rfl,done,rest',hr,hx,rfl⟩;have:rest'=[]:=by simpa using hx.symm
  subst this;rw[fV] at hr;subst hr;exact⟨rfl,rfl,rfl⟩
end
section
noncomputable def vals2:Nat->List (Int×Str)->List (Value×Value)
 |_,[]=>[]|t,x::r=>(.int x.1 t,.str x.2 (t+1))::vals2 (t+2) r
theorem Tw.evalPairs{h:Heap}{g:Array GenState}{d:Drawn}{os:OsState}:∀(run:List (Int×Str)) (tk:Nat),
  Tw treeTable p w n0 ann (3*run.length) (PySem.evalPairs (run.map (cp pos))) ⟨h,g,d,tk,os⟩ pos (vals2 tk run) ⟨h,g,d,tk+2*run.length,os⟩ pos:=λrun=>run.rec
  (λZ=>Tw.pure)
  λx run ih tk=>by
  rw[fu];unfold PySem.evalPairs;refine Tw.le (c₁:=0+3*run.length+2+1) ?_ (by rw[dC];lia);refine Tw.bind (Tw.pair (pos:=pos)) (Tw.bind (Tw.holding Tw.Wx) (Tw.bind (Tw.holding (ih (tk+2))) ?_));rw[dC,show tk+2+2*run.length=tk+2*(run.length+1) by lia];exact Tw.pure
theorem jq7:∀(l r:List (Int×Str)) (t:Nat),fY t (l++r)=fY t l++fY (t+2*l.length) r:=λl=>l.rec
  (λZ Z=>rfl)
  λx l ih r t=>by
  simp only[vg,fY,ih r,dC];rw[show t+2+2*l.length=t+2*(l.length+1) by lia]
theorem jjM:∀(l:List (Int×Str)) (t:Nat),(vals2 t l).length=l.length:=λl=>l.rec
  (λZ=>rfl)
  λZ r ih t=>by simp[vals2,ih]
theorem Tw.jHr{base:List Obj}{life:Life}{more:List Obj}{g:Array GenState}{d:Drawn}{os:OsState}{tk:Nat}{run:List (Int×Str)}
  (oM:n0<=base.length)(hlen:run.length<=15)(hnd:(run.map λx=>hashInt x.1).Nodup):
  Tw treeTable p w n0 ann (13*run.length+1) (subDict (run.map (cp pos))) ⟨hp base life more,g,d,tk,os⟩ pos (base.length+more.length) ⟨hp base life (more++[dO (fY tk run) run.length]),g,d,tk+3*run.length,os⟩ pos:=by
 unfold subDict;refine Tw.le (c₁:=(0+(0+(vals2 tk run).length*10+3*run.length))+1) ?_ (by rw[jjM];lia);refine Tw.bind (c₁:=1) (Tw.Wh Tw.pure) ?_;rw[XX,X5];refine Tw.bind (a:=()) (c₁:=0+(vals2 tk run).length*10+3*run.length) (c₂:=0) (Tw.holding ?_) Tw.pure;rw[aX (by rw[bH];exact hlen)];refine Tw.bind (c₁:=3*run.length) (Tw.evalPairs run tk) ?_;refine Tw.holding ?_;refine Tw.bind (a:=PUnit.unit) ?_ Tw.pure';refine Tw.forIn (c:=10) (s':=⟨hp base life (more++[dO (fY tk run) run.length]),g,d,tk+3*run.length,os⟩) (q':=pos) _ (λrest Z s q=>q=pos/\∃done rest',run=done++rest'/\rest=vals2 (tk+2*done.length) rest'/\s=⟨hp base life (more++[dO (fY tk done) done.length]),g,d,tk+2*run.length+done.length,os⟩) ?_ ?_ _ _ _ _ ⟨rfl,[],run,rfl,rfl,rfl⟩
 ·rintro x rest b s q ⟨rfl,done,rest',hr,hx,rfl⟩;cases rest' with
  |nil=>cases hx
  |cons y rest'=>
   refine vI x rest (sG hx) ?_;refine⟨_,_,_,Tw.bind (Tw.Wg (i:=more.length) (es:=fY tk done) (n:=done.length) oM ?_ ?_ ?_) Tw.pure,rfl,done++[y],rest',by rw[hr];simp,?_,?_⟩
   ·simp
   ·intro e he;refine aH (jnX _ _ _ he) λz hz e1=>?_;rw[e1];rw[hr,il,fu] at hnd;have:=(zV.mp hnd).2.2 (hashInt z.1) (DG hz) (hashInt y.1) (.head _);exact this
   ·rw[QW];rw[hr,bz] at hlen;exact aF (je ..) (aF hlen ∅)
   ·rw[bz,dC,jJ,show tk+2*(done.length+(0+1))=tk+2*done.length+2 by lia]
   ·rw[jq7];simp only[fY,bz,dC,jJ];congr 1<;>first|lia|(simp;done)
 ·rintro b s q ⟨rfl,done,rest',hr,hx,rfl⟩;have:rest'=[]:=by
   cases rest' with
   |nil=>rfl
   |cons _ _=>cases hx
  subst this;rw[fV] at hr;subst hr;refine⟨rfl,?_,rfl⟩;rw[show tk+2*run.length+run.length=tk+3*run.length by lia]
theorem jrz(b:Addr):isInstance (.ref b) (.type "dict")=.load b (some headPart) (Bs (isInstance (.ref b) (.type "dict"))):=⋯
theorem jkl(b:Addr)(es:List DictEntry)(n:Nat):Bs (isInstance (.ref b) (.type "dict")) (dO es n)=Sem.pure true:=⋯
theorem jso(b:Addr):specialOf (.ref b) "__iter__"=.load b (some headPart) (Bs (specialOf (.ref b) "__iter__")):=⋯
theorem jkO(b:Addr)(es:List DictEntry)(n:Nat):Bs (specialOf (.ref b) "__iter__") (dO es n)=Sem.pure (some (.builtin "dict.__iter__")):=⋯
theorem Tw.epoch(ho:s.heap.get? a=some o)(hd:o.data=.dict es n):
  Tw tb p w n0 ann 1 (dictEpoch a part) s q n s q:=by
 unfold dictEpoch;refine Tw.bind (Tw.Ax ho Tw.pure) ?_;rw[hd];exact Tw.pure
theorem Tw.merge{base:List Obj}{life:Life}{m:List DictEntry}{mn i sn:Nat}{rest:List Obj}{sub:List DictEntry}{g:Array GenState}{d:Drawn}{os:OsState}{tk:Nat}
  (oM:n0<=base.length)(hi:rest[i]?=some (dO sub sn))(hne:m≠[])(hs:base.length+(i+1)≠sysModules)(hz:m.length+sub.length<=1000)
  (hk:∀e∈sub,∃k t,e.hash=hashInt k/\e.key=.int k t)(hnd:((m++sub).map (·.hash)).Nodup):
  Tw treeTable p w n0 ann (6*sub.length+5) (mergeMapping (base.length+0) (.ref (base.length+(i+1))) false) ⟨hp base life (dO m mn::rest),g,d,tk,os⟩ q () ⟨hp base life (dO (m++sub) (mn+sub.length)::rest),g,d,tk,os⟩ q:=by
 have hsub:∀o,(hp base life (o::rest)).get? (base.length+(i+1))=some (dO sub sn):=λo=>J5 base life (o::rest) (i+1) sub sn (by simpa using hi);unfold mergeMapping;refine Tw.le (c₁:=(((((0+(List.range sub.length).length*6)+1)+1)+1)+0)+1+1) ?_ (fH (by rw[Jr,Il,mC]));refine Tw.bind (a:=true) (Tw.V5 (jrz _) (hsub _) (by rw[jkl];exact Tw.pure)) ?_;dsimp only;rw[aX rfl];refine Tw.bind (Tw.V5 (jso _) (hsub _) (by rw[jkO];exact Tw.pure)) ?_;refine Tw.bind (a:=true) (Tw.of_eq (y:=Sem.pure true) ⋯ Tw.pure) ?_;dsimp only;rw[aZ (by simpa using hs)];refine Tw.bind (Tw.entries (J5 base life (dO m mn::rest) 0 m mn rfl) rfl) ?_;rw[aZ (by simpa using hne)];refine Tw.bind (Tw.entries (hsub _) rfl) ?_;refine Tw.bind (Tw.epoch (hsub _) rfl) ?_;refine Tw.bind (a:=PUnit.unit) (c₁:=(List.range sub.length).length*6) ?_ Tw.pure';refine Tw.forIn (c:=6) (s':=⟨hp base life (dO (m++sub) (mn+sub.length)::rest),g,d,tk,os⟩) (q':=q) _ (λis Z s q'=>q'=q/\∃j,j<=sub.length/\is=List.range' j (sub.length-j)/\s=⟨hp base life (dO (m++sub.take j) (mn+j)::rest),g,d,tk,os⟩) ?_ ?_ _ _ _ _ ⟨rfl,0,jq _,by simp[zW],by simp⟩
 ·rintro x is b s q' ⟨rfl,j,hj,hx,rfl⟩;have hlt:j<sub.length:=by
   rcases uZ j sub.length with h|h
   ·exact h
   ·rw[Nat.sub_eq_zero_of_le h] at hx;cases hx
  rw[←Eb (Ip hlt),Ij] at hx;refine kA (sG hx) λeq1 eq2=>?_;subst eq1;subst eq2;refine eV (hk sub[x] (qi hlt)) λk t e1 e2=>?_;refine⟨PUnit.unit,⟨hp base life (dO (m++sub.take (x+1)) (mn+(x+1))::rest),g,d,tk,os⟩,q',Tw.bind (Tw.entries (hsub _) rfl) ?_,rfl,x+1,hlt,rfl,rfl⟩;have hget:(sub.toArray)[x]?=some sub[x]:=by simp[hlt]
  rw[hget];dsimp only;refine Tw.bind (a:=()) (c₁:=4) (c₂:=1) (oO:=q') (Tw.holding ?_) (Tw.bind (c₁:=1) (c₂:=0) (oO:=q') (Tw.epoch (s:=⟨hp base life (dO (m++sub.take (x+1)) (mn+(x+1))::rest),g,d,tk,os⟩) (o:=dO sub sn) (hsub _) rfl) ?_)
  ·rw[aZ (by simp)];rw[e1,e2];have z:=Tw.jHF (p:=p) (w:=w) (ann:=ann) (q:=q') (base:=base) (life:=life) (more:=dO (m++sub.take x) (mn+x)::rest) (g:=g) (d:=d) (os:=os) (tk:=tk) (i:=0) (es:=m++sub.take x) (n:=mn+x) (k:=k) (t:=t) (v:=sub[x].val) oM rfl ?_ ?_
   ·have e3:m++sub.take x++[⟨hashInt k,.int k t,sub[x].val⟩]=m++sub.take (x+1):=by
     rw[dm,List.take_succ_eq_append_getElem hlt];congr 2;rw[show(⟨hashInt k,.int k t,sub[x].val⟩:DictEntry)=sub[x] by rw[←e1,←e2]]
    rw[e3] at z;exact z
   ·intro e he;rw[il] at hnd;rcases wN.mp he with he|he
    ·rw[←e1];exact(zV.mp hnd).2.2 _ (DG he) _ (DG (qi hlt))
    ·rw[←e1];have hn2:=(zV.mp hnd).2.1;obtain⟨y,hy,rfl⟩:=List.getElem_of_mem he;rw[sH] at hy;rw[List.getElem_take];intro hh;have:=(List.pairwise_iff_getElem.mp hn2) y x (by rw[bH];exact bJ hy (Nat.min_le_right ..)) (by rw[bH];exact hlt) (bJ hy (Nat.min_le_left ..));apply this;rw[PJ,PJ];exact hh
   ·rw[bz];exact aF (oH (Aq ..) _) hz
  ·rw[aZ (by simp)];exact Tw.pure
 ·rintro b s q' ⟨rfl,j,hj,hx,rfl⟩;have:j=sub.length:=by
   rcases uZ j sub.length with h|h
   ·rw[←Eb (Ip h),Ij] at hx;cases hx
   ·exact DW hj h
  subst this;exact⟨rfl,by rw[zX],rfl⟩
end
abbrev ci(pos:Pos)(x:Int×Str):Option (Sem Value)×Sem Value:=(some (cp pos x).1,(cp pos x).2)
def pg(tk:Nat)(pairs:List (Int×Str))(c:Nat):List Obj:=(List.range (c-1)).map λj=>dO (eE (tk+51*(j+1)) ((pairs.drop (17*(j+1))).take 17)) 17
theorem jpZ(tk:Nat)(pairs:List (Int×Str))(c:Nat):pg tk pairs (c+1+1)=pg tk pairs (c+1)++[dO (eE (tk+51*(c+1)) ((pairs.drop (17*(c+1))).take 17)) 17]:=by
 show(List.range (c+1)).map _=_;rw[List.range_succ,il];rfl
theorem QX:∀(l:List (Int×Str)) (t:Nat),(eE t l).map (·.hash)=l.map λx=>hashInt x.1:=λl=>l.rec
  (λZ=>rfl)
  λZ l ih t=>aU (_::·) (ih (t+3))
theorem jtW:∀(l:List (Int×Str)) (t:Nat),(fY t l).map (·.hash)=l.map λx=>hashInt x.1:=λl=>l.rec
  (λZ=>rfl)
  λZ l ih t=>aU (_::·) (ih (t+2))
def QZ(e:DictEntry):Prop:=∃k t,e.hash=hashInt k/\e.key=.int k t
theorem jq9:∀(l:List (Int×Str)) (t:Nat),∀e∈eE t l,QZ e:=λl=>l.rec
  (λZ=>λZ h=>absurd h wO)
  λZ l ih t=>λe h=>(gO.mp h).elim (λq=>⟨_,_,aU (·.hash) q,aU (·.key) q⟩) (ih _ e)
theorem jq8:∀(l:List (Int×Str)) (t:Nat),∀e∈fY t l,QZ e:=λl=>l.rec
  (λZ=>λZ h=>absurd h wO)
  λZ l ih t=>λe h=>(gO.mp h).elim (λq=>⟨_,_,aU (·.hash) q,aU (·.key) q⟩) (ih _ e)
structure DX where
 p:Program
 w:World
 n:Nat
 ann:Option Value
 pos:Pos
 base:List Obj
 life:Life
 g:Array GenState
 d:Drawn
 os:OsState
 tk:Nat
 pairs:List (Int×Str)
namespace DX
variable(D:DX)
def R{α:Type}(c:Nat)(x:Sem α)(s:Shared)(a:α)(s':Shared):Prop:=Tw treeTable D.p D.w D.n D.ann c x s D.pos a s' D.pos
def st(l:List Obj)(t:Nat):Shared:=⟨hp D.base D.life l,D.g,D.d,t,D.os⟩
def objs:Nat->List Obj
 |0=>[]|c+1=>dO (eE D.tk (D.pairs.take (17*(c+1)))) (17*(c+1))::pg D.tk D.pairs (c+1)
abbrev sat(c:Nat):Shared:=D.st (D.objs c) (D.tk+51*c)
def main:Nat->Option Addr
 |0=>none|_+1=>some D.base.length
structure Ok:Prop where
 n:D.n<=D.base.length
 b:sysModules<D.base.length
 z:D.pairs.length<=900
 nd:(D.pairs.map λx=>hashInt x.1).Nodup
variable{D}
theorem into{m es:List DictEntry}{mn sn c tk tk':Nat}{rest:List Obj}{run:List (Sem Value×Sem Value)}{k:Addr->Value->Sem Unit}(O:D.Ok)
  (hs:D.R c (subDict run) (D.st (dO m mn::rest) tk) (D.base.length+(rest.length+1)) (D.st (dO m mn::(rest++[dO es sn])) tk'))
  (hne:m≠[])(hz:m.length+es.length<=1000)(hk:∀e∈es,QZ e)(hnd:((m++es).map (·.hash)).Nodup):
  D.R (0+(6*es.length+5)+c) (holding [.ref D.base.length] (subDict run)>>=λsub=>(holding [.ref D.base.length,.ref sub] (mergeMapping D.base.length (.ref sub) false)).onRaise (k sub)>>=λZ=>Pure.pure (some D.base.length))
   (D.st (dO m mn::rest) tk) (some D.base.length) (D.st (dO (m++es) (mn+es.length)::(rest++[dO es sn])) tk'):=
 Tw.bind (Tw.holding hs) (Tw.bind (a:=()) (Tw.onRaise (Tw.holding (Tw.merge O.n (by rw[Ao (aN _),Ec];rfl) hne (z9 (bJ O.b (je ..))) hz hk hnd))) Tw.pure)
theorem Q0(h:D.pairs.take (17*(c+1))=A):D.objs (c+1)=dO (eE D.tk A) (17*(c+1))::pg D.tk D.pairs (c+1):=h▸rfl
structure Cut(c:Nat)(A r rest:List (Int×Str)):Prop where
 e:D.pairs=A++(r++rest)
 l:A.length=17*c
theorem Cut.take(x:D.Cut c A r rest):D.pairs.take (17*c)=A:=by rw[x.e,←x.l,List.take_left]
theorem Cut.drop(x:D.Cut c A r rest):D.pairs.drop (17*c)=r++rest:=by rw[x.e,←x.l,List.drop_left]
theorem Cut.run(x:D.Cut c A r rest)(hr:r.length=17):(D.pairs.drop (17*c)).take 17=r:=by rw[x.drop,←hr,List.take_left]
theorem Cut.next(x:D.Cut c A r rest)(hr:r.length=17):D.Cut (c+1) (A++r) [] rest:=⟨x.e.trans (dm ..).symm,by rw[bz,x.l,hr];rfl⟩
theorem Cut.nd(x:D.Cut c A r rest)(O:D.Ok):((A++r).map λx=>hashInt x.1).Nodup:=by
 have h:=O.nd;rw[x.e,←dm,il] at h;exact(zV.mp h).1
theorem Cut.VN(x:D.Cut c A r rest)(O:D.Ok):(r.map λx=>hashInt x.1).Nodup:=by
 have h:=x.nd O;rw[il] at h;exact(zV.mp h).2.1
theorem Cut.len(x:D.Cut c A r rest)(O:D.Ok):A.length+r.length<=1000:=by
 have h:=O.z;rw[x.e,←dm,bz,bz] at h;exact aF (aF (je ..) h) ∅
theorem Cut.ne(x:D.Cut (c+1) A r rest):eE D.tk A≠[]:=λh=>by
 have:=aU List.length h;rw[Bt,x.l] at this;cases this
theorem first(O:D.Ok)(x:D.Cut 0 [] r rest)(hr:r.length=17):
  D.R (0+(13*r.length+2)) (subDict (r.map (cp D.pos))>>=λa=>Pure.pure (some a)) (D.sat 0) (D.main 1) (D.sat 1):=by
 have e:D.pairs.take (17*1)=r:=(x.next hr).take;have es:D.sat 1=D.st [dO (eE D.tk r) 17] (D.tk+51):=by
  show D.st (dO (eE D.tk (D.pairs.take (17*1))) (17*1)::[]) _=_;rw[e]
 have z:=Tw.V4 (p:=D.p) (w:=D.w) (n0:=D.n) (ann:=D.ann) (pos:=D.pos) (base:=D.base) (life:=D.life) (g:=D.g) (d:=D.d) (os:=D.os) (tk:=D.tk) (more:=[]) O.n (by rw[hr];decide) (by rw[hr];decide) (x.VN O);rw[hr] at z;rw[es,hr];exact Tw.bind z Tw.pure
theorem more{c:Nat}{A r rest:List (Int×Str)}{k:Addr->Value->Sem Unit}(O:D.Ok)(x:D.Cut (c+1) A r rest)(hr:r.length=17):
  D.R (0+(6*17+5)+(13*17+2)) (holding [.ref D.base.length] (subDict (r.map (cp D.pos)))>>=λsub=>(holding [.ref D.base.length,.ref sub] (mergeMapping D.base.length (.ref sub) false)).onRaise (k sub)>>=λZ=>Pure.pure (some D.base.length))
   (D.sat (c+1)) (D.main (c+1)) (D.sat (c+1+1)):=by
 have hs:=Tw.V4 (p:=D.p) (w:=D.w) (n0:=D.n) (ann:=D.ann) (pos:=D.pos) (base:=D.base) (life:=D.life) (g:=D.g) (d:=D.d) (os:=D.os) (tk:=D.tk+51*(c+1)) (more:=dO (eE D.tk A) (17*(c+1))::pg D.tk D.pairs (c+1)) O.n (by rw[hr];decide) (by rw[hr];decide) (x.VN O);rw[hr] at hs;have z:=into (k:=k) (sn:=17) (rest:=pg D.tk D.pairs (c+1)) (m:=eE D.tk A) (mn:=17*(c+1)) (es:=eE (D.tk+51*(c+1)) r) O hs x.ne
  (by rw[Bt,Bt];exact x.len O) (jq9 _ _) (by rw[il,QX,QX,←il];exact x.nd O)
 rw[Bt,hr] at z;unfold sat;rw[Q0 x.take,Q0 (x.next hr).take,jpZ,x.run hr,X7,x.l,show D.tk+3*(17*(c+1))=D.tk+51*(c+1) from by rw[←zZ]];exact z
theorem last{c:Nat}{A r:List (Int×Str)}{k:Addr->Value->Sem Unit}(O:D.Ok)(x:D.Cut (c+1) A r [])(hr:r.length<=15):
  D.R (0+(6*r.length+5)+(13*r.length+1)) (holding [.ref D.base.length] (subDict (r.map (cp D.pos)))>>=λsub=>(holding [.ref D.base.length,.ref sub] (mergeMapping D.base.length (.ref sub) false)).onRaise (k sub)>>=λZ=>Pure.pure (some D.base.length))
   (D.sat (c+1)) (some D.base.length) (D.st (dO (eE D.tk A++fY (D.tk+51*(c+1)) r) (17*(c+1)+r.length)::(pg D.tk D.pairs (c+1)++[dO (fY (D.tk+51*(c+1)) r) r.length])) (D.tk+51*(c+1)+3*r.length)):=by
 have z:=into (k:=k) (sn:=r.length) (rest:=pg D.tk D.pairs (c+1)) (m:=eE D.tk A) (mn:=17*(c+1)) (es:=fY (D.tk+51*(c+1)) r) O
  (Tw.jHr (tk:=D.tk+51*(c+1)) (more:=dO (eE D.tk A) (17*(c+1))::pg D.tk D.pairs (c+1)) O.n hr (x.VN O)) x.ne
  (by rw[Bt,QW];exact x.len O) (jq8 _ _) (by rw[il,QX,jtW,←il];exact x.nd O)
 rw[QW] at z;unfold sat;rw[Q0 x.take];exact z
def Inv(D:DX)(rest:List (Option (Sem Value)×Sem Value))(b:Option Addr×List (Sem Value×Sem Value))(s:Shared)(q:Pos):Prop:=
 ∃c A r t,D.Cut c A r t/\r.length<=16/\q=D.pos/\rest=t.map (ci D.pos)/\b=(D.main c,r.map (cp D.pos))/\s=D.sat c
theorem Inv.mk(x:D.Cut c A r t)(h:r.length<=16):D.Inv (t.map (ci D.pos)) (D.main c,r.map (cp D.pos)) (D.sat c) D.pos:=⟨c,A,r,t,x,h,rfl,rfl,rfl,rfl⟩
theorem Cut.push(x:D.Cut c A r (y::t)):D.Cut c A (r++[y]) t:=⟨by rw[x.e,dm r];rfl,x.l⟩
theorem Cut.last(x:D.Cut c A r [])(h:r.length<=16)(hC:17*(C+1)<D.pairs.length)(pJ:D.pairs.length<=17*(C+1)+15):c=C+1/\r.length<=15:=by
 have e:=aU List.length x.e;rw[fV,bz,x.l] at e;generalize D.pairs.length=n at*;generalize r.length=m at*;lia
theorem run(O:D.Ok)(hC:17*(C+1)<D.pairs.length)(pJ:D.pairs.length<=17*(C+1)+15):
  D.R (400+(D.pairs.map (ci D.pos)).length*330) (dictDisplay (D.pairs.map (ci D.pos))) (D.st [] D.tk) (.ref D.base.length)
   (D.st (dO (eE D.tk (D.pairs.take (17*(C+1)))++fY (D.tk+51*(C+1)) (D.pairs.drop (17*(C+1)))) (17*(C+1)+(D.pairs.drop (17*(C+1))).length)::(pg D.tk D.pairs (C+1)++[dO (fY (D.tk+51*(C+1)) (D.pairs.drop (17*(C+1)))) (D.pairs.drop (17*(C+1))).length]))
    (D.tk+51*(C+1)+3*(D.pairs.drop (17*(C+1))).length)):=by
 unfold dictDisplay
 extract_lets flush jU8 jVa
 have fl:∀{c:Nat} {A r t:List (Int×Str)},D.Cut c A r t->r.length=17->D.R 330 (flush (r.map (cp D.pos)) (D.main c)) (D.sat c) (D.main (c+1)) (D.sat (c+1)):=λ{c A r t} x hr=>by
  have hne:r≠[]:=λh=>by rw[h] at hr;cases hr
  refine kO (List.exists_cons_of_ne_nil hne) λy r' bB=>?_;subst bB;cases c with
  |zero=>
   cases Ex.mp x.l;exact Tw.le (first O x hr) (by rw[hr];decide)
  |succ c=>exact Tw.le (more O x hr) ∅
 refine Tw.bind (a:=(some D.base.length,(D.pairs.drop (17*(C+1))).map (cp D.pos))) (s₁:=D.sat (C+1)) (oO:=D.pos) ?_ ?_
 ·refine Tw.forIn (c:=330) _ D.Inv ?_ ?_ _ _ _ _ (Inv.mk (c:=0) (A:=[]) (r:=[]) ⟨rfl,rfl⟩ (jq _))
  ·rintro x rest b s q ⟨c,A,r,t,X,hr,rfl,hx,rfl,rfl⟩;cases t with
   |nil=>cases hx
   |cons y t=>
    refine vI x rest (sG hx) ?_;have er:r.map (cp D.pos)++[((cp D.pos y).1,(cp D.pos y).2)]=(r++[y]).map (cp D.pos):=by rw[il];rfl
    dsimp only;rw[er];by_cases h:(r++[y]).length=17
    ·rw[aX (by rw[bH,h];rfl)];exact⟨_,_,_,Tw.le (c₁:=0+330) (Tw.bind (fl X.push h) Tw.pure) (aN 330),Inv.mk (r:=[]) (X.push.next h) (jq _)⟩
    ·rw[aZ (by rw[bH];simpa using h)];exact⟨_,_,_,Tw.pure.le (jq _),Inv.mk X.push (DY (Nat.lt_of_le_of_ne (by rw[bz];exact pX hr) h))⟩
  ·rintro b s q ⟨c,A,r,t,X,hr,rfl,hx,rfl,rfl⟩;cases List.map_eq_nil_iff.mp hx.symm;obtain⟨rfl,-⟩:=X.last hr hC pJ;rw[X.drop,fV];exact⟨rfl,rfl,rfl⟩
 ·have X:D.Cut (C+1) (D.pairs.take (17*(C+1))) (D.pairs.drop (17*(C+1))) []:=⟨by rw[fV,DP],by rw[sH,pR (fL hC)]⟩;have h15:(D.pairs.drop (17*(C+1))).length<=15:=by rw[uq];exact Nat.sub_le_of_le_add (by rw[ud];exact pJ)
  have hne:D.pairs.drop (17*(C+1))≠[]:=λh=>absurd (List.drop_eq_nil_iff.mp h) (Im.mpr hC);refine Tw.bind (c₁:=400) (c₂:=0) (a:=some D.base.length) (oO:=D.pos) ?_ Tw.pure;refine Tw.le (c₁:=_) ?_ (show 0+(6*(D.pairs.drop (17*(C+1))).length+5)+(13*(D.pairs.drop (17*(C+1))).length+1)<=400 from aF (ue (oH (rY (wR 6 h15) 5) 0) (rY (wR 13 h15) 1)) ∅);have z:=last (k:=λsub x=>do let _ ←holding [.ref D.base.length,x] (runValue (.builtin "proto.let_go" {}))) O X h15;show Tw _ _ _ _ _ _ (if _ then _ else _) _ _ _ _ _;rw[aZ (by simpa using hne)];exact z
end DX
section
theorem Tw.display{base:List Obj}{life:Life}{g:Array GenState}{d:Drawn}{os:OsState}{tk:Nat}{pairs:List (Int×Str)}{C:Nat}
  (oM:n0<=base.length)(hb:sysModules<base.length)(hC:17*(C+1)<pairs.length)(pJ:pairs.length<=17*(C+1)+15)(hz:pairs.length<=900)
  (hnd:(pairs.map λx=>hashInt x.1).Nodup):
  Tw treeTable p w n0 ann (pairs.length*330+400) (dictDisplay (pairs.map (ci pos))) ⟨hp base life [],g,d,tk,os⟩ pos (.ref base.length)
   ⟨hp base life (dO (eE tk (pairs.take (17*(C+1)))++fY (tk+51*(C+1)) (pairs.drop (17*(C+1)))) pairs.length::(pg tk pairs (C+1)++[dO (fY (tk+51*(C+1)) (pairs.drop (17*(C+1)))) (pairs.length-17*(C+1))])),g,d,tk+3*pairs.length,os⟩ pos:=by
 have z:=DX.run (D:=⟨p,w,n0,ann,pos,base,life,g,d,os,tk,pairs⟩) ⟨oM,hb,hz,hnd⟩ hC pJ;have e:17*(C+1)+(pairs.length-17*(C+1))=pairs.length:=Nat.add_sub_cancel' (fL hC);have ht:tk+51*(C+1)+3*(pairs.length-17*(C+1))=tk+3*pairs.length:=by
  rw[rW tk,show 51*(C+1)=3*(17*(C+1)) from(zZ 3 17 _),←Nat.mul_add,e]
 unfold DX.R DX.st at z;dsimp only at z;rw[uq,e,bH,ht,ud 400] at z;exact z
end
abbrev SL(l:List Nat):Str:=⟨l.toArray⟩
noncomputable def S(s:String):Str:=Str.ofString s
noncomputable def cg(p:Program)(i:Nat):Stmt:=(p.main.body[i]?).getD (.Pass default)
def eF(p:Program)(i j:Nat):Stmt:=match cg p i with
 | .ClassDef _ _ _ b .. =>(b[j]?).getD (.Pass default)|s=>s
noncomputable def fdOf(st:Stmt)(name qual:Str)(globals:Addr)(closure:List (Str×Addr))(dflt kwd doc mod:Value)(ann:Option Addr)(code ct:Value)(bi:Addr):FuncData:=match st with
 | .FunctionDef _ a b _ _ _ sc _ _ _=>{name:=name,qualname:=qual,params:=a,body:=.stmts b,scope:=sc,globals:=globals,closure:=closure,defaults:=dflt,kwdefaults:=kwd,doc:=doc,pyModule:=mod,annotations:=ann,code:=code,closureTuple:=ct,builtins:=bi}|_=>default
noncomputable def Q3:Option Expr->Option Int
 |some (.Constant (.int i) _ _)=>some i|_=>none
noncomputable def Q4:Expr->Option Str
 | .Constant (.str s) _ _=>some s|_=>none
theorem Fx{α:Type}{x:α}{P:Prop}(h:none=some x):P:=nomatch h
theorem jt6{k:Option Expr}{i:Int}(h:Q3 k=some i):∃a b,k=some (.Constant (.int i) a b):=by
 cases k with
 |none=>exact Fx h
 |some e=>cases e with
  |Constant c a b=>cases c with
   |int j=>cases h;exact⟨_,_,rfl⟩
   |_=>exact Fx h
  |_=>exact Fx h
theorem juO{k:Expr}{i:Str}(h:Q4 k=some i):∃a b,k=.Constant (.str i) a b:=by
 cases k with
 |Constant c a b=>cases c with
  |str j=>cases h;exact⟨_,_,rfl⟩
  |_=>exact Fx h
 |_=>exact Fx h
def Q5(ks:List (Option Expr))(vs:List Expr):List (Int×Str):=(ks.zip vs).map λx=>((Q3 x.1).getD 0,(Q4 x.2).getD default)
def J7:List (Option Expr)->List Expr->Bool
 |k::ks,v::vs=>(Q3 k).isSome&&(Q4 v).isSome&&J7 ks vs|ks,vs=>ks.isEmpty&&vs.isEmpty
noncomputable def vO:Stmt->List (Option Expr)×List Expr
 | .Assign _ (.Dict ks vs _) _=>(ks,vs)|_=>([],[])
noncomputable def xR:Stmt->Pos×Pos×Pos
 | .Assign [.Name _ a] (.Dict _ _ b) c=>(a,b,c)|_=>(default,default,default)
def jnv(p:Program)(i:Nat):List (Int×Str):=Q5 (vO (cg p i)).1 (vO (cg p i)).2
def J8(tk:Nat)(pairs:List (Int×Str)):List DictEntry:=eE tk (pairs.take 646)++fY (tk+51*38) (pairs.drop 646)
theorem jj3(env:Env)(pos:Pos):∀(ks:List (Option Expr)) (vs:List Expr),J7 ks vs=true->
  (evalEachOpt ks env).zip ((evalEach vs env).map λv=>do let x ←v;standAt pos;pure x)=(Q5 ks vs).map (ci pos):=λks=>ks.rec
  (fun
  |[],_=>rfl
  |_::_,h=>nomatch h)
  λk ks ih'=>fun
  |[],h=>nomatch h
  |v::vs,h=>by
    have ⟨h1,h2⟩:=(eN _ _).mp h;have ⟨h3,h4⟩:=(eN _ _).mp h1;have ih:=ih' vs h2;refine kE (iQ h3) λi hi=>?_;refine kE (iQ h4) λj hj=>?_;refine Bc k (jt6 hi) λa b=>?_;refine Bc v (juO hj) λc d=>?_;exact aU (List.cons _) ih
noncomputable def rising:Int->List (Int×Str)->Bool
 |_,[]=>true|m,x::r=>decide (m<x.1)&&decide (x.1<1000000)&&rising x.1 r
theorem Yc(h0:0<=k)(h1:k<1000000):hashInt k=k:=by
 have e:rawHash k=k:=by
  refine kE (Pj h0) λn bB=>?_;subst bB;have hn:n<1000000:=Int.ofNat_lt.mp h1;have h2:n % (2 ^ 61-1)=n:=Nat.mod_eq_of_lt (qT hn ∅);unfold rawHash;simp only[Int.natAbs_natCast];rw[aZ (Ai.mpr h0)];rw[show((n:Int) % ((2 ^ 61-1:Nat):Int))=(n:Int) by rw[←Pr];exact aU _ h2];rw[aZ (by simp)]
 unfold hashInt;rw[e,aZ (by simp;exact λq=>absurd (q▸h0) ∅)]
theorem Yd:∀{m:Int} {l:List (Int×Str)},0<=m->rising m l=true->∀x∈l,m<x.1/\x.1<1000000
 |_,[],_,_,_,hx=>nomatch hx
 |m,y::r,hm,h,x,hx=>by
  simp only[rising,eN,iw] at h;rcases gO.mp hx with rfl|hx
  ·exact h.1
  ·have:=Yd (jr hm (w6 h.1.1)) h.2 x hx;exact⟨Int.lt_trans h.1.1 this.1,this.2⟩
theorem Ye:∀{m:Int} {l:List (Int×Str)},0<=m->rising m l=true->(l.map λx=>hashInt x.1).Nodup
 |_,[],_,_=>List.nodup_nil
 |m,y::r,hm,h=>by
  have h':=h;simp only[rising,eN,iw] at h;rw[fu];refine List.nodup_cons.mpr ⟨λhmem=>?_,Ye (jr hm (w6 h.1.1)) h.2⟩;refine aH (gY.mp hmem) λx hx e=>?_;have h0:=jr hm (w6 h.1.1);have:=Yd h0 h.2 x hx;rw[Yc (jr h0 (w6 this.1)) this.2,Yc h0 h.1.2] at e;exact Int.lt_irrefl _ (e▸this.1)
section
theorem Tw.jHp(ho:(s.heap.get? mainNs).isSome=true)
  (h:Tw tb p w n0 ann c (k ()) {s with heap:=s.heap.update mainNs g} q a s' q'):Tw tb p w n0 ann (c+1) (.update mainNs t g k) s q a s' q':=by
 refine h.one λK H gd lv b' env f B N=>?_;obtain⟨heap,gens,drawn,toks,os⟩:=s;have hs:stepOk n0 ann ⟨(Sem.update mainNs t g k).wrap K H gd lv,.body b' env,q,f::B⟩=true:=by
  simp only[stepOk,Sem.wrap,Thread.calm,Thread.atCollectorCode,Thread.yieldsInsideHandler];simp
 have ht:through ⟨(Sem.update mainNs t g k).wrap K H gd lv,.body b' env,q,f::B⟩=false:=rfl;rw[XS,ht,hs];show(match (if (heap.get? mainNs).isSome then Step.go _ _ else Step.halt _ _) with| .go s' t'=>topRun tb p w n0 ann N s' t'| .halt _ _=>none)=_;simp only at ho;rw[aX ho]
theorem Tw.jHq(ho:s.heap.get? mainNs=some o)(hd:o.data=.dict es n)(hk:aRefKeyMayBeTheName x es=false):
  Tw tb p w n0 ann 4 (nsSet mainNs x v) s q () {s with heap:=s.heap.update mainNs (Obj.putName x (PyData.keyHash w.params x) (.str x s.toks) v),toks:=s.toks+1} q:=by
 unfold nsSet;refine Tw.bind (c₁:=1) (a:=PyData.keyHash w.params x) (Tw.jH8 Tw.pure) ?_;refine Tw.bind (c₁:=1) (Tw.PQ Tw.pure) ?_;refine Tw.bind (c₁:=1) (c₂:=1) (Tw.Ax ho Tw.pure) ?_;rw[hd];dsimp only;rw[aZ (by rw[hk];decide)];refine Tw.jHp (by rw[ho];rfl) Tw.pure
theorem Tw.jHs{base:List Obj}{g:Array GenState}{d:Drawn}{os:OsState}{tk C:Nat}{x:Str}{p1 p2 p3:Pos}{ks:List (Option PySem.Expr)}{vs:List PySem.Expr}{env:Env}{more:List Obj}{o:Obj}{es:Array DictEntry}{n:Nat}{pairs:List (Int×Str)}
  (hx:storeName env x=nsSet mainNs x)(hs:swapsWith (.Dict ks vs p2) (some (.Name x p1)) p3.line env=Pure.pure false)
  (hc:J7 ks vs=true)(jHB:Q5 ks vs=pairs)(hr:rising 0 pairs=true)(oM:n0<=base.length)(hb:sysModules<base.length)(hC:17*(C+1)<pairs.length)(pJ:pairs.length<=17*(C+1)+15)(hz:pairs.length<=900)
  (hm:more=dO (eE tk (pairs.take (17*(C+1)))++fY (tk+51*(C+1)) (pairs.drop (17*(C+1)))) pairs.length::(pg tk pairs (C+1)++[dO (fY (tk+51*(C+1)) (pairs.drop (17*(C+1)))) (pairs.length-17*(C+1))]))
  (ho:base[mainNs]?=some o)(hd:o.data=.dict es n)(hk:aRefKeyMayBeTheName x es=false):
  Tw treeTable p w n0 ann (pairs.length*330+420) (exec (.Assign [.Name x p1] (.Dict ks vs p2) p3) env) ⟨hp base {} [],g,d,tk,os⟩ q .next
   ⟨(hp base {} more).update mainNs (Obj.putName x (PyData.keyHash w.params x) (.str x (tk+3*pairs.length)) (.ref base.length)),g,d,tk+3*pairs.length+1,os⟩ p1:=by
 rw[exec_Assign_Name env x p1 _ p3 hs];have hg:(hp base {} more).get? mainNs=some o:=by
  have:(base++more)[mainNs]?=some o:=by
   rw[Pz (by
    rcases uZ mainNs base.length with h|h
    ·exact h
    ·rw[List.getElem?_eq_none h] at ho;exact nn ho)]
   exact ho
  obtain⟨oc,od,odt,osl⟩:=o;simp only at hd;subst hd;simp[hp,Heap.get?,this]
 have hev:eval (.Dict ks vs p2) env=(do standAt p2;dictDisplay (pairs.map (ci p2))):=by
  rw[←jHB,←jj3 env p2 ks vs hc];rfl
 rw[hev];have D:=Tw.display (p:=p) (w:=w) (n0:=n0) (ann:=ann) (pos:=p2) (base:=base) (life:={}) (g:=g) (d:=d) (os:=os) (tk:=tk) (pairs:=pairs) (C:=C) oM hb hC pJ hz (Ye (Es 0) hr);rw[←hm] at D;refine Tw.le (c₁:=((((0+((0+1)+4)+1)+1)+(pairs.length*330+400+1))+1)) ?_ (by lia);refine Tw.bind (c₁:=1) (Tw.at_ Tw.pure) ?_;refine Tw.bind (c₁:=pairs.length*330+400+1) (Tw.bind (c₁:=1) (Tw.at_ Tw.pure) D) ?_;refine Tw.bind (c₁:=1) (Tw.at_ Tw.pure) ?_;refine Tw.bind (a:=()) (c₁:=(0+1)+4+1) (c₂:=0) ?_ Tw.pure';unfold bindName;refine Tw.bind (a:=()) (c₁:=1) (c₂:=0+1+4) (Tw.holding (Tw.We Tw.pure)) ?_;rw[hx];exact Tw.bind (Tw.jHq hg hd hk) (Tw.We Tw.pure)
end
theorem jnR{p:Program}{w:World}{n0:Nat}{ann:Option Value}{env:Env}{fq:Pos}{st:Stmt}{rest:List Stmt}{b:List Stmt}{s s' r:Shared}{pos pos':Pos}{c N:Nat}
  (h:Tw treeTable p w n0 ann c (exec st env) s pos .next s' pos')(k:topRun treeTable p w n0 ann N s' (restOf rest env (.body b env) pos' [topFrame fq])=some r):
  topRun treeTable p w n0 ann (N+c) s (restOf (st::rest) env (.body b env) pos [topFrame fq])=some r:=by
 unfold restOf;rw[execs_cons_wrap];exact h _ _ _ _ _ _ _ _ _ _ k
def dw(p:Program)(i j:Nat):Arguments×List Stmt×Scope:=match eF p i j with
 | .FunctionDef _ a b _ _ _ sc _ _ _=>(a,b,sc)|_=>default
def defOf(p:Program)(i:Nat):Arguments×List Stmt×Scope:=match cg p i with
 | .FunctionDef _ a b _ _ _ sc _ _ _=>(a,b,sc)|_=>default
noncomputable abbrev bj:=PySem.Challenge.pw_ta0117_01
noncomputable def mk(sc:Scope)(vals:List (OV)):MF:=⟨sc.names,vals++List.replicate (sc.names.length-vals.length) none⟩
theorem jM{S:Sp}{n:Nat}{params:List Str}{sc:Scope}{body:List Stmt}{l:LV}{η aq:ME}{v:PV}(h:cH (params.map λx=>PySem.Expr.Name x default) l [bQ sc]=some η)(hb:dK (bh S n) η body=some (.ret v,aq)):iU S n params sc body l=some v:=by
 simp only[iU,h,nD,hb]
noncomputable section
noncomputable abbrev pw:Program:=PySem.Challenge.pw_ta0117_01
def jy:List (Int×Str):=jnv pw 10
noncomputable abbrev ao(P:Params)(s:Str)(n:Nat)(v:Value):DictEntry:=⟨PyData.keyHash P s,.str s n,v⟩
abbrev bF:Str:=S "/claim/cut.py"
abbrev ji:Str:=S "cpy313.wsgiref.headers"
abbrev qF:Str:=S "self"
abbrev rD:Str:=S "__doc__"
abbrev rE:Str:=S "law_ta0117_01"
abbrev tC:Str:=S "_sre"
abbrev tD:Str:=S "_wall"
abbrev tE:Str:=S "_iter_escaped_chars"
abbrev tG:Str:=S "_strip_quoted_realnames"
abbrev tH:Str:=S "_check_parenthesis"
abbrev tK:Str:=S "_pre_parse_validation"
abbrev uB:Str:=S "in_table_b1"
abbrev vP:Str:=S "__name__"
abbrev vQ:Str:=S "__package__"
abbrev vR:Str:=S "__loader__"
abbrev vU:Str:=S "__spec__"
abbrev vV:Str:=S "name"
abbrev vW:Str:=S "Headers"
abbrev xT:Str:=S "map_table_b3"
abbrev xU:Str:=S "_formatparam"
abbrev xV:Str:=S "_law_leaf"
abbrev xW:Str:=S "_law_swapped"
abbrev xX:Str:=S "_law_items"
abbrev xY:Str:=S "_law_cut"
abbrev xZ:Str:=S "_law_readings"
abbrev yc:Str:=S "_law_rows"
abbrev yd:Str:=S "_law_due"
abbrev ye:Str:=S "_law_count"
abbrev yf:Str:=S "_law_mixed"
abbrev yg:Str:=S "law"
abbrev Bu:Str:=S "__dict__"
abbrev Bv:Str:=S "__weakref__"
abbrev Bw:Str:=S "__init__"
abbrev Bx:Str:=S "__repr__"
abbrev Fy:Str:=S "__main__"
abbrev Fz:Str:=S "__annotations__"
abbrev FN:Str:=S "__builtins__"
abbrev FP:Str:=S "__file__"
abbrev FQ:Str:=S "__cached__"
abbrev FT:Str:=S "cpy313.stringprep"
abbrev FW:Str:=S "_convert_string_type"
abbrev FZ:Str:=S "__len__"
abbrev Ga:Str:=S "__setitem__"
abbrev Gb:Str:=S "__delitem__"
abbrev Gd:Str:=S "__getitem__"
abbrev Ge:Str:=S "__contains__"
abbrev Gf:Str:=S "get_all"
abbrev Gg:Str:=S "get"
abbrev Gh:Str:=S "keys"
abbrev Gi:Str:=S "values"
abbrev Gj:Str:=S "items"
abbrev Gk:Str:=S "__str__"
abbrev Gl:Str:=S "__bytes__"
abbrev Gm:Str:=S "setdefault"
abbrev Gn:Str:=S "add_header"
abbrev J9:Str:=S "<module>"
abbrev Ka:Str:=S ""
abbrev Kc:Str:=S "__module__"
abbrev Kd:Str:=S "__firstlineno__"
abbrev Ke:Str:=S "__static_attributes__"
abbrev Kg:Str:=S "k"
abbrev Kh:Str:=S "cpy313.email.utils"
abbrev Kl:Str:=S "v"
abbrev Q6:Str:=S "compile"
abbrev Q7:Str:=S "copyright"
abbrev Q8:Str:=S "addr"
abbrev Q9:Str:=S "pos"
abbrev Ra:Str:=S "ch"
abbrev Rb:Str:=S "b1_set"
abbrev Rc:Str:=S "value"
abbrev Rd:Str:=S "Headers.__init__"
abbrev Rf:Str:=S "Headers._convert_string_type"
abbrev Rg:Str:=S "Headers.__len__"
abbrev Rh:Str:=S "Headers.__setitem__"
abbrev Ri:Str:=S "Headers.__delitem__"
abbrev Rj:Str:=S "Headers.__getitem__"
abbrev Rk:Str:=S "Headers.__contains__"
abbrev Rm:Str:=S "Headers.get_all"
abbrev Rn:Str:=S "Headers.get"
abbrev Ro:Str:=S "Headers.keys"
abbrev Rp:Str:=S "Headers.values"
abbrev Rq:Str:=S "Headers.items"
abbrev Rr:Str:=S "Headers.__repr__"
abbrev Rt:Str:=S "Headers.__str__"
abbrev Ru:Str:=S "Headers.__bytes__"
abbrev Rv:Str:=S "Headers.setdefault"
abbrev Rw:Str:=S "Headers.add_header"
abbrev Yg:Str:=S "builtins"
abbrev Yh:Str:=S "template"
abbrev Yi:Str:=S "getcodesize"
abbrev Yj:Str:=S "ascii_iscased"
abbrev Yk:Str:=S "unicode_iscased"
abbrev Yl:Str:=S "ascii_tolower"
abbrev Ym:Str:=S "unicode_tolower"
abbrev Yn:Str:=S "MAGIC"
abbrev Yo:Str:=S "CODESIZE"
abbrev Yp:Str:=S "MAXREPEAT"
abbrev Yq:Str:=S "MAXGROUPS"
abbrev Yr:Str:=S " SRE 2.2.2 Copyright (c) 1997-2002 by Secret Labs AB "
abbrev Ys:Str:=S "_frozen_importlib"
abbrev Yt:Str:=S "built-in"
abbrev Yu:Str:=S "BuiltinImporter"
abbrev Yv:Str:=S "loader"
abbrev Yw:Str:=S "origin"
abbrev Yx:Str:=S "loader_state"
abbrev Yy:Str:=S "submodule_search_locations"
abbrev Yz:Str:=S "_uninitialized_submodules"
abbrev YB:Str:=S "_set_fileattr"
abbrev YC:Str:=S "_cached"
abbrev YD:Str:=S "ModuleSpec"
abbrev YF:Str:=S "code"
abbrev YH:Str:=S "b3_exceptions"
abbrev YJ:Str:=S "word"
abbrev dR(j:Nat):Obj:=dO (eE (401+51*(j+1)) ((jy.drop (17*(j+1))).take 17)) 17
noncomputable abbrev aB(o:Obj):BT:=.node o .nil .nil
noncomputable abbrev aj(o:Obj)(l r:BT):BT:=.node o l r
noncomputable abbrev aP(T:String)(d:Data):Obj:=⟨.type T,none,d,#[]⟩
noncomputable abbrev dg(d:Data):Obj:=⟨.none,none,d,#[]⟩
abbrev eG(st:Stmt)(a b:Str):FuncData:=fdOf st a b 0 [] .none .none .none .none none .none .none 0
def o0(P:Params):Obj:=aP "dict" (.dict ([(ao P vP 1 (.str Yg 160)),(ao P rD 2 (.builtin "builtins.__doc__:str#opaque")),(ao P vQ 3 (.builtin "builtins.__package__:str#opaque")),(ao P vR 4 (.builtin "builtins.__loader__:shared#opaque")),(ao P vU 5 (.builtin "builtins.__spec__#opaque")),(ao P (S "__build_class__") 6 (.builtin "__build_class__")),(ao P (S "__import__") 7 (.builtin "__import__")),(ao P (S "abs") 8 (.builtin "abs")),(ao P (S "all") 9 (.builtin "all")),(ao P (S "any") 10 (.builtin "any")),(ao P (S "ascii") 11 (.builtin "ascii")),(ao P (S "bin") 12 (.builtin "bin")),(ao P (S "breakpoint") 13 (.builtin "breakpoint")),(ao P (S "callable") 14 (.builtin "callable")),(ao P (S "chr") 15 (.builtin "chr")),(ao P Q6 16 (.builtin "compile")),(ao P (S "delattr") 17 (.builtin "delattr")),(ao P (S "dir") 18 (.builtin "dir")),(ao P (S "divmod") 19 (.builtin "divmod")),(ao P (S "eval") 20 (.builtin "eval")),(ao P (S "exec") 21 (.builtin "exec")),(ao P (S "format") 22 (.builtin "format")),(ao P (S "getattr") 23 (.builtin "getattr")),(ao P (S "globals") 24 (.builtin "globals")),(ao P (S "hasattr") 25 (.builtin "hasattr")),(ao P (S "hash") 26 (.builtin "hash")),(ao P (S "hex") 27 (.builtin "hex")),(ao P (S "id") 28 (.builtin "id")),(ao P (S "input") 29 (.builtin "input")),(ao P (S "isinstance") 30 (.builtin "isinstance")),(ao P (S "issubclass") 31 (.builtin "issubclass")),(ao P (S "iter") 32 (.builtin "iter")),(ao P (S "aiter") 33 (.builtin "aiter")),(ao P (S "len") 34 (.builtin "len")),(ao P (S "locals") 35 (.builtin "locals")),(ao P (S "max") 36 (.builtin "max")),(ao P (S "min") 37 (.builtin "min")),(ao P (S "next") 38 (.builtin "next")),(ao P (S "anext") 39 (.builtin "anext")),(ao P (S "oct") 40 (.builtin "oct")),(ao P (S "ord") 41 (.builtin "ord")),(ao P (S "pow") 42 (.builtin "pow")),(ao P (S "print") 43 (.builtin "print")),(ao P (S "repr") 44 (.builtin "repr")),(ao P (S "round") 45 (.builtin "round")),(ao P (S "setattr") 46 (.builtin "setattr")),(ao P (S "sorted") 47 (.builtin "sorted")),(ao P (S "sum") 48 (.builtin "sum")),(ao P (S "vars") 49 (.builtin "vars")),(ao P (S "None") 50 .none),(ao P (S "Ellipsis") 51 .ellipsis),(ao P (S "NotImplemented") 52 .notImplemented),(ao P (S "False") 53 (.bool false)),(ao P (S "True") 54 (.bool true)),(ao P (S "bool") 55 (.type "bool")),(ao P (S "memoryview") 56 (.type "memoryview")),(ao P (S "bytearray") 57 (.type "bytearray")),(ao P (S "bytes") 58 (.type "bytes")),(ao P (S "classmethod") 59 (.type "classmethod")),(ao P (S "complex") 60 (.type "complex")),(ao P (S "dict") 61 (.type "dict")),(ao P (S "enumerate") 62 (.type "enumerate")),(ao P (S "filter") 63 (.type "filter")),(ao P (S "float") 64 (.type "float")),(ao P (S "frozenset") 65 (.type "frozenset")),(ao P (S "property") 66 (.type "property")),(ao P (S "int") 67 (.type "int")),(ao P (S "list") 68 (.type "list")),(ao P (S "map") 69 (.type "map")),(ao P (S "object") 70 (.type "object")),(ao P (S "range") 71 (.type "range")),(ao P (S "reversed") 72 (.type "reversed")),(ao P (S "set") 73 (.type "set")),(ao P (S "slice") 74 (.type "slice")),(ao P (S "staticmethod") 75 (.type "staticmethod")),(ao P (S "str") 76 (.type "str")),(ao P (S "super") 77 (.type "super")),(ao P (S "tuple") 78 (.type "tuple")),(ao P (S "type") 79 (.type "type")),(ao P (S "zip") 80 (.type "zip")),(ao P (S "__debug__") 81 (.bool true)),(ao P (S "BaseException") 82 (.type "BaseException")),(ao P (S "BaseExceptionGroup") 83 (.type "BaseExceptionGroup")),(ao P (S "Exception") 84 (.type "Exception")),(ao P (S "GeneratorExit") 85 (.type "GeneratorExit")),(ao P (S "KeyboardInterrupt") 86 (.type "KeyboardInterrupt")),(ao P (S "SystemExit") 87 (.type "SystemExit")),(ao P (S "ArithmeticError") 88 (.type "ArithmeticError")),(ao P (S "AssertionError") 89 (.type "AssertionError")),(ao P (S "AttributeError") 90 (.type "AttributeError")),(ao P (S "BufferError") 91 (.type "BufferError")),(ao P (S "EOFError") 92 (.type "EOFError")),(ao P (S "ImportError") 93 (.type "ImportError")),(ao P (S "LookupError") 94 (.type "LookupError")),(ao P (S "MemoryError") 95 (.type "MemoryError")),(ao P (S "NameError") 96 (.type "NameError")),(ao P (S "OSError") 97 (.type "OSError")),(ao P (S "ReferenceError") 98 (.type "ReferenceError")),(ao P (S "RuntimeError") 99 (.type "RuntimeError")),(ao P (S "StopAsyncIteration") 100 (.type "StopAsyncIteration")),(ao P (S "StopIteration") 101 (.type "StopIteration")),(ao P (S "SyntaxError") 102 (.type "SyntaxError")),(ao P (S "SystemError") 103 (.type "SystemError")),(ao P (S "TypeError") 104 (.type "TypeError")),(ao P (S "ValueError") 105 (.type "ValueError")),(ao P (S "Warning") 106 (.type "Warning")),(ao P (S "FloatingPointError") 107 (.type "FloatingPointError")),(ao P (S "OverflowError") 108 (.type "OverflowError")),(ao P (S "ZeroDivisionError") 109 (.type "ZeroDivisionError")),(ao P (S "BytesWarning") 110 (.type "BytesWarning")),(ao P (S "DeprecationWarning") 111 (.type "DeprecationWarning")),(ao P (S "EncodingWarning") 112 (.type "EncodingWarning")),(ao P (S "FutureWarning") 113 (.type "FutureWarning")),(ao P (S "ImportWarning") 114 (.type "ImportWarning")),(ao P (S "PendingDeprecationWarning") 115 (.type "PendingDeprecationWarning")),(ao P (S "ResourceWarning") 116 (.type "ResourceWarning")),(ao P (S "RuntimeWarning") 117 (.type "RuntimeWarning")),(ao P (S "SyntaxWarning") 118 (.type "SyntaxWarning")),(ao P (S "UnicodeWarning") 119 (.type "UnicodeWarning")),(ao P (S "UserWarning") 120 (.type "UserWarning")),(ao P (S "BlockingIOError") 121 (.type "BlockingIOError")),(ao P (S "ChildProcessError") 122 (.type "ChildProcessError")),(ao P (S "ConnectionError") 123 (.type "ConnectionError")),(ao P (S "FileExistsError") 124 (.type "FileExistsError")),(ao P (S "FileNotFoundError") 125 (.type "FileNotFoundError")),(ao P (S "InterruptedError") 126 (.type "InterruptedError")),(ao P (S "IsADirectoryError") 127 (.type "IsADirectoryError")),(ao P (S "NotADirectoryError") 128 (.type "NotADirectoryError")),(ao P (S "PermissionError") 129 (.type "PermissionError")),(ao P (S "ProcessLookupError") 130 (.type "ProcessLookupError")),(ao P (S "TimeoutError") 131 (.type "TimeoutError")),(ao P (S "IndentationError") 132 (.type "IndentationError")),(ao P (S "_IncompleteInputError") 133 (.type "_IncompleteInputError")),(ao P (S "IndexError") 134 (.type "IndexError")),(ao P (S "KeyError") 135 (.type "KeyError")),(ao P (S "ModuleNotFoundError") 136 (.type "ModuleNotFoundError")),(ao P (S "NotImplementedError") 137 (.type "NotImplementedError")),(ao P (S "PythonFinalizationError") 138 (.type "PythonFinalizationError")),(ao P (S "RecursionError") 139 (.type "RecursionError")),(ao P (S "UnboundLocalError") 140 (.type "UnboundLocalError")),(ao P (S "UnicodeError") 141 (.type "UnicodeError")),(ao P (S "BrokenPipeError") 142 (.type "BrokenPipeError")),(ao P (S "ConnectionAbortedError") 143 (.type "ConnectionAbortedError")),(ao P (S "ConnectionRefusedError") 144 (.type "ConnectionRefusedError")),(ao P (S "ConnectionResetError") 145 (.type "ConnectionResetError")),(ao P (S "TabError") 146 (.type "TabError")),(ao P (S "UnicodeDecodeError") 147 (.type "UnicodeDecodeError")),(ao P (S "UnicodeEncodeError") 148 (.type "UnicodeEncodeError")),(ao P (S "UnicodeTranslateError") 149 (.type "UnicodeTranslateError")),(ao P (S "ExceptionGroup") 150 (.type "ExceptionGroup")),(ao P (S "EnvironmentError") 151 (.type "OSError")),(ao P (S "IOError") 152 (.type "OSError")),(ao P (S "open") 153 (.builtin "open")),(ao P (S "quit") 154 (.builtin "builtins.quit#opaque")),(ao P (S "exit") 155 (.builtin "builtins.exit#opaque")),(ao P Q7 156 (.builtin "builtins.copyright#opaque")),(ao P (S "credits") 157 (.builtin "builtins.credits#opaque")),(ao P (S "license") 158 (.builtin "builtins.license#opaque")),(ao P (S "help") 159 (.builtin "builtins.help#opaque"))]).toArray 159)
def o1(P:Params):Obj:=aP "dict" (.dict ([(ao P Yg 162 (.ref 4)),(ao P Fy 163 (.ref 5)),(ao P tC 244 (.ref 12))]).toArray 3)
def o2(P:Params):Obj:=dg (.dict ([(ao P (SL [105,109,112,111,114,116,46,108,111,97,100,101,100,46,95,115,114,101]) 183 (.bool true)),(ao P (S "class._frozen_importlib.BuiltinImporter") 185 (.ref 14)),(ao P (SL [119,97,116,99,104,101,100,46,105,109,112,111,114,116]) 206 (.ref 18)),(ao P (S "class._frozen_importlib.ModuleSpec") 216 (.ref 22)),(ao P (S "sys.modules.booked-epoch") 245 (.int 3 0)),(ao P (SL [105,109,112,111,114,116,46,108,97,116,101,114,45,108,97,105,100,46,95,115,114,101]) 270 (.bool true)),(ao P (S "watched.library") 272 (.ref 27)),(ao P (S "watched.library-objects") 0 (.str (S "\x0c") 0)),(ao P (S "watched.library-deep._sre") 273 (.str (S "\x04\x00\x00\x0b\x04\x00\x00\x0b\x04\x00\x00\x03\x04\x00\x00\x0b\x08\x04dict\x02") 0))]).toArray 9)
def o3(P:Params):Obj:=aP "dict" (.dict ([(ao P vP 165 (.str Fy 164)),(ao P rD 166 .none),(ao P vQ 167 .none),(ao P vR 168 (.builtin "__main__.__loader__#opaque")),(ao P vU 169 .none),(ao P Fz 170 (.ref 6)),(ao P FN 171 (.ref 4)),(ao P FP 173 (.str bF 172)),(ao P FQ 174 .none),(ao P tC 275 (.ref 12))]).toArray 10)
noncomputable def o4:Obj:=⟨(.type "module"),(some 0),.plain,#[]⟩
noncomputable def o5:Obj:=⟨(.type "module"),(some 3),.plain,#[]⟩
def o6:Obj:=aP "dict" (.dict ([]).toArray 0)
def o7:Obj:=aP "tuple" (.seq ([]).toArray 0)
def o8:Obj:=dg (.fields ([]).toArray)
def o9:Obj:=aP "code" (.fields ([.str J9 176,.str J9 177,.str bF 178,.int 1 0,.int 0 0,.int 0 0,.int 0 0,.int 0 0,.ref 7,.bool false,.int 175 0,.ref 8,.none,.none,.none,.none,.int 179 0,.int 1 0,.str bF 180]).toArray)
def yh:Obj:=⟨(.type "frame"),none,.plain,([(some (.ref 9)),(some (.ref 3)),(some (.ref 3)),none,(some (.str Fy 164)),none,(some (.ref 0))]).toArray⟩
def By(P:Params):Obj:=aP "dict" (.dict ([(ao P vP 247 (.str tC 246)),(ao P rD 248 .none),(ao P vQ 250 (.str Ka 249)),(ao P vR 251 (.builtin "off-the-table:_sre.__loader__:shared#opaque")),(ao P vU 252 (.builtin "off-the-table:_sre.__spec__:shared#opaque")),(ao P Q6 253 (.builtin "_sre.compile")),(ao P Yh 254 (.builtin "off-the-table:_sre.template:shared#opaque")),(ao P Yi 255 (.builtin "off-the-table:_sre.getcodesize:shared#opaque")),(ao P Yj 256 (.builtin "off-the-table:_sre.ascii_iscased:shared#opaque")),(ao P Yk 257 (.builtin "off-the-table:_sre.unicode_iscased:shared#opaque")),(ao P Yl 258 (.builtin "off-the-table:_sre.ascii_tolower:shared#opaque")),(ao P Ym 259 (.builtin "off-the-table:_sre.unicode_tolower:shared#opaque")),(ao P Yn 261 (.int 20230612 260)),(ao P Yo 263 (.int 4 262)),(ao P Yp 265 (.int 4294967295 264)),(ao P Yq 267 (.int 1073741823 266)),(ao P Q7 269 (.str Yr 268))]).toArray 17)
noncomputable def yj:Obj:=⟨(.type "module"),(some 11),.plain,#[]⟩
def yl(P:Params):Obj:=aP "dict" (.dict ([(ao P Kc 189 (.str Ys 186)),(ao P Kd 190 (.int 971 187)),(ao P rD 191 (.builtin "_frozen_importlib.BuiltinImporter.__doc__:str#opaque")),(ao P (S "_ORIGIN") 192 (.str Yt 188)),(ao P (S "find_spec") 193 (.builtin "_frozen_importlib.BuiltinImporter.find_spec#opaque")),(ao P (S "create_module") 194 (.builtin "_frozen_importlib.BuiltinImporter.create_module#opaque")),(ao P (S "exec_module") 195 (.builtin "_frozen_importlib.BuiltinImporter.exec_module#opaque")),(ao P (S "get_code") 196 (.builtin "_frozen_importlib.BuiltinImporter.get_code#opaque")),(ao P (S "get_source") 197 (.builtin "_frozen_importlib.BuiltinImporter.get_source#opaque")),(ao P (S "is_package") 198 (.builtin "_frozen_importlib.BuiltinImporter.is_package#opaque")),(ao P (S "load_module") 199 (.builtin "_frozen_importlib.BuiltinImporter.load_module#opaque")),(ao P Ke 200 (.ref 15)),(ao P Bu 202 (.ref 16)),(ao P Bv 204 (.ref 17))]).toArray 14)
def ym:Obj:=aP "type" (.cls ⟨Yu,[(.type "object")],[.ref 14,(.type "object")],13,Yu,true,[],[],false,none,false⟩)
def yo:Obj:=aP "getset_descriptor" (.fields ([.str Bu 201,.ref 14,(.builtin "function.__dict__"),(.builtin "function.__dict__#set")]).toArray)
def yq:Obj:=aP "getset_descriptor" (.fields ([.str Bv 203,.ref 14,(.builtin "ExceptionGroup.__weakref__"),.none]).toArray)
def yr:Obj:=dg (.seq ([.int 13 0,(.str (SL [6,189,10,95,95,109,111,100,117,108,101,95,95,6,186,17,95,102,114,111,122,101,110,95,105,109,112,111,114,116,108,105,98,6,190,15,95,95,102,105,114,115,116,108,105,110,101,110,111,95,95,4,187,0,971,6,191,7,95,95,100,111,99,95,95,9,52,95,102,114,111,122,101,110,95,105,109,112,111,114,116,108,105,98,46,66,117,105,108,116,105,110,73,109,112,111,114,116,101,114,46,95,95,100,111,99,95,95,58,115,116,114,35,111,112,97,113,117,101,6,192,7,95,79,82,73,71,73,78,6,188,8,98,117,105,108,116,45,105,110,6,193,9,102,105,110,100,95,115,112,101,99,9,50,95,102,114,111,122,101,110,95,105,109,112,111,114,116,108,105,98,46,66,117,105,108,116,105,110,73,109,112,111,114,116,101,114,46,102,105,110,100,95,115,112,101,99,35,111,112,97,113,117,101,6,194,13,99,114,101,97,116,101,95,109,111,100,117,108,101,9,54,95,102,114,111,122,101,110,95,105,109,112,111,114,116,108,105,98,46,66,117,105,108,116,105,110,73,109,112,111,114,116,101,114,46,99,114,101,97,116,101,95,109,111,100,117,108,101,35,111,112,97,113,117,101,6,195,11,101,120,101,99,95,109,111,100,117,108,101,9,52,95,102,114,111,122,101,110,95,105,109,112,111,114,116,108,105,98,46,66,117,105,108,116,105,110,73,109,112,111,114,116,101,114,46,101,120,101,99,95,109,111,100,117,108,101,35,111,112,97,113,117,101,6,196,8,103,101,116,95,99,111,100,101,9,49,95,102,114,111,122,101,110,95,105,109,112,111,114,116,108,105,98,46,66,117,105,108,116,105,110,73,109,112,111,114,116,101,114,46,103,101,116,95,99,111,100,101,35,111,112,97,113,117,101,6,197,10,103,101,116,95,115,111,117,114,99,101,9,51,95,102,114,111,122,101,110,95,105,109,112,111,114,116,108,105,98,46,66,117,105,108,116,105,110,73,109,112,111,114,116,101,114,46,103,101,116,95,115,111,117,114,99,101,35,111,112,97,113,117,101,6,198,10,105,115,95,112,97,99,107,97,103,101,9,51,95,102,114,111,122,101,110,95,105,109,112,111,114,116,108,105,98,46,66,117,105,108,116,105,110,73,109,112,111,114,116,101,114,46,105,115,95,112,97,99,107,97,103,101,35,111,112,97,113,117,101,6,199,11,108,111,97,100,95,109,111,100,117,108,101,9,52,95,102,114,111,122,101,110,95,105,109,112,111,114,116,108,105,98,46,66,117,105,108,116,105,110,73,109,112,111,114,116,101,114,46,108,111,97,100,95,109,111,100,117,108,101,35,111,112,97,113,117,101,6,200,21,95,95,115,116,97,116,105,99,95,97,116,116,114,105,98,117,116,101,115,95,95,4,0,0,15,6,202,8,95,95,100,105,99,116,95,95,4,0,0,16,6,204,11,95,95,119,101,97,107,114,101,102,95,95,4,0,0,17]) 0),.bool true,.bool true,.str Ka 205,.int 21 0,(.str (SL [6,227,10,95,95,109,111,100,117,108,101,95,95,6,217,17,95,102,114,111,122,101,110,95,105,109,112,111,114,116,108,105,98,6,228,15,95,95,102,105,114,115,116,108,105,110,101,110,111,95,95,4,218,0,562,6,229,7,95,95,100,111,99,95,95,9,47,95,102,114,111,122,101,110,95,105,109,112,111,114,116,108,105,98,46,77,111,100,117,108,101,83,112,101,99,46,95,95,100,111,99,95,95,58,115,116,114,35,111,112,97,113,117,101,6,230,8,95,95,105,110,105,116,95,95,9,44,95,102,114,111,122,101,110,95,105,109,112,111,114,116,108,105,98,46,77,111,100,117,108,101,83,112,101,99,46,95,95,105,110,105,116,95,95,35,111,112,97,113,117,101,6,231,8,95,95,114,101,112,114,95,95,9,44,95,102,114,111,122,101,110,95,105,109,112,111,114,116,108,105,98,46,77,111,100,117,108,101,83,112,101,99,46,95,95,114,101,112,114,95,95,35,111,112,97,113,117,101,6,232,6,95,95,101,113,95,95,9,42,95,102,114,111,122,101,110,95,105,109,112,111,114,116,108,105,98,46,77,111,100,117,108,101,83,112,101,99,46,95,95,101,113,95,95,35,111,112,97,113,117,101,6,233,6,99,97,99,104,101,100,9,42,95,102,114,111,122,101,110,95,105,109,112,111,114,116,108,105,98,46,77,111,100,117,108,101,83,112,101,99,46,99,97,99,104,101,100,35,111,112,97,113,117,101,6,234,6,112,97,114,101,110,116,9,42,95,102,114,111,122,101,110,95,105,109,112,111,114,116,108,105,98,46,77,111,100,117,108,101,83,112,101,99,46,112,97,114,101,110,116,35,111,112,97,113,117,101,6,235,12,104,97,115,95,108,111,99,97,116,105,111,110,9,48,95,102,114,111,122,101,110,95,105,109,112,111,114,116,108,105,98,46,77,111,100,117,108,101,83,112,101,99,46,104,97,115,95,108,111,99,97,116,105,111,110,35,111,112,97,113,117,101,6,236,21,95,95,115,116,97,116,105,99,95,97,116,116,114,105,98,117,116,101,115,95,95,4,0,0,23,6,238,8,95,95,100,105,99,116,95,95,4,0,0,24,6,240,11,95,95,119,101,97,107,114,101,102,95,95,4,0,0,25,6,241,8,95,95,104,97,115,104,95,95,0]) 0),.bool true,.bool true,.str Ka 242]).toArray 1)
def yt:Obj:=aP "list" (.seq ([]).toArray 0)
def yu(P:Params):Obj:=aP "dict" (.dict ([(ao P vV 208 (.str tC 207)),(ao P Yv 209 (.ref 14)),(ao P Yw 210 (.str Yt 184)),(ao P Yx 211 .none),(ao P Yy 212 .none),(ao P Yz 213 (.ref 19)),(ao P YB 214 (.bool false)),(ao P YC 215 .none),(ao P (S "_initializing") 243 (.bool false))]).toArray 9)
def yw(P:Params):Obj:=aP "dict" (.dict ([(ao P Kc 227 (.str Ys 217)),(ao P Kd 228 (.int 562 218)),(ao P rD 229 (.builtin "_frozen_importlib.ModuleSpec.__doc__:str#opaque")),(ao P Bw 230 (.builtin "_frozen_importlib.ModuleSpec.__init__#opaque")),(ao P Bx 231 (.builtin "_frozen_importlib.ModuleSpec.__repr__#opaque")),(ao P (S "__eq__") 232 (.builtin "_frozen_importlib.ModuleSpec.__eq__#opaque")),(ao P (S "cached") 233 (.builtin "_frozen_importlib.ModuleSpec.cached#opaque")),(ao P (S "parent") 234 (.builtin "_frozen_importlib.ModuleSpec.parent#opaque")),(ao P (S "has_location") 235 (.builtin "_frozen_importlib.ModuleSpec.has_location#opaque")),(ao P Ke 236 (.ref 23)),(ao P Bu 238 (.ref 24)),(ao P Bv 240 (.ref 25)),(ao P (S "__hash__") 241 .none)]).toArray 13)
def yx:Obj:=aP "type" (.cls ⟨YD,[(.type "object")],[.ref 22,(.type "object")],21,YD,true,[],[],false,none,false⟩)
def yz:Obj:=aP "tuple" (.seq ([.str YC 219,.str YB 220,.str Yz 221,.str Yv 222,.str Yx 223,.str vV 224,.str Yw 225,.str Yy 226]).toArray 0)
def yC:Obj:=aP "getset_descriptor" (.fields ([.str Bu 237,.ref 22,(.builtin "function.__dict__"),(.builtin "function.__dict__#set")]).toArray)
def yD:Obj:=aP "getset_descriptor" (.fields ([.str Bv 239,.ref 22,(.builtin "ExceptionGroup.__weakref__"),.none]).toArray)
noncomputable def yE:Obj:=⟨.ref 22,(some 20),.plain,#[]⟩
def yF:Obj:=dg (.seq ([.int 11 0,(.str (SL [6,247,8,95,95,110,97,109,101,95,95,6,246,4,95,115,114,101,6,248,7,95,95,100,111,99,95,95,0,6,250,11,95,95,112,97,99,107,97,103,101,95,95,6,249,0,6,251,10,95,95,108,111,97,100,101,114,95,95,4,0,0,14,6,252,8,95,95,115,112,101,99,95,95,4,0,0,26,6,253,7,99,111,109,112,105,108,101,9,12,95,115,114,101,46,99,111,109,112,105,108,101,6,254,8,116,101,109,112,108,97,116,101,9,13,95,115,114,101,46,116,101,109,112,108,97,116,101,6,255,11,103,101,116,99,111,100,101,115,105,122,101,9,16,95,115,114,101,46,103,101,116,99,111,100,101,115,105,122,101,6,256,13,97,115,99,105,105,95,105,115,99,97,115,101,100,9,18,95,115,114,101,46,97,115,99,105,105,95,105,115,99,97,115,101,100,6,257,15,117,110,105,99,111,100,101,95,105,115,99,97,115,101,100,9,20,95,115,114,101,46,117,110,105,99,111,100,101,95,105,115,99,97,115,101,100,6,258,13,97,115,99,105,105,95,116,111,108,111,119,101,114,9,18,95,115,114,101,46,97,115,99,105,105,95,116,111,108,111,119,101,114,6,259,15,117,110,105,99,111,100,101,95,116,111,108,111,119,101,114,9,20,95,115,114,101,46,117,110,105,99,111,100,101,95,116,111,108,111,119,101,114,6,261,5,77,65,71,73,67,4,260,0,20230612,6,263,8,67,79,68,69,83,73,90,69,4,262,0,4,6,265,9,77,65,88,82,69,80,69,65,84,4,264,0,4294967295,6,267,9,77,65,88,71,82,79,85,80,83,4,266,0,1073741823,6,269,9,99,111,112,121,114,105,103,104,116,6,268,53,32,83,82,69,32,50,46,50,46,50,32,67,111,112,121,114,105,103,104,116,32,40,99,41,32,49,57,57,55,45,50,48,48,50,32,98,121,32,83,101,99,114,101,116,32,76,97,98,115,32,65,66,32]) 0),.bool true,.bool false,.str tC 271]).toArray 0)
def YK(P:Params):BT:=(aj (o0 P) (aj (o1 P) (aj (o3 P) (aj o7 (aB o7) (aB yz)) (aj (By P) (aB yt) (aB yF))) (aj o5 (aj o9 (aB yq) (aB yD)) (aj (yl P) (aB (yw P)) .nil))) (aj (o2 P) (aj o4 (aj o8 (aB yo) (aB yC)) (aj yj (aB (yu P)) .nil)) (aj o6 (aj yh (aB yr) (aB yE)) (aj ym (aB yx) .nil))))
def o27(P:Params):Obj:=aP "dict" (.dict ([(ao P vP 247 (.str tC 246)),(ao P rD 248 .none),(ao P vQ 250 (.str Ka 249)),(ao P vR 251 (.ref 14)),(ao P vU 252 (.ref 26)),(ao P Q6 253 (.builtin "_sre.compile")),(ao P Yh 254 (.builtin "_sre.template")),(ao P Yi 255 (.builtin "_sre.getcodesize")),(ao P Yj 256 (.builtin "_sre.ascii_iscased")),(ao P Yk 257 (.builtin "_sre.unicode_iscased")),(ao P Yl 258 (.builtin "_sre.ascii_tolower")),(ao P Ym 259 (.builtin "_sre.unicode_tolower")),(ao P Yn 261 (.int 20230612 260)),(ao P Yo 263 (.int 4 262)),(ao P Yp 265 (.int 4294967295 264)),(ao P Yq 267 (.int 1073741823 266)),(ao P Q7 269 (.str Yr 268))]).toArray 17)
def treeE(P:Params):BT:=(aj (o0 P) (aj (o1 P) (aj (o3 P) (aj o7 (aB o7) (aB yz)) (aj (o27 P) (aB yt) (aB yF))) (aj o5 (aj o9 (aB yq) (aB yD)) (aj (yl P) (aB (yw P)) .nil))) (aj (o2 P) (aj o4 (aj o8 (aB yo) (aB yC)) (aj yj (aB (yu P)) .nil)) (aj o6 (aj yh (aB yr) (aB yE)) (aj ym (aB yx) .nil))))
def Gp:Obj:=aP "code" (.fields ([.str J9 277,.str J9 278,.str bF 279,.int 1 0,.int 0 0,.int 0 0,.int 0 0,.int 0 0,.ref 28,.bool false,.int 276 0,.ref 29,.none,.none,.none,.none,.int 280 0,.int 1 0,.str bF 281]).toArray)
def Gq:Obj:=⟨(.type "frame"),none,.plain,([(some (.ref 30)),(some (.ref 3)),(some (.ref 3)),none,(some (.str Fy 164)),none,(some (.ref 0))]).toArray⟩
def YL(P:Params):BT:=(aj (o0 P) (aj (o1 P) (aj (o3 P) (aj o7 (aj o7 (aB Gq) .nil) (aB yz)) (aj (By P) (aB yt) (aB yF))) (aj o5 (aj o9 (aB yq) (aB yD)) (aj (yl P) (aB (yw P)) (aB o8)))) (aj (o2 P) (aj o4 (aj o8 (aB yo) (aB yC)) (aj yj (aB (yu P)) (aB o7))) (aj o6 (aj yh (aB yr) (aB yE)) (aj ym (aB yx) (aB Gp)))))
def jzU(P:Params):BT:=YL P
def o30(P:Params):Obj:=aP "dict" (.dict ([(ao P vP 165 (.str FT 332)),(ao P rD 166 .none),(ao P vQ 167 .none),(ao P vR 168 (.builtin "__main__.__loader__#opaque")),(ao P vU 169 .none),(ao P Fz 170 (.ref 6)),(ao P FN 171 (.ref 4)),(ao P FP 173 (.str bF 172)),(ao P FQ 174 .none),(ao P tC 275 (.ref 12)),(ao P tD 288 (.ref 38)),(ao P tE 300 (.ref 45)),(ao P tG 312 (.ref 52)),(ao P tH 322 (.ref 59)),(ao P tK 331 (.ref 66))]).toArray 15)
def o31:Obj:=dg (.fields ([.int 2 0,.int 0 0,.ref 37,.int 6 0,.int 0 0,.ref 44,.int 19 0,.int 0 0,.ref 51,.int 37 0,.int 0 0,.ref 58,.int 48 0,.int 0 0,.ref 65]).toArray)
def Km:Obj:=aP "tuple" (.seq ([.str Kg 285]).toArray 0)
def Ko:Obj:=dg (.func (eG (cg pw 1) tD tD))
def Kq:Obj:=aP "code" (.fields ([.str tD 282,.str tD 283,.str bF 284,.int 2 0,.int 1 0,.int 0 0,.int 0 0,.int 3 0,.ref 32,.bool true,.int 276 0,.ref 33,.none,.ref 34,.ref 35,.ref 36,.int 286 0,.int 2 0,.str bF 287]).toArray)
def Kr:Obj:=aP "function" (.func (fdOf (cg pw 1) tD tD 3 [] .none .none .none (.str Fy 164) none (.ref 37) .none 0))
def Ks:Obj:=aP "tuple" (.seq ([.str Q8 294,.str Q9 295,(.str (S "escape") 296),.str Ra 297]).toArray 0)
def Ku:Obj:=dg (.func (eG (cg pw 3) tE tE))
def Kv:Obj:=aP "code" (.fields ([.str tE 291,.str tE 292,.str bF 293,.int 6 0,.int 1 0,.int 0 0,.int 0 0,.int 35 0,.ref 39,.bool true,.int 276 0,.ref 40,.none,.ref 41,.ref 42,.ref 43,.int 298 0,.int 6 0,.str bF 299]).toArray)
def Kw:Obj:=aP "function" (.func (fdOf (cg pw 3) tE tE 3 [] .none .none .none (.str Kh 289) none (.ref 44) .none 0))
def Ky:Obj:=aP "tuple" (.seq ([.str Q8 304,(.str (S "start") 305),(.str (S "open_pos") 306),(.str (S "result") 307),.str Q9 308,.str Ra 309]).toArray 0)
def Kz:Obj:=dg (.func (eG (cg pw 4) tG tG))
def KC:Obj:=aP "code" (.fields ([.str tG 301,.str tG 302,.str bF 303,.int 19 0,.int 1 0,.int 0 0,.int 0 0,.int 3 0,.ref 46,.bool true,.int 276 0,.ref 47,.none,.ref 48,.ref 49,.ref 50,.int 310 0,.int 19 0,.str bF 311]).toArray)
def KD:Obj:=aP "function" (.func (fdOf (cg pw 4) tG tG 3 [] .none .none .none (.str Kh 289) none (.ref 51) .none 0))
def KH:Obj:=aP "tuple" (.seq ([.str Q8 316,(.str (S "opens") 317),.str Q9 318,.str Ra 319]).toArray 0)
def KJ:Obj:=dg (.func (eG (cg pw 5) tH tH))
def KN:Obj:=aP "code" (.fields ([.str tH 313,.str tH 314,.str bF 315,.int 37 0,.int 1 0,.int 0 0,.int 0 0,.int 3 0,.ref 53,.bool true,.int 276 0,.ref 54,.none,.ref 55,.ref 56,.ref 57,.int 320 0,.int 37 0,.str bF 321]).toArray)
def KQ:Obj:=aP "function" (.func (fdOf (cg pw 5) tH tH 3 [] .none .none .none (.str Kh 289) none (.ref 58) .none 0))
def KR:Obj:=aP "tuple" (.seq ([(.str (S "email_header_fields") 326),(.str (S "accepted_values") 327),.str Kl 328]).toArray 0)
def KY:Obj:=dg (.func (eG (cg pw 6) tK tK))
def KZ:Obj:=aP "code" (.fields ([.str tK 323,.str tK 324,.str bF 325,.int 48 0,.int 1 0,.int 0 0,.int 0 0,.int 3 0,.ref 60,.bool true,.int 276 0,.ref 61,.none,.ref 62,.ref 63,.ref 64,.int 329 0,.int 48 0,.str bF 330]).toArray)
def K4:Obj:=aP "function" (.func (fdOf (cg pw 6) tK tK 3 [] .none .none .none (.str Kh 289) none (.ref 65) .none 0))
def jzT(P:Params):BT:=(aj (o0 P) (aj (o1 P) (aj (o30 P) (aj o7 (aj o7 (aj Gq (aB o7) .nil) (aB o8)) (aj yz (aB o7) (aB KH))) (aj (By P) (aj yt (aB o7) (aB KC)) (aj yF (aB Ku) (aB KQ)))) (aj o5 (aj o9 (aj yq (aj o8 (aB KZ) .nil) (aB o7)) (aj yD (aB Ks) (aB KJ))) (aj (yl P) (aj (yw P) (aB Kq) (aB o7)) (aj o31 (aB Kw) (aB o8))))) (aj (o2 P) (aj o4 (aj o8 (aj yo (aj o7 (aB KY) .nil) (aB Ky)) (aj yC (aB o8) (aB o7))) (aj yj (aj (yu P) (aB Ko) (aB KD)) (aj o7 (aB Kv) (aB o7)))) (aj o6 (aj yh (aj yr (aj Km (aB K4) .nil) (aB Kz)) (aj yE (aB o7) (aB KN))) (aj ym (aj yx (aB Kr) (aB o8)) (aj Gp (aB o7) (aB KR))))))
def o52(P:Params):Obj:=aP "dict" (.dict ([(ao P vP 165 (.str FT 332)),(ao P rD 166 .none),(ao P vQ 167 .none),(ao P vR 168 (.builtin "__main__.__loader__#opaque")),(ao P vU 169 .none),(ao P Fz 170 (.ref 6)),(ao P FN 171 (.ref 4)),(ao P FP 173 (.str bF 172)),(ao P FQ 174 .none),(ao P tC 275 (.ref 12)),(ao P tD 288 (.ref 38)),(ao P tE 300 (.ref 45)),(ao P tG 312 (.ref 52)),(ao P tH 322 (.ref 59)),(ao P tK 331 (.ref 66)),(ao P Rb 393 (.ref 74)),(ao P uB 400 (.ref 84))]).toArray 17)
def YM:Obj:=dg (.fields ([.int 2 0,.int 0 0,.ref 37,.int 6 0,.int 0 0,.ref 44,.int 19 0,.int 0 0,.ref 51,.int 37 0,.int 0 0,.ref 58,.int 48 0,.int 0 0,.ref 65,.int 57 0,.int 0 0,.ref 83]).toArray)
def Rx:Obj:=aP "list" (.seq ([.int 173 334,.int 847 335,.int 6150 336,.int 6155 337,.int 6156 338,.int 6157 339,.int 8203 340,.int 8204 341,.int 8205 342,.int 8288 343,.int 65279 344]).toArray 0)
def Ry:Obj:=aP "range" (.fields ([.int 65024 345,.int 65040 346,.int 1 347]).toArray)
def Rz:Obj:=aP "list" (.seq ([.int 65024 350,.int 65025 351,.int 65026 352,.int 65027 353,.int 65028 354,.int 65029 355,.int 65030 356,.int 65031 357,.int 65032 358,.int 65033 359,.int 65034 360,.int 65035 361,.int 65036 362,.int 65037 363,.int 65038 364,.int 65039 365]).toArray 18)
def RB:Obj:=aP "range_iterator" (.fields ([.int 65040 0,.int 0 0,.int 1 0]).toArray)
def RC:Obj:=aP "StopIteration" (.fields ([.ref 71,.none,.none,.none,.bool false,.none]).toArray)
def RD:Obj:=aP "list" (.seq ([.int 173 334,.int 847 335,.int 6150 336,.int 6155 337,.int 6156 338,.int 6157 339,.int 8203 340,.int 8204 341,.int 8205 342,.int 8288 343,.int 65279 344,.int 65024 350,.int 65025 351,.int 65026 352,.int 65027 353,.int 65028 354,.int 65029 355,.int 65030 356,.int 65031 357,.int 65032 358,.int 65033 359,.int 65034 360,.int 65035 361,.int 65036 362,.int 65037 363,.int 65038 364,.int 65039 365]).toArray 0)
def RG(P:Params):Obj:=aP "set" (.set ([(65024,(.int 65024 350)),(65025,(.int 65025 351)),(65026,(.int 65026 352)),(65027,(.int 65027 353)),(65028,(.int 65028 354)),(65029,(.int 65029 355)),(6150,(.int 6150 336)),(65030,(.int 65030 356)),(65031,(.int 65031 357)),(65032,(.int 65032 358)),(65033,(.int 65033 359)),(6155,(.int 6155 337)),(6156,(.int 6156 338)),(6157,(.int 6157 339)),(8203,(.int 8203 340)),(8204,(.int 8204 341)),(8205,(.int 8205 342)),(65034,(.int 65034 360)),(65035,(.int 65035 361)),(65036,(.int 65036 362)),(65037,(.int 65037 363)),(65038,(.int 65038 364)),(65039,(.int 65039 365)),(173,(.int 173 334)),(847,(.int 847 335)),(8288,(.int 8288 343)),(65279,(.int 65279 344))]).toArray 29 ⟨127,([0,1,2,3,4,5,6,7,8,9,10,11,12,13,14,15,16,17,18,19,20,21,22,45,79,96,127]).toArray,([]).toArray,0,!(P.followText "set-order"),2,true⟩)
def RJ:Obj:=aP "list_iterator" (.fields ([.none,.int 27 0]).toArray)
def RK:Obj:=aP "StopIteration" (.fields ([.ref 76,.none,.none,.none,.bool false,.none]).toArray)
def RL:Obj:=aP "tuple" (.seq ([.str YF 397]).toArray 0)
def RM:Obj:=dg (.func (eG (cg pw 9) uB uB))
def RN:Obj:=aP "code" (.fields ([.str uB 394,.str uB 395,.str bF 396,.int 57 0,.int 1 0,.int 0 0,.int 0 0,.int 3 0,.ref 78,.bool true,.int 276 0,.ref 79,.none,.ref 80,.ref 81,.ref 82,.int 398 0,.int 57 0,.str bF 399]).toArray)
def RQ:Obj:=aP "function" (.func (fdOf (cg pw 9) uB uB 3 [] .none .none .none (.str FT 332) none (.ref 83) .none 0))
def YQ(P:Params):BT:=(aj (o0 P) (aj (o1 P) (aj (o52 P) (aj o7 (aj o7 (aj Gq (aB o7) .nil) (aj o8 (aB o8) .nil)) (aj yz (aj o7 (aB o7) .nil) (aB KH))) (aj (By P) (aj yt (aj o7 (aB Rx) .nil) (aj KC (aB RN) .nil)) (aj yF (aj Ku (aB RJ) .nil) (aB KQ)))) (aj o5 (aj o9 (aj yq (aj o8 (aB KZ) .nil) (aj o7 (aB o7) .nil)) (aj yD (aj Ks (aB RD) .nil) (aB KJ))) (aj (yl P) (aj (yw P) (aj Kq (aB Rz) .nil) (aB o7)) (aj YM (aj Kw (aB RK) .nil) (aB o8))))) (aj (o2 P) (aj o4 (aj o8 (aj yo (aj o7 (aB KY) .nil) (aj Ky (aB RL) .nil)) (aj yC (aj o8 (aB RC) .nil) (aB o7))) (aj yj (aj (yu P) (aj Ko (aB Ry) .nil) (aj KD (aB RQ) .nil)) (aj o7 (aj Kv (aB o7) .nil) (aB o7)))) (aj o6 (aj yh (aj yr (aj Km (aB K4) .nil) (aj Kz (aB RM) .nil)) (aj yE (aj o7 (aB (RG P)) .nil) (aB KN))) (aj ym (aj yx (aj Kr (aB RB) .nil) (aB o8)) (aj Gp (aj o7 (aB o7) .nil) (aB KR))))))
def o67(P:Params):Obj:=aP "dict" (.dict ([(ao P vP 165 (.str FT 332)),(ao P rD 166 .none),(ao P vQ 167 .none),(ao P vR 168 (.builtin "__main__.__loader__#opaque")),(ao P vU 169 .none),(ao P Fz 170 (.ref 6)),(ao P FN 171 (.ref 4)),(ao P FP 173 (.str bF 172)),(ao P FQ 174 .none),(ao P tC 275 (.ref 12)),(ao P tD 288 (.ref 38)),(ao P tE 300 (.ref 45)),(ao P tG 312 (.ref 52)),(ao P tH 322 (.ref 59)),(ao P tK 331 (.ref 66)),(ao P Rb 393 (.ref 74)),(ao P uB 400 (.ref 84)),(ao P YH 2351 (.ref 85))]).toArray 18)
def YS:Obj:=dO (J8 401 jy) 650
def YT:Obj:=dR 0
def YW:Obj:=dR 1
def YX:Obj:=dR 2
def YZ:Obj:=dR 3
def Y0:Obj:=dR 4
def Y4:Obj:=dR 5
def Y5:Obj:=dR 6
def Y6:Obj:=dR 7
def Y7:Obj:=dR 8
def Y8:Obj:=dR 9
def Y9:Obj:=dR 10
def Za:Obj:=dR 11
def Zb:Obj:=dR 12
def Zc:Obj:=dR 13
def Zd:Obj:=dR 14
def Ze:Obj:=dR 15
def Zf:Obj:=dR 16
def Zg:Obj:=dR 17
def Zh:Obj:=dR 18
def Zi:Obj:=dR 19
def Zj:Obj:=dR 20
def Zk:Obj:=dR 21
def Zm:Obj:=dR 22
def Zn:Obj:=dR 23
def Zo:Obj:=dR 24
def Zq:Obj:=dR 25
def Zr:Obj:=dR 26
def Zt:Obj:=dR 27
def Zu:Obj:=dR 28
def Zv:Obj:=dR 29
def Zw:Obj:=dR 30
def o100:Obj:=dR 31
def Zx:Obj:=dR 32
def Zy:Obj:=dR 33
def Zz:Obj:=dR 34
def ZC:Obj:=dR 35
def ZD:Obj:=dR 36
def ZF:Obj:=dO (fY (401+51*(37+1)) (jy.drop (17*(37+1)))) (650-17*(37+1))
def ZG(P:Params):BT:=(aj (o0 P) (aj (o1 P) (aj (o67 P) (aj o7 (aj o7 (aj Gq (aB o7) (aB Y8)) (aj o8 (aB o8) (aB Zq))) (aj yz (aj o7 (aB o7) (aB Zg)) (aj KH (aB YW) (aB Zy)))) (aj (By P) (aj yt (aj o7 (aB Rx) (aB Zc)) (aj KC (aB RN) (aB Zv))) (aj yF (aj Ku (aB RJ) (aB Zk)) (aj KQ (aB Y4) (aB ZF))))) (aj o5 (aj o9 (aj yq (aj o8 (aB KZ) (aB Za)) (aj o7 (aB o7) (aB Zt))) (aj yD (aj Ks (aB RD) (aB Zi)) (aj KJ (aB YZ) (aB ZC)))) (aj (yl P) (aj (yw P) (aj Kq (aB Rz) (aB Ze)) (aj o7 (aB YS) (aB o100))) (aj YM (aj Kw (aB RK) (aB Zn)) (aj o8 (aB Y6) .nil))))) (aj (o2 P) (aj o4 (aj o8 (aj yo (aj o7 (aB KY) (aB Y9)) (aj Ky (aB RL) (aB Zr))) (aj yC (aj o8 (aB RC) (aB Zh)) (aj o7 (aB YX) (aB Zz)))) (aj yj (aj (yu P) (aj Ko (aB Ry) (aB Zd)) (aj KD (aB RQ) (aB Zw))) (aj o7 (aj Kv (aB o7) (aB Zm)) (aj o7 (aB Y5) .nil)))) (aj o6 (aj yh (aj yr (aj Km (aB K4) (aB Zb)) (aj Kz (aB RM) (aB Zu))) (aj yE (aj o7 (aB (RG P)) (aB Zj)) (aj KN (aB Y0) (aB ZD)))) (aj ym (aj yx (aj Kr (aB RB) (aB Zf)) (aj o8 (aB YT) (aB Zx))) (aj Gp (aj o7 (aB o7) (aB Zo)) (aj KR (aB Y7) .nil))))))
def jA8(P:Params):Obj:=aP "dict" (.dict ([(ao P vP 165 (.str rE 2623)),(ao P rD 166 .none),(ao P vQ 167 .none),(ao P vR 168 (.builtin "__main__.__loader__#opaque")),(ao P vU 169 .none),(ao P Fz 170 (.ref 6)),(ao P FN 171 (.ref 4)),(ao P FP 173 (.str bF 172)),(ao P FQ 174 .none),(ao P tC 275 (.ref 12)),(ao P tD 288 (.ref 38)),(ao P tE 300 (.ref 45)),(ao P tG 312 (.ref 52)),(ao P tH 322 (.ref 59)),(ao P tK 331 (.ref 66)),(ao P Rb 393 (.ref 74)),(ao P uB 400 (.ref 84)),(ao P YH 2351 (.ref 85)),(ao P xT 2359 (.ref 130)),(ao P (S "tspecials") 2395 (.ref 135)),(ao P (S "_name_disallowed_re") 2421 (.ref 140)),(ao P (S "_value_disallowed_re") 2455 (.ref 145)),(ao P xU 2465 (.ref 153)),(ao P vW 2622 (.ref 274)),(ao P xV 2630 (.ref 283)),(ao P xW 2636 (.ref 288)),(ao P xX 2642 (.ref 293)),(ao P xY 2652 (.ref 300)),(ao P xZ 2661 (.ref 307)),(ao P yc 2667 (.ref 312)),(ao P yd 2675 (.ref 319)),(ao P ye 2684 (.ref 326)),(ao P yf 2690 (.ref 331)),(ao P yg 2696 (.ref 336))]).toArray 34)
def jA9:Obj:=dg (.fields ([.int 2 0,.int 0 0,.ref 37,.int 6 0,.int 0 0,.ref 44,.int 19 0,.int 0 0,.ref 51,.int 37 0,.int 0 0,.ref 58,.int 48 0,.int 0 0,.ref 65,.int 57 0,.int 0 0,.ref 83,.int 60 0,.int 0 0,.ref 129,.int 69 0,.int 0 0,.ref 152,.int 78 0,.int 0 0,.ref 159,.int 161 0,.int 0 0,.ref 282,.int 169 0,.int 0 0,.ref 287,.int 172 0,.int 0 0,.ref 292,.int 185 0,.int 0 0,.ref 299,.int 192 0,.int 0 0,.ref 306,.int 197 0,.int 0 0,.ref 311,.int 202 0,.int 0 0,.ref 318,.int 204 0,.int 0 0,.ref 325,.int 208 0,.int 0 0,.ref 330,.int 212 0,.int 0 0,.ref 335]).toArray)
def jBa:Obj:=aP "tuple" (.seq ([.str YF 2355,(.str (S "r") 2356)]).toArray 0)
def jBb:Obj:=dg (.func (eG (cg pw 11) xT xT))
def o111:Obj:=aP "code" (.fields ([.str xT 2352,.str xT 2353,.str bF 2354,.int 60 0,.int 1 0,.int 0 0,.int 0 0,.int 3 0,.ref 124,.bool true,.int 276 0,.ref 125,.none,.ref 126,.ref 127,.ref 128,.int 2357 0,.int 60 0,.str bF 2358]).toArray)
def jBc:Obj:=aP "function" (.func (fdOf (cg pw 11) xT xT 3 [] .none .none .none (.str FT 332) none (.ref 129) .none 0))
def jBd:Obj:=aP "list" (.seq ([.int 14 2365,.int 14 2366,.int 4 2367,.int 1 2368,.int 1 2369,.int 9 2370,.int 0 2371,.int 4227896069 2372,.int 939524097 2373,.int 0 2374,.int 0 2375,.int 0 2376,.int 0 2377,.int 0 2378,.int 0 2379,.int 13 2380,.int 11 2381,.int 9 2382,.int 0 2383,.int 4227896069 2384,.int 939524097 2385,.int 0 2386,.int 0 2387,.int 0 2388,.int 0 2389,.int 0 2390,.int 0 2391,.int 1 2392]).toArray 0)
def Gr:Obj:=aP "tuple" (.seq ([.none]).toArray 0)
def jBe:Obj:=aP "tuple" (.seq ([.int 14 0,.int 14 0,.int 4 0,.int 1 0,.int 1 0,.int 9 0,.int 0 0,.int 4227896069 0,.int 939524097 0,.int 0 0,.int 0 0,.int 0 0,.int 0 0,.int 0 0,.int 0 0,.int 13 0,.int 11 0,.int 9 0,.int 0 0,.int 4227896069 0,.int 939524097 0,.int 0 0,.int 0 0,.int 0 0,.int 0 0,.int 0 0,.int 0 0,.int 1 0]).toArray 0)
def jBf:Obj:=aP "re.Pattern" (.fields ([(.str (S "[ \\(\\)<>@,;:\\\\\"/\\[\\]\\?=]") 2363),.int 32 2394,.int 0 0,.none,.none,.ref 134,.int 0 0]).toArray)
def jBg:Obj:=aP "list" (.seq ([.int 14 2399,.int 10 2400,.int 4 2401,.int 1 2402,.int 1 2403,.int 22 2404,.int 0 2405,.int 31 2406,.int 16 2407,.int 127 2408,.int 0 2409,.int 13 2410,.int 7 2411,.int 22 2412,.int 0 2413,.int 31 2414,.int 16 2415,.int 127 2416,.int 0 2417,.int 1 2418]).toArray 0)
def jBh:Obj:=aP "tuple" (.seq ([.int 14 0,.int 10 0,.int 4 0,.int 1 0,.int 1 0,.int 22 0,.int 0 0,.int 31 0,.int 16 0,.int 127 0,.int 0 0,.int 13 0,.int 7 0,.int 22 0,.int 0 0,.int 31 0,.int 16 0,.int 127 0,.int 0 0,.int 1 0]).toArray 0)
def jBi:Obj:=aP "re.Pattern" (.fields ([(.str (S "[\\x00-\\x1F\\x7F]") 2397),.int 32 2420,.int 0 0,.none,.none,.ref 139,.int 0 0]).toArray)
def jBj:Obj:=aP "list" (.seq ([.int 14 2425,.int 14 2426,.int 4 2427,.int 1 2428,.int 1 2429,.int 9 2430,.int 4294966783 2431,.int 0 2432,.int 0 2433,.int 2147483648 2434,.int 0 2435,.int 0 2436,.int 0 2437,.int 0 2438,.int 0 2439,.int 13 2440,.int 11 2441,.int 9 2442,.int 4294966783 2443,.int 0 2444,.int 0 2445,.int 2147483648 2446,.int 0 2447,.int 0 2448,.int 0 2449,.int 0 2450,.int 0 2451,.int 1 2452]).toArray 0)
def jBk:Obj:=aP "tuple" (.seq ([.int 14 0,.int 14 0,.int 4 0,.int 1 0,.int 1 0,.int 9 0,.int 4294966783 0,.int 0 0,.int 0 0,.int 2147483648 0,.int 0 0,.int 0 0,.int 0 0,.int 0 0,.int 0 0,.int 13 0,.int 11 0,.int 9 0,.int 4294966783 0,.int 0 0,.int 0 0,.int 2147483648 0,.int 0 0,.int 0 0,.int 0 0,.int 0 0,.int 0 0,.int 1 0]).toArray 0)
def jBl:Obj:=aP "re.Pattern" (.fields ([(.str (S "[\\x00-\\x08\\x0A-\\x1F\\x7F]") 2423),.int 32 2454,.int 0 0,.none,.none,.ref 144,.int 0 0]).toArray)
def jBm:Obj:=aP "tuple" (.seq ([.none,.int 1 2456]).toArray 0)
def jBn:Obj:=aP "tuple" (.seq ([(.str (S "param") 2460),.str Rc 2461,(.str (S "quote") 2462)]).toArray 0)
def jBo:Obj:=dg (.func (eG (cg pw 16) xU xU))
def jBp:Obj:=aP "code" (.fields ([.str xU 2457,.str xU 2458,.str bF 2459,.int 69 0,.int 3 0,.int 0 0,.int 0 0,.int 3 0,.ref 147,.bool true,.int 276 0,.ref 148,.none,.ref 149,.ref 150,.ref 151,.int 2463 0,.int 69 0,.str bF 2464]).toArray)
def jBq:Obj:=aP "function" (.func (fdOf (cg pw 16) xU xU 3 [] (.ref 146) .none .none (.str ji 2360) none (.ref 152) .none 0))
def jBr:Obj:=aP "builtin_function_or_method" (.fields ([(.builtin "type.__prepare__"),(.type "type")]).toArray)
def jBs(P:Params):Obj:=aP "dict" (.dict ([(ao P Kc 2473 (.str ji 2360)),(ao P (S "__qualname__") 2475 (.str vW 2474)),(ao P Kd 2477 (.int 78 2476)),(ao P Bw 2487 (.ref 168)),(ao P FW 2497 (.ref 175)),(ao P FZ 2504 (.ref 182)),(ao P Ga 2513 (.ref 189)),(ao P Gb 2519 (.ref 194)),(ao P Gd 2527 (.ref 201)),(ao P Ge 2535 (.ref 208)),(ao P Gf 2541 (.ref 213)),(ao P Gg 2552 (.ref 221)),(ao P Gh 2558 (.ref 226)),(ao P Gi 2564 (.ref 231)),(ao P Gj 2571 (.ref 238)),(ao P Bx 2578 (.ref 245)),(ao P Gk 2584 (.ref 250)),(ao P Gl 2591 (.ref 257)),(ao P Gm 2600 (.ref 264)),(ao P Gn 2613 (.ref 271)),(ao P Ke 2615 (.ref 272))]).toArray 21)
def jBt:Obj:=dg (.fields ([.int 80 0,.int 4 0,.ref 167,.int 90 0,.int 4 0,.ref 174,.int 98 0,.int 4 0,.ref 181,.int 101 0,.int 4 0,.ref 188,.int 105 0,.int 4 0,.ref 193,.int 109 0,.int 4 0,.ref 200,.int 112 0,.int 4 0,.ref 207,.int 115 0,.int 4 0,.ref 212,.int 119 0,.int 4 0,.ref 220,.int 126 0,.int 4 0,.ref 225,.int 129 0,.int 4 0,.ref 230,.int 132 0,.int 4 0,.ref 237,.int 135 0,.int 4 0,.ref 244,.int 138 0,.int 4 0,.ref 249,.int 141 0,.int 4 0,.ref 256,.int 144 0,.int 4 0,.ref 263,.int 147 0,.int 4 0,.ref 270]).toArray)
def jBu:Obj:=aP "code" (.fields ([.str vW 2468,.str vW 2469,.str bF 2470,.int 78 0,.int 0 0,.int 0 0,.int 0 0,.int 0 0,.ref 157,.bool false,.int 276 0,.ref 158,.none,.none,.none,.none,.int 2471 0,.int 78 0,.str bF 2472]).toArray)
def jBv:Obj:=⟨(.type "frame"),none,.plain,([(some (.ref 159)),(some (.ref 3)),(some (.ref 156)),none,(some (.str ji 2360)),none,(some (.ref 0))]).toArray⟩
def jBw:Obj:=aP "tuple" (.seq ([.str qF 2481,(.str (S "headers") 2482),.str Kg 2483,.str Kl 2484]).toArray 0)
def jBx:Obj:=dg (.func (eG (eF pw 17 0) Bw Rd))
def jBy:Obj:=aP "code" (.fields ([.str Bw 2478,.str Rd 2479,.str bF 2480,.int 80 0,.int 2 0,.int 0 0,.int 0 0,.int 3 0,.ref 162,.bool true,.int 276 0,.ref 163,.none,.ref 164,.ref 165,.ref 166,.int 2485 0,.int 80 0,.str bF 2486]).toArray)
def jBz:Obj:=aP "function" (.func (fdOf (eF pw 17 0) Bw Rd 3 [] (.ref 161) .none .none (.str ji 2360) none (.ref 167) .none 0))
def jBA:Obj:=aP "tuple" (.seq ([.str qF 2491,.str Rc 2492,.str vV 2493,(.str (S "regex") 2494)]).toArray 0)
def jBB:Obj:=dg (.func (eG (eF pw 17 1) FW Rf))
def jBC:Obj:=aP "code" (.fields ([.str FW 2488,.str Rf 2489,.str bF 2490,.int 90 0,.int 2 0,.int 0 0,.int 1 0,.int 3 0,.ref 169,.bool true,.int 276 0,.ref 170,.none,.ref 171,.ref 172,.ref 173,.int 2495 0,.int 90 0,.str bF 2496]).toArray)
def jBD:Obj:=aP "function" (.func (fdOf (eF pw 17 1) FW Rf 3 [] .none .none .none (.str ji 2360) none (.ref 174) .none 0))
def jBE:Obj:=aP "tuple" (.seq ([.str qF 2501]).toArray 0)
def jBF:Obj:=dg (.func (eG (eF pw 17 2) FZ Rg))
def jBG:Obj:=aP "code" (.fields ([.str FZ 2498,.str Rg 2499,.str bF 2500,.int 98 0,.int 1 0,.int 0 0,.int 0 0,.int 3 0,.ref 176,.bool true,.int 276 0,.ref 177,.none,.ref 178,.ref 179,.ref 180,.int 2502 0,.int 98 0,.str bF 2503]).toArray)
def jBH:Obj:=aP "function" (.func (fdOf (eF pw 17 2) FZ Rg 3 [] .none .none .none (.str ji 2360) none (.ref 181) .none 0))
def jBI:Obj:=aP "tuple" (.seq ([.str qF 2508,.str vV 2509,(.str (S "val") 2510)]).toArray 0)
def jBJ:Obj:=dg (.func (eG (eF pw 17 3) Ga Rh))
def jBK:Obj:=aP "code" (.fields ([.str Ga 2505,.str Rh 2506,.str bF 2507,.int 101 0,.int 3 0,.int 0 0,.int 0 0,.int 3 0,.ref 183,.bool true,.int 276 0,.ref 184,.none,.ref 185,.ref 186,.ref 187,.int 2511 0,.int 101 0,.str bF 2512]).toArray)
def jBL:Obj:=aP "function" (.func (fdOf (eF pw 17 3) Ga Rh 3 [] .none .none .none (.str ji 2360) none (.ref 188) .none 0))
def jBM:Obj:=dg (.func (eG (eF pw 17 4) Gb Ri))
def jBN:Obj:=aP "code" (.fields ([.str Gb 2514,.str Ri 2515,.str bF 2516,.int 105 0,.int 2 0,.int 0 0,.int 0 0,.int 3 0,.ref 190,.bool true,.int 276 0,.ref 191,.none,.none,.none,.ref 192,.int 2517 0,.int 105 0,.str bF 2518]).toArray)
def jBO:Obj:=aP "function" (.func (fdOf (eF pw 17 4) Gb Ri 3 [] .none .none .none (.str ji 2360) none (.ref 193) .none 0))
def jBP:Obj:=aP "tuple" (.seq ([.str qF 2523,.str vV 2524]).toArray 0)
def jBQ:Obj:=dg (.func (eG (eF pw 17 5) Gd Rj))
def jBR:Obj:=aP "code" (.fields ([.str Gd 2520,.str Rj 2521,.str bF 2522,.int 109 0,.int 2 0,.int 0 0,.int 0 0,.int 3 0,.ref 195,.bool true,.int 276 0,.ref 196,.none,.ref 197,.ref 198,.ref 199,.int 2525 0,.int 109 0,.str bF 2526]).toArray)
def jBS:Obj:=aP "function" (.func (fdOf (eF pw 17 5) Gd Rj 3 [] .none .none .none (.str ji 2360) none (.ref 200) .none 0))
def jBT:Obj:=aP "tuple" (.seq ([.str qF 2531,.str vV 2532]).toArray 0)
def jBU:Obj:=dg (.func (eG (eF pw 17 6) Ge Rk))
def jBV:Obj:=aP "code" (.fields ([.str Ge 2528,.str Rk 2529,.str bF 2530,.int 112 0,.int 2 0,.int 0 0,.int 0 0,.int 3 0,.ref 202,.bool true,.int 276 0,.ref 203,.none,.ref 204,.ref 205,.ref 206,.int 2533 0,.int 112 0,.str bF 2534]).toArray)
def jBW:Obj:=aP "function" (.func (fdOf (eF pw 17 6) Ge Rk 3 [] .none .none .none (.str ji 2360) none (.ref 207) .none 0))
def jBX:Obj:=dg (.func (eG (eF pw 17 7) Gf Rm))
def jBY:Obj:=aP "code" (.fields ([.str Gf 2536,.str Rm 2537,.str bF 2538,.int 115 0,.int 2 0,.int 0 0,.int 0 0,.int 3 0,.ref 209,.bool true,.int 276 0,.ref 210,.none,.none,.none,.ref 211,.int 2539 0,.int 115 0,.str bF 2540]).toArray)
def jBZ:Obj:=aP "function" (.func (fdOf (eF pw 17 7) Gf Rm 3 [] .none .none .none (.str ji 2360) none (.ref 212) .none 0))
def jB0:Obj:=aP "tuple" (.seq ([.str qF 2545,.str vV 2546,(.str (S "default") 2547),.str Kg 2548,.str Kl 2549]).toArray 0)
def jB1:Obj:=dg (.func (eG (eF pw 17 8) Gg Rn))
def jB2:Obj:=aP "code" (.fields ([.str Gg 2542,.str Rn 2543,.str bF 2544,.int 119 0,.int 3 0,.int 0 0,.int 0 0,.int 3 0,.ref 215,.bool true,.int 276 0,.ref 216,.none,.ref 217,.ref 218,.ref 219,.int 2550 0,.int 119 0,.str bF 2551]).toArray)
def jB3:Obj:=aP "function" (.func (fdOf (eF pw 17 8) Gg Rn 3 [] (.ref 214) .none .none (.str ji 2360) none (.ref 220) .none 0))
def jB4:Obj:=dg (.func (eG (eF pw 17 9) Gh Ro))
def jB5:Obj:=aP "code" (.fields ([.str Gh 2553,.str Ro 2554,.str bF 2555,.int 126 0,.int 1 0,.int 0 0,.int 0 0,.int 3 0,.ref 222,.bool true,.int 276 0,.ref 223,.none,.none,.none,.ref 224,.int 2556 0,.int 126 0,.str bF 2557]).toArray)
def jB6:Obj:=aP "function" (.func (fdOf (eF pw 17 9) Gh Ro 3 [] .none .none .none (.str ji 2360) none (.ref 225) .none 0))
def jB7:Obj:=dg (.func (eG (eF pw 17 10) Gi Rp))
def jB8:Obj:=aP "code" (.fields ([.str Gi 2559,.str Rp 2560,.str bF 2561,.int 129 0,.int 1 0,.int 0 0,.int 0 0,.int 3 0,.ref 227,.bool true,.int 276 0,.ref 228,.none,.none,.none,.ref 229,.int 2562 0,.int 129 0,.str bF 2563]).toArray)
def jB9:Obj:=aP "function" (.func (fdOf (eF pw 17 10) Gi Rp 3 [] .none .none .none (.str ji 2360) none (.ref 230) .none 0))
def jCa:Obj:=aP "tuple" (.seq ([.str qF 2568]).toArray 0)
def jCb:Obj:=dg (.func (eG (eF pw 17 11) Gj Rq))
def jCc:Obj:=aP "code" (.fields ([.str Gj 2565,.str Rq 2566,.str bF 2567,.int 132 0,.int 1 0,.int 0 0,.int 0 0,.int 3 0,.ref 232,.bool true,.int 276 0,.ref 233,.none,.ref 234,.ref 235,.ref 236,.int 2569 0,.int 132 0,.str bF 2570]).toArray)
def jCd:Obj:=aP "function" (.func (fdOf (eF pw 17 11) Gj Rq 3 [] .none .none .none (.str ji 2360) none (.ref 237) .none 0))
def jCe:Obj:=aP "tuple" (.seq ([.str qF 2575]).toArray 0)
def jCf:Obj:=dg (.func (eG (eF pw 17 12) Bx Rr))
def jCg:Obj:=aP "code" (.fields ([.str Bx 2572,.str Rr 2573,.str bF 2574,.int 135 0,.int 1 0,.int 0 0,.int 0 0,.int 3 0,.ref 239,.bool true,.int 276 0,.ref 240,.none,.ref 241,.ref 242,.ref 243,.int 2576 0,.int 135 0,.str bF 2577]).toArray)
def jCh:Obj:=aP "function" (.func (fdOf (eF pw 17 12) Bx Rr 3 [] .none .none .none (.str ji 2360) none (.ref 244) .none 0))
def jCi:Obj:=dg (.func (eG (eF pw 17 13) Gk Rt))
def jCj:Obj:=aP "code" (.fields ([.str Gk 2579,.str Rt 2580,.str bF 2581,.int 138 0,.int 1 0,.int 0 0,.int 0 0,.int 3 0,.ref 246,.bool true,.int 276 0,.ref 247,.none,.none,.none,.ref 248,.int 2582 0,.int 138 0,.str bF 2583]).toArray)
def jCk:Obj:=aP "function" (.func (fdOf (eF pw 17 13) Gk Rt 3 [] .none .none .none (.str ji 2360) none (.ref 249) .none 0))
def jCl:Obj:=aP "tuple" (.seq ([.str qF 2588]).toArray 0)
def jCm:Obj:=dg (.func (eG (eF pw 17 14) Gl Ru))
def jCn:Obj:=aP "code" (.fields ([.str Gl 2585,.str Ru 2586,.str bF 2587,.int 141 0,.int 1 0,.int 0 0,.int 0 0,.int 3 0,.ref 251,.bool true,.int 276 0,.ref 252,.none,.ref 253,.ref 254,.ref 255,.int 2589 0,.int 141 0,.str bF 2590]).toArray)
def jCo:Obj:=aP "function" (.func (fdOf (eF pw 17 14) Gl Ru 3 [] .none .none .none (.str ji 2360) none (.ref 256) .none 0))
def jCp:Obj:=aP "tuple" (.seq ([.str qF 2595,.str vV 2596,.str Rc 2597]).toArray 0)
def jCq:Obj:=dg (.func (eG (eF pw 17 15) Gm Rv))
def jCr:Obj:=aP "code" (.fields ([.str Gm 2592,.str Rv 2593,.str bF 2594,.int 144 0,.int 3 0,.int 0 0,.int 0 0,.int 3 0,.ref 258,.bool true,.int 276 0,.ref 259,.none,.ref 260,.ref 261,.ref 262,.int 2598 0,.int 144 0,.str bF 2599]).toArray)
def jCs:Obj:=aP "function" (.func (fdOf (eF pw 17 15) Gm Rv 3 [] .none .none .none (.str ji 2360) none (.ref 263) .none 0))
def jCt:Obj:=aP "tuple" (.seq ([.str qF 2604,(.str (S "_name") 2605),(.str (S "_value") 2606),(.str (S "_params") 2607),(.str (S "parts") 2608),.str Kg 2609,.str Kl 2610]).toArray 0)
def jCu:Obj:=dg (.func (eG (eF pw 17 16) Gn Rw))
def jCv:Obj:=aP "code" (.fields ([.str Gn 2601,.str Rw 2602,.str bF 2603,.int 147 0,.int 3 0,.int 0 0,.int 0 0,.int 11 0,.ref 265,.bool true,.int 276 0,.ref 266,.none,.ref 267,.ref 268,.ref 269,.int 2611 0,.int 147 0,.str bF 2612]).toArray)
def jCw:Obj:=aP "function" (.func (fdOf (eF pw 17 16) Gn Rw 3 [] .none .none .none (.str ji 2360) none (.ref 270) .none 0))
def jCx:Obj:=aP "tuple" (.seq ([(.str (S "_headers") 2614)]).toArray 0)
def jCy(P:Params):Obj:=aP "dict" (.dict ([(ao P Kc 2473 (.str ji 2360)),(ao P Kd 2477 (.int 78 2476)),(ao P Bw 2487 (.ref 168)),(ao P FW 2497 (.ref 175)),(ao P FZ 2504 (.ref 182)),(ao P Ga 2513 (.ref 189)),(ao P Gb 2519 (.ref 194)),(ao P Gd 2527 (.ref 201)),(ao P Ge 2535 (.ref 208)),(ao P Gf 2541 (.ref 213)),(ao P Gg 2552 (.ref 221)),(ao P Gh 2558 (.ref 226)),(ao P Gi 2564 (.ref 231)),(ao P Gj 2571 (.ref 238)),(ao P Bx 2578 (.ref 245)),(ao P Gk 2584 (.ref 250)),(ao P Gl 2591 (.ref 257)),(ao P Gm 2600 (.ref 264)),(ao P Gn 2613 (.ref 271)),(ao P Ke 2615 (.ref 272)),(ao P Bu 2617 (.ref 275)),(ao P Bv 2619 (.ref 276)),(ao P rD 2620 .none)]).toArray 4)
def jCz:Obj:=⟨(.type "type"),none,(.cls ⟨vW,[(.type "object")],[.ref 274,(.type "object")],273,vW,true,[],[],false,none,false⟩),([none,none,(some (.str vW 2466)),(some (.str vW 2474)),(some (.builtin "object.__new__")),(some (.bool true))]).toArray⟩
def jCA:Obj:=aP "getset_descriptor" (.fields ([.str Bu 2616,.ref 274,(.builtin "function.__dict__"),(.builtin "function.__dict__#set")]).toArray)
def o200:Obj:=aP "getset_descriptor" (.fields ([.str Bv 2618,.ref 274,(.builtin "ExceptionGroup.__weakref__"),.none]).toArray)
def jCB:Obj:=aP "super" (.fields ([.ref 274,.ref 274,.ref 274]).toArray)
def jCC:Obj:=aP "builtin_function_or_method" (.fields ([(.builtin "object.__init_subclass__"),.ref 274]).toArray)
def jCD:Obj:=dg (.func (eG (cg pw 19) xV xV))
def jCE:Obj:=aP "code" (.fields ([.str xV 2625,.str xV 2626,.str bF 2627,.int 161 0,.int 1 0,.int 0 0,.int 0 0,.int 3 0,.ref 279,.bool true,.int 276 0,.ref 280,.none,.none,.none,.ref 281,.int 2628 0,.int 161 0,.str bF 2629]).toArray)
def jCF:Obj:=aP "function" (.func (fdOf (cg pw 19) xV xV 3 [] .none .none .none (.str rE 2623) none (.ref 282) .none 0))
def jCG:Obj:=dg (.func (eG (cg pw 20) xW xW))
def jCH:Obj:=aP "code" (.fields ([.str xW 2631,.str xW 2632,.str bF 2633,.int 169 0,.int 2 0,.int 0 0,.int 0 0,.int 3 0,.ref 284,.bool true,.int 276 0,.ref 285,.none,.none,.none,.ref 286,.int 2634 0,.int 169 0,.str bF 2635]).toArray)
def jCI:Obj:=aP "function" (.func (fdOf (cg pw 20) xW xW 3 [] .none .none .none (.str rE 2623) none (.ref 287) .none 0))
def jCJ:Obj:=dg (.func (eG (cg pw 21) xX xX))
def jCK:Obj:=aP "code" (.fields ([.str xX 2637,.str xX 2638,.str bF 2639,.int 172 0,.int 1 0,.int 0 0,.int 0 0,.int 3 0,.ref 289,.bool true,.int 276 0,.ref 290,.none,.none,.none,.ref 291,.int 2640 0,.int 172 0,.str bF 2641]).toArray)
def jCL:Obj:=aP "function" (.func (fdOf (cg pw 21) xX xX 3 [] .none .none .none (.str rE 2623) none (.ref 292) .none 0))
def jCM:Obj:=aP "tuple" (.seq ([(.str (S "text") 2646),(.str (S "pieces") 2647),(.str (S "begin") 2648),(.str (S "end") 2649)]).toArray 0)
def jCN:Obj:=dg (.func (eG (cg pw 22) xY xY))
def jCO:Obj:=aP "code" (.fields ([.str xY 2643,.str xY 2644,.str bF 2645,.int 185 0,.int 1 0,.int 0 0,.int 0 0,.int 3 0,.ref 294,.bool true,.int 276 0,.ref 295,.none,.ref 296,.ref 297,.ref 298,.int 2650 0,.int 185 0,.str bF 2651]).toArray)
def jCP:Obj:=aP "function" (.func (fdOf (cg pw 22) xY xY 3 [] .none .none .none (.str rE 2623) none (.ref 299) .none 0))
def jCQ:Obj:=aP "tuple" (.seq ([(.str (S "nest") 2656),(.str (S "left") 2657),(.str (S "right") 2658)]).toArray 0)
def jCR:Obj:=dg (.func (eG (cg pw 23) xZ xZ))
def jCS:Obj:=aP "code" (.fields ([.str xZ 2653,.str xZ 2654,.str bF 2655,.int 192 0,.int 1 0,.int 0 0,.int 0 0,.int 3 0,.ref 301,.bool true,.int 276 0,.ref 302,.none,.ref 303,.ref 304,.ref 305,.int 2659 0,.int 192 0,.str bF 2660]).toArray)
def jCT:Obj:=aP "function" (.func (fdOf (cg pw 23) xZ xZ 3 [] .none .none .none (.str rE 2623) none (.ref 306) .none 0))
def jCU:Obj:=dg (.func (eG (cg pw 24) yc yc))
def jCV:Obj:=aP "code" (.fields ([.str yc 2662,.str yc 2663,.str bF 2664,.int 197 0,.int 1 0,.int 0 0,.int 0 0,.int 3 0,.ref 308,.bool true,.int 276 0,.ref 309,.none,.none,.none,.ref 310,.int 2665 0,.int 197 0,.str bF 2666]).toArray)
def jCW:Obj:=aP "function" (.func (fdOf (cg pw 24) yc yc 3 [] .none .none .none (.str rE 2623) none (.ref 311) .none 0))
def jCX:Obj:=aP "tuple" (.seq ([(.str (S "rows") 2671),.str YJ 2672]).toArray 0)
def jCY:Obj:=dg (.func (eG (cg pw 25) yd yd))
def jCZ:Obj:=aP "code" (.fields ([.str yd 2668,.str yd 2669,.str bF 2670,.int 202 0,.int 2 0,.int 0 0,.int 0 0,.int 3 0,.ref 313,.bool true,.int 276 0,.ref 314,.none,.ref 315,.ref 316,.ref 317,.int 2673 0,.int 202 0,.str bF 2674]).toArray)
def jC0:Obj:=aP "function" (.func (fdOf (cg pw 25) yd yd 3 [] .none .none .none (.str rE 2623) none (.ref 318) .none 0))
def jC1:Obj:=aP "tuple" (.seq ([(.str (S "table") 2679),.str YJ 2680,(.str (S "told") 2681)]).toArray 0)
def jC2:Obj:=dg (.func (eG (cg pw 26) ye ye))
def jC3:Obj:=aP "code" (.fields ([.str ye 2676,.str ye 2677,.str bF 2678,.int 204 0,.int 2 0,.int 0 0,.int 0 0,.int 3 0,.ref 320,.bool true,.int 276 0,.ref 321,.none,.ref 322,.ref 323,.ref 324,.int 2682 0,.int 204 0,.str bF 2683]).toArray)
def jC4:Obj:=aP "function" (.func (fdOf (cg pw 26) ye ye 3 [] .none .none .none (.str rE 2623) none (.ref 325) .none 0))
def jC5:Obj:=dg (.func (eG (cg pw 27) yf yf))
def jC6:Obj:=aP "code" (.fields ([.str yf 2685,.str yf 2686,.str bF 2687,.int 208 0,.int 2 0,.int 0 0,.int 0 0,.int 3 0,.ref 327,.bool true,.int 276 0,.ref 328,.none,.none,.none,.ref 329,.int 2688 0,.int 208 0,.str bF 2689]).toArray)
def jC7:Obj:=aP "function" (.func (fdOf (cg pw 27) yf yf 3 [] .none .none .none (.str rE 2623) none (.ref 330) .none 0))
def jC8:Obj:=dg (.func (eG (cg pw 28) yg yg))
def jC9:Obj:=aP "code" (.fields ([.str yg 2691,.str yg 2692,.str bF 2693,.int 212 0,.int 1 0,.int 0 0,.int 0 0,.int 3 0,.ref 332,.bool true,.int 276 0,.ref 333,.none,.none,.none,.ref 334,.int 2694 0,.int 212 0,.str bF 2695]).toArray)
def jDa:Obj:=aP "function" (.func (fdOf (cg pw 28) yg yg 3 [] .none .none .none (.str rE 2623) none (.ref 335) .none 0))
def ZJ(P:Params):BT:=(aj (o0 P) (aj (o1 P) (aj (jA8 P) (aj o7 (aj o7 (aj Gq (aj o7 (aj o7 (aB jCm) .nil) (aj o8 (aB jC0) .nil)) (aj Y8 (aj jBu (aB jCH) .nil) (aB o8))) (aj o8 (aj o8 (aj Gr (aB jCw) .nil) (aj jBV (aB jC9) .nil)) (aj Zq (aj jBD (aB jCQ) .nil) (aB o7)))) (aj yz (aj o7 (aj o7 (aj jBf (aB jCr) .nil) (aj jBQ (aB o7) .nil)) (aj Zg (aj jBy (aB o8) .nil) (aB jB9))) (aj KH (aj YW (aj jBo (aB o7) .nil) (aB o7)) (aj Zy (aj o7 (aB jCV) .nil) (aB o8))))) (aj (By P) (aj yt (aj o7 (aj Rx (aj jBd (aB o8) .nil) (aj o7 (aB o7) .nil)) (aj Zc (aj o8 (aB jCJ) .nil) (aB o7))) (aj KC (aj RN (aj o7 (aB jCA) .nil) (aB jBX)) (aj Zv (aj o7 (aB jCT) .nil) (aB jCf)))) (aj yF (aj Ku (aj RJ (aj jBh (aB jCt) .nil) (aj o8 (aB jC7) .nil)) (aj Zk (aj jBA (aB jCO) .nil) (aB o7))) (aj KQ (aj Y4 (aj jBr (aB jCF) .nil) (aB jB1)) (aj ZF (aj jBJ (aB jCX) .nil) (aB o7)))))) (aj o5 (aj o9 (aj yq (aj o8 (aj KZ (aj o111 (aB jCo) .nil) (aj jBN (aB o8) .nil)) (aj Za (aj Gr (aB o7) .nil) (aB jB5))) (aj o7 (aj o7 (aj jBl (aB (jCy P)) .nil) (aB o7)) (aj Zt (aj o8 (aB jCR) .nil) (aB jCe)))) (aj yD (aj Ks (aj RD (aj o6 (aB o7) .nil) (aj jBS (aB jC5) .nil)) (aj Zi (aj o7 (aB o7) .nil) (aB o8))) (aj KJ (aj YZ (aj jBq (aB jCD) .nil) (aB jB0)) (aj ZC (aj jBI (aB o7) .nil) (aB jCj))))) (aj (yl P) (aj (yw P) (aj Kq (aj Rz (aj Gr (aB o7) .nil) (aj jBP (aB jC3) .nil)) (aj Ze (aj o7 (aB jCL) .nil) (aB jB7))) (aj o7 (aj YS (aj jBn (aB jCB) .nil) (aB jBZ)) (aj o100 (aj jBG (aB o8) .nil) (aB jCh)))) (aj jA9 (aj Kw (aj RK (aj jBj (aB jCu) .nil) (aj o7 (aB o8) .nil)) (aj Zn (aj jBB (aB o7) .nil) (aB jCc))) (aj o8 (aj Y6 (aj o7 (aB o8) .nil) (aB jB3)) (aj o8 (aj jBL (aB jCY) .nil) (aB jCl))))))) (aj (o2 P) (aj o4 (aj o8 (aj yo (aj o7 (aj KY (aj jBb (aB jCn) .nil) (aj jBM (aB o7) .nil)) (aj Y9 (aj jBv (aB jCI) .nil) (aB jB4))) (aj Ky (aj RL (aj jBk (aB jCx) .nil) (aj jBW (aB jDa) .nil)) (aj Zr (aj o7 (aB o7) .nil) (aB o8)))) (aj yC (aj o8 (aj RC (aj jBg (aB jCs) .nil) (aj jBR (aB o8) .nil)) (aj Zh (aj jBz (aB jCM) .nil) (aB o7))) (aj o7 (aj YX (aj jBp (aB o8) .nil) (aB o8)) (aj Zz (aj o8 (aB jCW) .nil) (aB jCi))))) (aj yj (aj (yu P) (aj Ko (aj Ry (aj o6 (aB jCp) .nil) (aj o8 (aB jC2) .nil)) (aj Zd (aj jBw (aB jCK) .nil) (aB o8))) (aj KD (aj RQ (aj o8 (aB o200) .nil) (aB jBY)) (aj Zw (aj jBF (aB o7) .nil) (aB jCg)))) (aj o7 (aj Kv (aj o7 (aj jBi (aB o7) .nil) (aj jBT (aB o7) .nil)) (aj Zm (aj o7 (aB jCP) .nil) (aB jCb))) (aj o7 (aj Y5 (aj (jBs P) (aB o7) .nil) (aB jB2)) (aj o7 (aj jBK (aB o7) .nil) (aB o8)))))) (aj o6 (aj yh (aj yr (aj Km (aj K4 (aj jBc (aB o7) .nil) (aj jBO (aB jC1) .nil)) (aj Zb (aj o7 (aB o8) .nil) (aB jB6))) (aj Kz (aj RM (aj jBm (aB jCz) .nil) (aB o8)) (aj Zu (aj jBE (aB jCS) .nil) (aB o7)))) (aj yE (aj o7 (aj (RG P) (aj Gr (aB o8) .nil) (aj o7 (aB jC6) .nil)) (aj Zj (aj o8 (aB jCN) .nil) (aB jCa))) (aj KN (aj Y0 (aj o7 (aB jCE) .nil) (aB o7)) (aj ZD (aj o7 (aB o8) .nil) (aB jCk))))) (aj ym (aj yx (aj Kr (aj RB (aj jBe (aB jCq) .nil) (aj o7 (aB jC4) .nil)) (aj Zf (aj jBx (aB o7) .nil) (aB jB8))) (aj o8 (aj YT (aj o7 (aB jCC) .nil) (aB Gr)) (aj Zx (aj jBH (aB jCU) .nil) (aB o7)))) (aj Gp (aj o7 (aj o7 (aj o6 (aB jCv) .nil) (aj jBU (aB jC8) .nil)) (aj Zo (aj jBC (aB o8) .nil) (aB jCd))) (aj KR (aj Y7 (aj jBt (aB jCG) .nil) (aB o7)) (aj jBa (aj o7 (aB jCZ) .nil) (aB o7))))))))
noncomputable abbrev tM:Env:={scope:=pw.main.scope,locals:=mainNs,globals:=mainNs,cells:=[],code:=.ref 30,frame:=some 31}
noncomputable abbrev hB:List Stmt:=behindTheImports pw
noncomputable abbrev hC:Code:=.body hB tM
noncomputable abbrev hF:Frame:=topFrame ⟨0,0,0,0⟩
abbrev sZ(w:World)(os:OsState):SharedT:=⟨YK w.params,28,{},#[],{},276,os⟩
abbrev sY(w:World)(os:OsState):SharedT:=⟨YL w.params,32,{},#[],{},282,os⟩
abbrev sX(w:World)(os:OsState):SharedT:=⟨jzU w.params,32,{},#[],{},282,os⟩
abbrev sA(w:World)(os:OsState):SharedT:=⟨jzT w.params,67,{},#[],{},334,os⟩
abbrev sB(w:World)(os:OsState):SharedT:=⟨YQ w.params,85,{},#[],{},401,os⟩
abbrev sC(w:World)(os:OsState):SharedT:=⟨ZG w.params,124,{},#[],{},2352,os⟩
abbrev sF(w:World)(os:OsState):SharedT:=⟨ZJ w.params,337,{},#[],{},2697,os⟩
theorem jxa(w:World):∀os:OsState,segRunT treeTable pw w 28 (some (.ref 6)) 1 177 (sX w os) (piecesOf ((hB.drop 0).take 7) tM hC ⟨0,0,0,0⟩ [hF])=some (.next,sA w os,hC,⟨55,0,55,8⟩):=by
 intro os;rw[O2,Eh];kernel_rfl
theorem jxb(w:World):∀os:OsState,segRunT treeTable pw w 28 (some (.ref 6)) 1 1028 (sA w os) (piecesOf ((hB.drop 7).take 2) tM hC ⟨55,0,55,8⟩ [hF])=some (.next,sB w os,hC,⟨57,0,58,30⟩):=by
 refine byRow2 "special-get-raises" (P:=λw=>∀os:OsState,segRunT treeTable pw w 28 (some (.ref 6)) 1 1028 (sA w os) (piecesOf ((hB.drop 7).take 2) tM hC ⟨55,0,55,8⟩ [hF])=some (.next,sB w os,hC,⟨57,0,58,30⟩)) ?_ ?_ w;all_goals
  intro w os;rw[O2,Eh];kernel_rfl
theorem jxc(w:World):∀os:OsState,segRunT treeTable pw w 28 (some (.ref 6)) 1 1311 (sC w os) (piecesOf ((hB.drop 10).take 18) tM hC ⟨59,0,59,13⟩ [hF])=some (.next,sF w os,hC,⟨212,0,261,54⟩):=by
 intro os;rw[O2,Eh];kernel_rfl
end
noncomputable section
theorem jnu:rising 0 jy=true:=by decide+kernel
theorem Gs:jy.length=650:=by decide+kernel
def yG(P:Params):List Obj:=(YQ P).list 85
theorem RT(P:Params):(yG P).length=85:=by simp[yG,BT.list]
theorem ZK(T:BT)(n:Nat)(g:Array GenState)(d:Drawn)(t:Nat)(os:OsState):SharedT.abs ⟨T,n,{},g,d,t,os⟩=⟨hp (T.list n) {} [],g,d,t,os⟩:=by
 simp[SharedT.abs,absHeap,hp]
def K5:List Obj:=dO (eE 401 (jy.take (17*(37+1)))++fY (401+51*(37+1)) (jy.drop (17*(37+1)))) jy.length::(pg 401 jy (37+1)++[dO (fY (401+51*(37+1)) (jy.drop (17*(37+1)))) (jy.length-17*(37+1))])
theorem jzz(P:Params):(yG P++K5).modify 3 (Obj.putName (Str.ofString "b3_exceptions") (PyData.keyHash P (Str.ofString "b3_exceptions")) (.str (Str.ofString "b3_exceptions") 2351) (.ref 85))=(ZG P).list 124:=by
 unfold K5;rw[Gs];kernel_rfl
theorem jwJ:cg pw 10=.Assign [.Name (Str.ofString "b3_exceptions") (xR (cg pw 10)).1] (.Dict (vO (cg pw 10)).1 (vO (cg pw 10)).2 (xR (cg pw 10)).2.1) (xR (cg pw 10)).2.2:=⋯
theorem jqF:J7 (vO (cg pw 10)).1 (vO (cg pw 10)).2=true:=by decide+kernel
def Gu(P:Params):Obj:=(yG P).getD 3 default
theorem jrY(P:Params):(yG P)[mainNs]?=some (Gu P):=⋯
noncomputable def ZL(o:Obj):Array DictEntry:=match o.data with| .dict es _=>es|_=>#[]
noncomputable def nOf(o:Obj):Nat:=match o.data with| .dict _ n=>n|_=>0
theorem jmE(P:Params):(Gu P).data=.dict (ZL (Gu P)) (nOf (Gu P)):=⋯
theorem joY(P:Params):aRefKeyMayBeTheName (Str.ofString "b3_exceptions") (ZL (Gu P))=false:=⋯
theorem juK:storeName tM (Str.ofString "b3_exceptions")=nsSet mainNs (Str.ofString "b3_exceptions"):=⋯
theorem jus:swapsWith (.Dict (vO (cg pw 10)).1 (vO (cg pw 10)).2 (xR (cg pw 10)).2.1) (some (.Name (Str.ofString "b3_exceptions") (xR (cg pw 10)).1)) (xR (cg pw 10)).2.2.line tM=Pure.pure false:=⋯
theorem jnS(w:World)(os:OsState):Tw treeTable pw w 28 (some (.ref 6)) (650*330+420) (exec (cg pw 10) tM) (SharedT.abs (sB w os)) ⟨57,0,58,30⟩ .next (SharedT.abs (sC w os)) (xR (cg pw 10)).1:=by
 rw[jwJ];have D:=Tw.jHs (p:=pw) (w:=w) (n0:=28) (ann:=some (.ref 6)) (q:=⟨57,0,58,30⟩) (base:=yG w.params) (g:=#[]) (d:={}) (os:=os) (tk:=401) (C:=37) (env:=tM) (more:=K5) (pairs:=jy)
  juK jus jqF rfl jnu (by rw[RT];decide) (by rw[RT];decide) (by rw[Gs];decide) (by rw[Gs];decide) (by rw[Gs];decide) rfl (jrY _) (jmE _) (joY _)
 rw[Gs,RT] at D;have eC:SharedT.abs (sC w os)=⟨(hp (yG w.params) {} K5).update mainNs (Obj.putName (Str.ofString "b3_exceptions") (PyData.keyHash w.params (Str.ofString "b3_exceptions")) (.str (Str.ofString "b3_exceptions") (401+3*650)) (.ref 85)),#[],{},401+3*650+1,os⟩:=by
  rw[ZK,←jzz];simp only[hp,Heap.update,fV];congr 2
 rw[ZK,eC];exact D
theorem jwe(w:World)(os:OsState):topRun treeTable pw w 28 (some (.ref 6)) 2 (SharedT.abs (sF w os)) ⟨doneF .next,hC,⟨212,0,261,54⟩,[hF]⟩=some (SharedT.abs (sF w os)):=⋯
theorem pre(w:World)(os:OsState):topGo treeTable pw w 28 (some (.ref 6)) 12 (SharedT.abs (sZ w os)) (topStub pw)=some (SharedT.abs (sY w os),⟨denote treeTable hC,hC,⟨0,0,0,0⟩,[hF]⟩):=by
 rw[PySem.W.Fast.te15667345088766844465,Eh,PySem.W.Fast.te11892475500146522536];kernel_rfl
theorem block(w:World)(os:OsState):segRun treeTable pw w 28 (some (.ref 6)) 1 1 (SharedT.abs (sY w os)) (blockOf hB tM hC ⟨0,0,0,0⟩ [hF])=some (.next,SharedT.abs (sX w os),hC,⟨0,0,0,0⟩):=⋯
theorem whole(w:World)(os:OsState):topRun treeTable pw w 28 (some (.ref 6)) (12+(1+(177+(1028+((1311+2)+(650*330+420)))))) (SharedT.abs (sZ w os)) (topStub pw)=some (SharedT.abs (sF w os)):=by
 have e:hB=hB.take 7++((hB.drop 7).take 2++(cg pw 10::((hB.drop 10).take 18++[]))):=⋯
 refine go_top (pre w os) ?_;refine piece_block (block w os) ?_
 conv=>lhs;rw[e]
 exact piece_app (segRun_of (jxa w os)) (piece_app (segRun_of (jxb w os)) (jnR (jnS w os) (piece_app (segRun_of (jxc w os)) (piece_nil (jwe w os)))))
end
noncomputable section
def ZM(P:Params):Heap:=absHeap (treeE P) 28 {}
def yH(P:Params):Heap:=absHeap (YK P) 28 {}
def uC(P:Params):Heap:=absHeap (ZJ P) 337 {}
theorem opens(w:World):importEnds treeTable (opening pw) w 799 (start (opening pw)).1 (start (opening pw)).2=some ⟨ZM w.params,#[],{},276,(start (opening pw)).1.os⟩:=by
 rw[PySem.W.Fast.te10274390034422433532,Eh,PySem.W.Fast.te1435165496053646825];kernel_rfl
theorem fence(w:World):(λos=>(fenceModules? pw ⟨ZM w.params,#[],{},276,os⟩).map (λs=>(s.heap,s.gens,s.drawn,s.toks)))=λZ=>some (yH w.params,#[],{},276):=⋯
theorem size(w:World):((yH w.params).isNs mainGlobals&&(#[]:Array GenState).size==0,(yH w.params).objs.size,(yH w.params).nsMap mainGlobals "__annotations__")=(true,28,some (.ref 6)):=⋯
end
noncomputable section
def BJ:Program:={pw with main:={pw.main with body:=[cg pw 28]}}
noncomputable def Gv:List Str:=["_sre","_wall","_iter_escaped_chars","_strip_quoted_realnames","_check_parenthesis","_pre_parse_validation","b1_set","in_table_b1","b3_exceptions","map_table_b3","tspecials","_name_disallowed_re","_value_disallowed_re","_formatparam","Headers","_law_leaf","_law_swapped","_law_items","_law_cut","_law_readings","_law_rows","_law_due","_law_count","_law_mixed"]
abbrev fin(w:World)(os:OsState):Shared:=⟨uC w.params,#[],{},2697,os⟩
theorem jzB(w:World)(os:OsState):(staticsOk (importedModules pw.main.body) (yH w.params) (uC w.params)&&namesBound pw (uC w.params)&&gensDone (fin w os)&&laidKept (yH w.params) (uC w.params))=true:=⋯
theorem jzC(w:World)(os:OsState):openSeen BJ Gv (importedModules pw.main.body) (λZ=>true) true (fin w os)=openGood BJ Gv:=by
 rw[PySem.W.Fast.te4187177175401517315];kernel_rfl
theorem left:LeftO pw BJ Gv (λZ=>true) (λs=>(s.heap,s.toks)) (λw=>(uC w.params,2697)) 300000:=
 LeftO.of_pieces (M:=12+(1+(177+(1028+((1311+2)+(650*330+420)))))) (H₀:=yH) (H₁:=uC) (gs₀:=#[]) (gs₁:=#[]) (d₀:={}) (d₁:={}) (k₀:=276) (k₁:=2697) (m₀:=28) (ann:=some (.ref 6))
  (open_cut opens ∅ fence) size whole ∅
  (λw=>funext λos=>Prod.ext (jzB w os) (Prod.ext (jzC w os) rfl))
end
abbrev BK:=PySem.Challenge.rw_ta0117_01
def dL:DefRec×List (Str×PE):=(PySem.W.defOf BJ ("law":Str)).getD (⟨"law",default,[],default,default⟩,[])
def Gw(w:World):Prop:=WalkX BJ Gv (λZ Z=>True) (λs=>((s.heap,s.toks),True)) (λv=>((uC v.params,2697),v=w)) BK.row.toRowW dL.1 dL.2 λf vs=>PySem.call f vs
noncomputable def w0:World:=@Classical.epsilon World ⟨aWorld 0⟩ λw=>¬Gw w
theorem jot(h:Gw w0)(w:World):Gw w:=Jd λn=>Classical.epsilon_spec (p:=λw=>¬Gw w) ⟨w,n⟩ h
structure World1 where
 prog:Program
 w:World
 h₀:Heap
 hc:Addr
noncomputable def V:World1:=⟨pw,w0,uC w0.params,274⟩
def cj(h:Heap)(a:Addr)(its:Array Value):Prop:=∃o,h.get? a=some o/\∃n,o={cls:=.type "list",data:=.seq its n}
theorem cj.isList(x:cj h a its):h.IsList a its:=by refine ju x λo ho n bB=>?_;subst bB;exact JL _ ho rfl n rfl
theorem cj.plain(x:cj h a its):h.PlainList a its:=by refine ju x λo ho n bB=>?_;subst bB;exact⟨n,ho⟩
theorem cj.of(x:h.PlainList a its):cj h a its:=by refine kE x λn ho=>?_;exact nJ _ ho n rfl
theorem cj.extBut(x:cj h a its)(hs:Heap.ExtBut b h h')(hab:a≠b):cj h' a its:=by refine aH x λo ho r=>?_;exact aW o (hs a o hab ho) r
theorem cj.up(x:cj h a its)(k:∀o,h.get? a=some o->h'.get? a=some o):cj h' a its:=let ⟨o,ho,r⟩:=x;(aW o (k o ho) r)
theorem cj.new(h:Heap)(its:Array Value):cj (h.push {cls:=.type "list",data:=.seq its}) h.objs.size its:=nJ _ (iJ _ rfl) _ rfl
def iV(h:Heap)(a:Addr)(its:Array Value):Prop:=∃o,h.get? a=some o/\∃n,o={cls:=.type "tuple",data:=.seq its n}
theorem iV.isTuple(x:iV h a its):h.IsTuple a its:=by refine ju x λo ho n bB=>?_;subst bB;exact JL _ ho rfl n rfl
mutual
inductive VR(C:Addr->Prop)(h:Heap):PV->Value->Prop where
 |none:VR C h .none .none
 |bool (b:Bool):VR C h (.bool b) (.bool b)
 |int (i:Int) (t:Tok):VR C h (.int i) (.int i t)
 |str (s:List Nat) (t:Tok):VR C h (.str s) (.str ⟨s.toArray⟩ t)
 |tup {l:LV} {a:Addr} {vs:List Value}:C a->iV h a vs.toArray->aV C h l vs->VR C h (.tup l) (.ref a)
 |lst {l:LV} {a:Addr} {vs:List Value}:C a->cj h a vs.toArray->aV C h l vs->VR C h (.lst l) (.ref a)
 |dct {l:List (PV×PV)} {a:Addr} {kvs:List (Str×Value)}:C a->(a==sysModules)=false->h.DictOf (strKind V.prog V.w) a kvs->fZ C h l kvs->VR C h (.dct l) (.ref a)
 |gf {x y:Int} {a:Addr} {t u v:Tok}:C a->IsRange h a x y 1 t u v->VR C h (.gf x y) (.ref a)
 |hdr {l:LV} {x d a:Addr} {o:Obj} {m:Str->Option Value}:C x->C d->h.get? x=some o->o.cls=.ref V.hc->(∀c,o.data≠.cls c)->o.dict=some d->d≠x->h.Ns1 d m->
   m ("_headers":Str)=some (.ref a)->(∀n,n≠("_headers":Str)->m n=none)->VR C h (.lst l) (.ref a)->VR C h (.hdr l) (.ref x)
 |obj (a:Addr):VR C h (.obj a) (.ref a)
 |typ (T:String):VR C h (.typ T) (.type T)
inductive aV(C:Addr->Prop)(h:Heap):List PV->List Value->Prop where
 |nil:aV C h [] []
 |cons {p:PV} {v:Value} {l:LV} {vs:List Value}:VR C h p v->aV C h l vs->aV C h (p::l) (v::vs)
inductive fZ(C:Addr->Prop)(h:Heap):List (PV×PV)->List (Str×Value)->Prop where
 |nil:fZ C h [] []
 |cons {k:List Nat} {p:PV} {v:Value} {l:List (PV×PV)} {es:List (Str×Value)}:VR C h p v->fZ C h l es->fZ C h ((.str k,p)::l) ((⟨k.toArray⟩,v)::es)
end
section
variable{C C':AP}{h h':Heap}
theorem cj.kp(x:cj h a its)(k:∀o,h.get? a=some o->C' a/\h'.get? a=some o):C' a/\cj h' a its:=let ⟨o,ho,r⟩:=x;(kY ((k o ho).1) o ((k o ho).2) r)
theorem iV.kp(x:iV h a its)(k:∀o,h.get? a=some o->C' a/\h'.get? a=some o):C' a/\iV h' a its:=let ⟨o,ho,r⟩:=x;(kY ((k o ho).1) o ((k o ho).2) r)
theorem VR.mono(k:∀a o,C a->h.get? a=some o->C' a/\h'.get? a=some o)(x:VR C h p v):VR C' h' p v:=
 @VR.rec C h (λp v Z=>VR C' h' p v) (λp v Z=>aV C' h' p v) (λp v Z=>fZ C' h' p v)
  .none .bool .int .str (λc x Z l=>.tup (x.kp λo=>k _ o c).1 (x.kp λo=>k _ o c).2 l) (λc x Z l=>.lst (x.kp λo=>k _ o c).1 (x.kp λo=>k _ o c).2 l)
  (λc sm hd Z l=>.dct (let ⟨_,_,_,ho,_⟩:=hd;(k _ _ c ho).1) sm (hd.at λo ho=>(k _ _ c ho).2) l) (λc x=>.gf (k _ _ c x).1 (k _ _ c x).2)
  (λc d x e f g ne n hm hn Z l=>.hdr (k _ _ c x).1 (let ⟨_,_,_,ho,_⟩:=n;(k _ _ d ho).1) (k _ _ c x).2 e f g ne (n.at λo ho=>(k _ _ d ho).2) hm hn l)
  .obj .typ .nil (λZ Z x l=>.cons x l) .nil (λZ Z x l=>.cons x l) p v x
theorem aV.jg(x:aV C h [] v):v=[]:=by cases x;rfl
theorem aV.gh(x:aV C h (p::l) v):∃u us,v=u::us/\VR C h p u/\aV C h l us:=by cases x;exact jT _ _ rfl (‹_›) (‹_›)
theorem aV.mono(k:∀a o,C a->h.get? a=some o->C' a/\h'.get? a=some o)(x:aV C h p v):aV C' h' p v:=
 @aV.rec C h (λZ Z Z=>True) (λp v Z=>aV C' h' p v) (λZ Z Z=>True)
  ⟨⟩ (λZ=>⟨⟩) (λZ Z=>⟨⟩) (λZ Z=>⟨⟩) (λZ Z Z Z=>⟨⟩) (λZ Z Z Z=>⟨⟩) (λZ Z Z Z Z=>⟨⟩) (λZ Z=>⟨⟩) (λZ Z Z Z Z Z Z Z Z Z Z Z=>⟨⟩) (λZ=>⟨⟩) (λZ=>⟨⟩)
  .nil (λx Z Z l=>.cons (x.mono k) l) ⟨⟩ (λZ Z Z Z=>⟨⟩) p v x
theorem fZ.mono(k:∀a o,C a->h.get? a=some o->C' a/\h'.get? a=some o)(x:fZ C h p v):fZ C' h' p v:=
 @fZ.rec C h (λZ Z Z=>True) (λZ Z Z=>True) (λp v Z=>fZ C' h' p v)
  ⟨⟩ (λZ=>⟨⟩) (λZ Z=>⟨⟩) (λZ Z=>⟨⟩) (λZ Z Z Z=>⟨⟩) (λZ Z Z Z=>⟨⟩) (λZ Z Z Z Z=>⟨⟩) (λZ Z=>⟨⟩) (λZ Z Z Z Z Z Z Z Z Z Z Z=>⟨⟩) (λZ=>⟨⟩) (λZ=>⟨⟩)
  ⟨⟩ (λZ Z Z Z=>⟨⟩) .nil (λx Z Z l=>.cons (x.mono k) l) p v x
theorem aV.length:∀{p:LV} {v:List Value},aV C h p v->p.length=v.length:=by
 intro p;induction p with
 |nil=>intro v x;rw[x.jg];rfl
 |cons a l ih=>
  intro v x;refine cP v x.gh λu us Z r=>?_;exact aU (·+1) (ih r)
theorem aV.append:∀{p q:LV} {v u:List Value},aV C h p v->aV C h q u->aV C h (p++q) (v++u):=by
 intro p q;induction p with
 |nil=>intro v u x y;rw[x.jg];exact y
 |cons a l ih=>
  intro v u x y;obtain⟨w,us,rfl,x,r⟩:=x.gh;exact .cons x (ih r y)
theorem aV.get:∀{p:LV} {v:List Value} {i:Nat} {x:PV},aV C h p v->p[i]?=some x->∃u,v[i]?=some u/\VR C h x u:=by
 intro p;induction p with
 |nil=>intro v i x _ e;exact nn e
 |cons a l ih=>
  intro v i x y e;obtain⟨u,us,rfl,y,r⟩:=y.gh;cases i with
  |zero=>cases e;exact aW u rfl y
  |succ i=>exact @ih us i _ r e
theorem aV.take:∀{p:LV} {v:List Value} (i:Nat),aV C h p v->aV C h (p.take i) (v.take i):=by
 intro p;induction p with
 |nil=>intro v i x;rw[x.jg,List.take_nil,List.take_nil];exact .nil
 |cons a l ih=>
  intro v i x;obtain⟨u,us,rfl,x,r⟩:=x.gh;cases i with|zero=>exact .nil|succ i=>exact .cons x (ih i r)
theorem aV.drop:∀{p:LV} {v:List Value} (i:Nat),aV C h p v->aV C h (p.drop i) (v.drop i):=by
 intro p;induction p with
 |nil=>intro v i x;rw[x.jg,List.drop_nil,List.drop_nil];exact .nil
 |cons a l ih=>
  intro v i x;cases i with
  |zero=>exact x
  |succ i=>
   refine cP v x.gh λu us x r=>?_;exact @ih us i r
end
structure aC(W:AP)(G:NP)(s s':Shared):Prop where
 heap:∀b o,¬W b->s.heap.get? b=some o->s'.heap.get? b=some o
 size:s.heap.objs.size<=s'.heap.objs.size
 gens:∀i x,¬G i->s.gens[i]?=some x->s'.gens[i]?=some x
 cV:s.gens.size<=s'.gens.size
 bare:AllBare s.gens->AllBare s'.gens
 os:s'.os=s.os
abbrev no{α:Type}:α->Prop:=λZ=>False
abbrev iW{α β:Type}:α->β->Prop:=λZ Z=>False
abbrev aA(s s':Shared):Prop:=aC no no s s'
theorem aC.refl:aC W G s s:=⟨λZ Z Z e=>e,aN _,λZ Z Z e=>e,aN _,id,rfl⟩
theorem aC.trans(x:aC W G s₁ s₂)(y:aC W G s₂ s₃):aC W G s₁ s₃:=
 ⟨λb o n e=>y.heap b o n (x.heap b o n e),aF x.size y.size,λi z n e=>y.gens i z n (x.gens i z n e),aF x.cV y.cV,λh=>y.bare (x.bare h),y.os.trans x.os⟩
theorem aC.mono(x:aC W G s s')(hw:∀b,b<s.heap.objs.size->W b->W' b)(hg:∀i,i<s.gens.size->G i->G' i):aC W' G' s s':=
 ⟨λb o n e=>x.heap b o (λh=>n (hw b (hls e) h)) e,x.size,λi z n e=>x.gens i z (λh=>n (hg i (by
  rcases uZ i s.gens.size with q|q
  ·exact q
  ·rw[Array.getElem?_eq_none q] at e;exact nn e) h)) e,x.cV,x.bare,x.os⟩
theorem aA.heap(x:aA s s')(e:s.heap.get? b=some o):s'.heap.get? b=some o:=aC.heap x b o (λh=>h) e
theorem aA.cC(x:aA s s'):aC W G s s':=aC.mono x (λZ Z h=>h.elim) λZ Z h=>h.elim
theorem aA.toks:aA s {s with toks:=t}:=⟨λZ Z Z e=>e,aN _,λZ Z Z e=>e,aN _,id,rfl⟩
theorem aA.push:aA s {s with heap:=s.heap.push o,toks:=t}:=⟨λZ Z Z e=>fO _ e,by show _<=(s.heap.push o).objs.size;rw[fK];exact iH _,λZ Z Z e=>e,aN _,id,rfl⟩
theorem aA.jt:aA s {s with heap:=s.heap.push o}:=aA.push
theorem aA.of(hk:∀b o,s.heap.get? b=some o->h'.get? b=some o)(hs:s.heap.objs.size<=h'.objs.size):aA s {s with heap:=h',toks:=t}:=⟨λb o Z e=>hk b o e,hs,λZ Z Z e=>e,aN _,id,rfl⟩
theorem VR.ext(x:aA s s')(h:VR C s.heap p v):VR C s'.heap p v:=h.mono λZ Z c e=>⟨c,x.heap e⟩
theorem aV.ext(x:aA s s')(h:aV C s.heap p v):aV C s'.heap p v:=h.mono λZ Z c e=>⟨c,x.heap e⟩
structure aR(A:Around)(d:Nat):Prop where
 handled:A.handled=none
 depth:A.depth+d<recursionLimit
 units:A.units+12*d+60<cLine
def BL(o:Obj):Prop:=∀n,o.cls=.type n->["enumerate","zip","dict_itemiterator","dict_reverseitemiterator","odict_iterator","itertools.zip_longest","itertools.pairwise"].contains n=false
structure It(C:AP)(hi:Nat)(I:Addr)(items:LV)(wr fp:AP)(wg:NP)(St:Nat->Shared->Prop):Prop where
 item:∀(A:Around) i s pv,aR A 1->items[i]?=some pv->St i s->wpAny (model V.prog V.w) A (pyNext (.ref I)) (λr s'=>∃v,r=some v/\VR (λb=>C b/\¬wr b/\(b<hi\/s.heap.objs.size<=b)) s'.heap pv v/\St (i+1) s'/\aC wr wg s s') iW s
 done:∀(A:Around) s,aR A 1->St items.length s->wpAny (model V.prog V.w) A (pyNext (.ref I)) (λr s'=>r=none/\aC wr wg s s') iW s
 self:∀(A:Around) i s,aR A 1->St i s->wpAny (model V.prog V.w) A (pyIter (.ref I)) (λv s'=>v=.ref I/\St i s'/\aA s s') iW s
 quiet:∀i s,St i s->∃o,s.heap.get? I=some o/\BL o
 frame:∀i s s',St i s->(∀b o,fp b->s.heap.get? b=some o->s'.heap.get? b=some o)->(∀i x,wg i->s.gens[i]?=some x->s'.gens[i]?=some x)->St i s'
 plain:∀pv∈items,pv.plain=true
def Ready(C:AP)(lo aY:Nat)(s:Shared)(items:LV)(it:Value):Prop:=
 ∃hi I wr fp wg St,it=.ref I/\It C hi I items wr fp wg St/\St 0 s/\hi<=s.heap.objs.size/\(∀b,wr b->lo<=b/\b<s.heap.objs.size)/\(∀b,fp b->(wr b\/C b)/\b<s.heap.objs.size)/\(∀b,wr b->fp b)/\(∀i,wg i->aY<=i/\i<s.gens.size)
structure lN(wr:AP)(g:Nat)(s s':Shared):Prop where
 heap:∀b o,wr b->s.heap.get? b=some o->s'.heap.get? b=some o
 size:s.heap.objs.size<=s'.heap.objs.size
 gens:∀x,s.gens[g]?=some x->s'.gens[g]?=some x
 cV:s.gens.size<=s'.gens.size
theorem lN.refl:lN wr g s s:=⟨λZ Z Z e=>e,aN _,λZ e=>e,aN _⟩
theorem lN.trans(x:lN wr g s₁ s₂)(y:lN wr g s₂ s₃):lN wr g s₁ s₃:=
 ⟨λb o w e=>y.heap b o w (x.heap b o w e),aF x.size y.size,λz e=>y.gens z (x.gens z e),aF x.cV y.cV⟩
theorem aA.keep(x:aA s s'):lN wr g s s':=⟨λZ Z Z e=>aA.heap x e,aC.size x,λz e=>aC.gens x g z (λh=>h) e,aC.cV x⟩
def Base(s:Shared):Prop:=(∀b o,V.h₀.get? b=some o->s.heap.get? b=some o)/\AllBare s.gens
def mK(I:Addr)(g:Nat):LV->(AP)->Shared->Prop
 |[],wr,s=>∀(A:Around) s',aR A 4->Base s'->lN (λb=>wr b\/b=I) g s s'->wpAny (model V.prog V.w) A (pyNext (.ref I)) (λr s''=>r=none/\aC wr (λi=>i=g) s' s'') iW s'
 |x::l,wr,s=>∀(A:Around) s',aR A 4->Base s'->lN (λb=>wr b\/b=I) g s s'->wpAny (model V.prog V.w) A (pyNext (.ref I)) (λr s''=>∃v wr',r=some v/\VR (λb=>s'.heap.objs.size<=b/\¬wr' b) s''.heap x v/\aC wr (λi=>i=g) s' s''/\
   (∀b,wr b->wr' b)/\(∀b,wr' b->wr b\/(s'.heap.objs.size<=b/\b<s''.heap.objs.size))/\mK I g l wr' s'') iW s'
theorem mK.keep{I:Addr}{g:Nat}{wr:AP}{s s':Shared}:∀{l:LV},mK I g l wr s->lN (λb=>wr b\/b=I) g s s'->mK I g l wr s'
 |[],x,k=>λA s₂ hA hb h=>x A s₂ hA hb (k.trans h)|_::_,x,k=>λA s₂ hA hb h=>x A s₂ hA hb (k.trans h)
def BP(lo aY:Nat)(s:Shared)(l:LV)(v:Value):Prop:=
 ∃I g wr,v=.ref I/\(¬wr I/\lo<=I/\∀b,wr b->V.h₀.get? b=none)/\(∃o nm qn,s.heap.get? I=some o/\o.cls=.type "generator"/\o.data=.fields #[.int (g:Nat) 0,nm,qn]/\o.slots=#[])/\(∀b,wr b->lo<=b/\b<s.heap.objs.size)/\aY<=g/\g<s.gens.size/\mK I g l wr s
theorem BP.ext{lo aY:Nat}{s s':Shared}{l:LV}{v:Value}(x:BP lo aY s l v)(e:aA s s'):BP lo aY s' l v:=by
 refine vH x λI g wr eq1 h1 nj h3 h4 h5 h6=>?_;subst eq1;obtain⟨o,nm,qn,ho,r⟩:=nj;exact QB I g wr rfl h1 (jU o nm qn (e.heap ho) r) (λb w=>⟨(h3 b w).1,bJ (h3 b w).2 e.size⟩) h4 (bJ h5 e.cV) (h6.keep (aA.keep e))
noncomputable def VX(C:AP)(lo aY:Nat)(s:Shared)(p:PV)(v:Value):Prop:=match p with
 | .own l=>∃a vs,v=.ref a/\¬C a/\cj s.heap a (List.toArray vs)/\aV C s.heap l vs| .gen l=>BP lo aY s l v|p=>VR C s.heap p v
theorem VX.ext{C:AP}{lo aY:Nat}{s s':Shared}{p:PV}{v:Value}(x:VX C lo aY s p v)(e:aA s s'):VX C lo aY s' p v:=by
 cases p with
 |own l=>
  refine dZ x λa vs q hc bC hl=>?_;obtain⟨o,ho,r⟩:=bC;exact fW a vs q hc (aW o (e.heap ho) r) (hl.ext e)
 |gen=>exact BP.ext x e|_=>exact VR.ext e x
theorem VX.Ie{C C':AP}{lo aY lo' vz:Nat}{s s':Shared}{p:PV}{v:Value}(x:VX C lo aY s p v)(hg:p.oN=false)(k:∀a o,C a->s.heap.get? a=some o->C' a/\s'.heap.get? a=some o)
  (k':∀l a o,p=.own l->v=.ref a->¬C a->s.heap.get? a=some o->¬C' a/\s'.heap.get? a=some o):VX C' lo' vz s' p v:=by
 cases p with
 |own l=>
  refine dZ x λa vs e hc ho hl=>?_;have q:=ho.kp (C':=λa=>¬C' a) λo g=>k' l a o rfl e hc g;exact fW a vs e q.1 q.2 (hl.mono k)
 |gen=>exact nt hg|_=>exact VR.mono k x
theorem VX.kp{C C':AP}{lo aY lo' vz:Nat}{s s':Shared}{p:PV}{v:Value}(x:VX C lo aY s p v)(hg:p.oN=false)(k:∀a o,C a->s.heap.get? a=some o->C' a/\s'.heap.get? a=some o)
  (k':∀a o its,cj s.heap a its->¬C a->s.heap.get? a=some o->¬C' a/\s'.heap.get? a=some o):VX C' lo' vz s' p v:=
 x.Ie hg k λl a o ep ev hc g=>by
  subst ep;refine dZ x λa' vs e hc' ho hl=>?_;cases ev.symm.trans e;exact k' a o _ ho hc g
theorem VX.plain{C:AP}{lo aY:Nat}{s:Shared}{p:PV}{v:Value}(x:VX C lo aY s p v)(hp:p.plain=true):VR C s.heap p v:=by
 cases p<;>first|exact x|exact nf hp
theorem VX.of{C:AP}{lo aY:Nat}{s:Shared}{p:PV}{v:Value}(x:VR C s.heap p v):VX C lo aY s p v:=by
 cases p<;>first|exact x|cases x
theorem VX.lo{C:AP}{lo aY lo' vz:Nat}{s:Shared}{p:PV}{v:Value}(x:VX C lo aY s p v)(h:lo'<=lo)(hg:vz<=aY):VX C lo' vz s p v:=by
 cases p<;>first|exact x|skip
 refine vH x λI g wr eq1 h1 h2 h3 h4 h5 h6=>?_;subst eq1;exact QB I g wr rfl ⟨h1.1,aF h h1.2.1,h1.2.2⟩ h2 (λb w=>⟨aF h (h3 b w).1,(h3 b w).2⟩) (aF hg h4) h5 h6
def ZP(C:AP)(h:Heap)(v:Value):PV->Prop
 | .none=>v=.none| .bool b=>v=.bool b| .int i=>∃t,v=.int i t| .str y=>∃t,v=.str ⟨y.toArray⟩ t| .typ T=>v=.type T| .tup l=>∃a vs,v=.ref a/\iV h a (List.toArray vs)/\aV C h l vs| .lst l=>∃a vs,v=.ref a/\cj h a (List.toArray vs)/\aV C h l vs| .own l=>∃a vs,v=.ref a/\cj h a (List.toArray vs)/\aV C h l vs| .gf x y=>∃a t u w,v=.ref a/\IsRange h a x y 1 t u w|_=>∃a,v=.ref a
theorem VR.iv(x:VR C h p v):ZP C h v p:=by
 cases x with|none=>exact rfl|bool=>exact rfl|int i t=>exact⟨t,rfl⟩|str i t=>exact⟨t,rfl⟩|typ=>exact rfl|tup _ a b=>exact jT _ _ rfl a b|lst _ a b=>exact jT _ _ rfl a b|gf _ a=>exact Ff _ _ _ _ rfl a|_=>exact⟨_,rfl⟩
theorem VX.iv{C:AP}{lo aY:Nat}{s:Shared}{p:PV}{v:Value}(x:VX C lo aY s p v):ZP C s.heap v p:=by
 cases p with|own l=>refine eX x λa vs e Z b=>?_;exact fP a vs e b|gen l=>refine jK x λa Z Z e Z=>?_;exact⟨a,e⟩|_=>exact VR.iv x
noncomputable def PV.isRef:PV->Bool
 | .none=>false| .bool _=>false| .int _=>false| .str _=>false| .typ _=>false|_=>true
theorem VX.ref{C:AP}{lo aY:Nat}{s:Shared}{p:PV}{v:Value}(x:VX C lo aY s p v)(h:p.isRef=true):∃a,v=.ref a:=by
 have y:=x.iv;cases p with|none=>exact nf h|bool=>exact nf h|int=>exact nf h|str=>exact nf h|typ=>exact nf h|tup=>exact⟨_,y.choose_spec.choose_spec.1⟩|lst=>exact⟨_,y.choose_spec.choose_spec.1⟩|own=>exact⟨_,y.choose_spec.choose_spec.1⟩|gf=>refine rn y λa Z Z Z e Z=>?_;exact⟨a,e⟩|_=>exact y
theorem VX.any{C:AP}{lo aY lo' vz:Nat}{s:Shared}{p:PV}{v:Value}(x:VX C lo aY s p v)(h:p.oN=false):VX C lo' vz s p v:=by
 cases p<;>first|exact x|exact nt h
def jz(env:Env)(m:Str->Option Value)(h:Heap)(x:Str)(v:Value):Prop:=
 (env.kindOf x=some .local/\m x=some v)\/(env.kindOf x=some .cell/\∃c,env.cells.lookup x=some c/\h.IsCell c (some v))
noncomputable def RV:NameKind->NameKind
 | .free=>.cell|k=>k
structure FA(env:Env)(η:ME)(C K:AP)(KG:NP)(s:Shared):Prop where
 fn:env.scope.kind=.function
 gl:env.globals=mainGlobals
 bi:env.builtins=builtinsNs
 kinds:∀x k,cZ η x=some k->env.kindOf x=some (RV k)
 sees:∃(m:Str->Option Value) (f:Str->Value),s.heap.Ns env.locals m/\(∀x pv,look x η=some pv->pv.oN=false/\jz env m s.heap x (f x)/\VX C 0 0 s pv (f x))/\
  (∀x l a,look x η=some (.own l)->f x=.ref a->¬K a)/\(∀x y l l',look x η=some (.own l)->look y η=some (.own l')->f x=f y->x=y)
 cells:∀x,env.kindOf x=some .cell->∃c v0,env.cells.lookup x=some c/\s.heap.IsCell c v0
 oK:∀x y c,env.cells.lookup x=some c->env.cells.lookup y=some c->x=y
 cJ:∀a,s.heap.objs.size<=a->C a
 dY:¬C env.locals/\¬K env.locals/\V.h₀.get? env.locals=none
 gP:∀x c,env.kindOf x=some .cell->env.cells.lookup x=some c->¬C c/\¬K c/\V.h₀.get? c=none
 kept:(∀b,K b->b<s.heap.objs.size)/\(∀i,KG i->i<s.gens.size)
 wf:∀f∈η,f.vals.length=f.names.length
 base:∀b o,V.h₀.get? b=some o->s.heap.get? b=some o
 bare:AllBare s.gens
 hk:∀b o,V.h₀.get? b=some o->K b
theorem FA.move{C C' K K':AP}{KG iG:NP}(x:FA env η C K KG s)(k:∀a o,C a->s.heap.get? a=some o->C' a/\s'.heap.get? a=some o)
  (h:∀a o,¬C a->¬K a->s.heap.get? a=some o->¬C' a/\¬K' a/\s'.heap.get? a=some o)(cJ:∀a,s'.heap.objs.size<=a->C' a)(kept:(∀b,K' b->b<s'.heap.objs.size)/\∀i,iG i->i<s'.gens.size)
  (base:∀b o,V.h₀.get? b=some o->s'.heap.get? b=some o)(bare:AllBare s'.gens)(hk:∀b o,V.h₀.get? b=some o->K' b):FA env η C' K' iG s':=by
 refine dZ x.sees λm f bC h2 h3 h4=>?_;obtain⟨o,es,ep,ho,r⟩:=bC;have hL:=h _ o x.dY.1 x.dY.2.1 ho;have hC:∀y c,env.kindOf y=some .cell->env.cells.lookup y=some c->∀o,s.heap.get? c=some o->¬C' c/\¬K' c/\s'.heap.get? c=some o:=λy c hy hc o ho=>h c o (x.gP y c hy hc).1 (x.gP y c hy hc).2.1 ho;have hO:∀y l a,look y η=some (.own l)->f y=.ref a->¬C a->∀o,s.heap.get? a=some o->¬C' a/\¬K' a/\s'.heap.get? a=some o:=λy l a hy e hc o ho=>h a o hc (h3 y l a hy e) ho;refine⟨x.fn,x.gl,x.bi,x.kinds,fW m f (jU o es ep hL.2.2 r) (λy pv hy=>?_) (λy l a hy e=>?_) h4,λy hy=>?_,x.oK,cJ,⟨hL.1,hL.2.1,x.dY.2.2⟩,λy c hy hc=>?_,kept,x.wf,base,bare,hk⟩
 ·refine cD (h2 y pv hy) λhg hb hv=>?_;refine⟨hg,hb.imp_right λ⟨hk,c,hc,o,ho,r⟩=>⟨hk,c,hc,o,(hC y c hk hc o ho).2.2,r⟩,hv.Ie hg k λl a o e e2 hc g=>?_⟩;have q:=hO y l a (e▸hy) e2 hc o g;exact⟨q.1,q.2.2⟩
 ·refine dZ ((h2 y _ hy).2.2) λa' vs ea hc bC Z=>?_;obtain⟨o,ho,_⟩:=bC;cases ea.symm.trans e;exact(hO y l a hy e hc o ho).2.1
 ·refine Qm (x.cells y hy) λc v0 hc o ho r=>?_;exact⟨c,v0,hc,o,(hC y c hy hc o ho).2.2,r⟩
 ·refine Qm (x.cells y hy) λc' v0 hc' o ho r=>?_;cases hc'.symm.trans hc;have q:=hC y c hy hc o ho;exact⟨q.1,q.2.1,(x.gP y c hy hc).2.2⟩
theorem FA.ext'{C C' K:AP}{KG:NP}(x:FA env η C K KG s)(e:aA s s')(h1':∀b,b<s.heap.objs.size->C b->C' b)(h2':∀b,C' b->C b)(h3':∀a,s'.heap.objs.size<=a->C' a):FA env η C' K KG s':=
 x.move (λa Z c g=>⟨h1' a (hls g) c,e.heap g⟩) (λa Z hc hk g=>⟨λc=>hc (h2' a c),hk,e.heap g⟩) h3' ⟨λb hb=>bJ (x.kept.1 b hb) e.size,λi hi=>bJ (x.kept.2 i hi) e.cV⟩ (λb o hb=>e.heap (x.base b o hb)) (e.bare x.bare) x.hk
theorem FA.ext{C K:AP}{KG:NP}(x:FA env η C K KG s)(e:aA s s'):FA env η C K KG s':=
 x.ext' e (λZ Z h=>h) (λZ h=>h) λa ha=>x.cJ a (aF e.size ha)
theorem FA.less{C K:AP}{KG:NP}(x:FA env η C K KG s)(h:∀y p,look y aq=some p->look y η=some p)(hk:∀y,cZ aq y=cZ η y)(hw:∀f∈aq,f.vals.length=f.names.length):FA env aq C K KG s:=by
 refine dZ x.sees λm f h1 h2 h3 h4=>?_;exact⟨x.fn,x.gl,x.bi,λy k hy=>x.kinds y k (hk y▸hy),fW m f h1 (λy p hy=>h2 y p (h y p hy)) (λy l a hy=>h3 y l a (h y _ hy)) (λy z l l' hy hz=>h4 y z l l' (h y _ hy) (h z _ hz)),x.cells,x.oK,x.cJ,x.dY,x.gP,x.kept,hw,x.base,x.bare,x.hk⟩
def f9(env:Env)(η:ME)(b:Addr):Prop:=b=env.locals\/∃y,cZ η y=some .cell/\env.cells.lookup y=some b
section
variable{A:Around}{env:Env}{η:ME}{C K:AP}{KG:NP}{s:Shared}
theorem FA.load(x:FA env η C K KG s)(hy:look y η=some pv):wpAny (model V.prog V.w) A (loadName env y) (λv s'=>s'=s/\VX C 0 0 s pv v/\pv.oN=false) iW s:=by
 refine dZ x.sees λm f h1 h2 h3 h4=>?_;refine cD (h2 y pv hy) λhg hb hv=>?_;rcases hb with ⟨hk,hm⟩|⟨hk,c,hc,hcell⟩
 ·exact I6 x.fn hk h1 hm ⟨rfl,hv,hg⟩
 ·exact Pb x.fn hk hc hcell ⟨rfl,hv,hg⟩
end
theorem ZQ{x y:Str}{pv:PV}:∀{ns:List (Str×NameKind)} {vs:List (OV)},vs.length=ns.length->(ns.lookup x).isSome=true->valAt y ns (setAt x pv ns vs)=if y=x then some pv else valAt y ns vs
 |[],_,_,h=>nomatch h|_::_,[],h,_=>nomatch h
 |(nm,k)::ns,v::vs,h,hs=>by
  show valAt y ((nm,k)::ns) (if x==nm then some pv::vs else v::setAt x pv ns vs)=if y=x then some pv else if y==nm then v else valAt y ns vs
  by_cases e:x=nm
  ·rw[←e,aX (kh x)];show(if y==x then some pv else valAt y ns vs)=_;by_cases ey:y=x
   ·rw[aX ey,aX (bO.mpr ey)]
   ·have ne:¬(y==x)=true:=λq=>ey (eq_of_beq q);rw[aZ ey,aZ ne,aZ ne]
  ·rw[aZ λq=>e (eq_of_beq q)];show(if y==nm then v else valAt y ns (setAt x pv ns vs))=_;rw[ZQ (wU h) (by rw[mq,gD.mpr e] at hs;exact hs)];by_cases ey:y=nm
   ·rw[aX (bO.mpr ey),aX (bO.mpr ey),aZ λz=>e (z.symm.trans ey)]
   ·have ne:¬(y==nm)=true:=λq=>ey (eq_of_beq q);rw[aZ ne,aZ ne]
theorem ZR{x:Str}{pv:PV}:∀{ns:List (Str×NameKind)} {vs:List (OV)},(setAt x pv ns vs).length=vs.length
 |[],_=>rfl|_::_,[]=>rfl
 |n::ns,v::vs=>by
  show(if x==n.1 then some pv::vs else v::setAt x pv ns vs).length=_;by_cases e:(x==n.1)=true
  ·rw[aX e];rfl
  ·rw[aZ e];exact aU (·+1) ZR
theorem mO{x y:Str}{pv:PV}{η aq:ME}(h:bM x pv η=some aq)(wf:∀f∈η,f.vals.length=f.names.length):
  look y aq=(if y=x then some pv else look y η)/\(cZ η x=some .local\/cZ η x=some .cell)/\(∀z,cZ aq z=cZ η z)/\∀f∈aq,f.vals.length=f.names.length:=by
 cases η with
 |nil=>exact nn h
 |cons f r=>
  have key:∀k,f.names.lookup x=some k->(k=.local\/k=.cell)->aq={f with vals:=setAt x pv f.names f.vals}::r->
    look y aq=(if y=x then some pv else look y (f::r))/\(cZ (f::r) x=some .local\/cZ (f::r) x=some .cell)/\(∀z,cZ aq z=cZ (f::r) z)/\∀f∈aq,f.vals.length=f.names.length:=by
   intro k hk hor e;subst e;have hw:=wf f (.head _);have hv:=λz=>ZQ (x:=x) (y:=z) (pv:=pv) hw (by rw[hk];rfl);refine jh ?_ (by rcases hor with rfl|rfl<;>simp[cZ,hk]) (λz=>rfl) (λg hg=>?_)
   ·by_cases ey:y=x
    ·subst ey;rw[aX rfl];rw[JQ];dsimp only;rw[hk];rcases hor with rfl|rfl<;>(dsimp only;rw[hv];simp)
    ·rw[aZ ey];rw[JQ,JQ];dsimp only;cases hq:f.names.lookup y with
     |none=>rfl
     |some k'=>cases k'<;>dsimp only<;>first|rfl|(rw[hv,aZ ey])
   ·rcases gO.mp hg with rfl|hg
    ·simp[ZR,hw]
    ·exact wf g (.tail _ hg)
  unfold bM at h;dsimp only at h;cases hk:f.names.lookup x with
  |none=>rw[hk] at h;exact nn h
  |some k=>
   rw[hk] at h;cases k<;>first|(cases h;done)|(cases h;exact key _ hk (by simp) rfl)
section
variable{A:Around}{env:Env}{η aq:ME}{C K:AP}{KG:NP}{s:Shared}
theorem BR{h:Heap}{a:Addr}{its:Array Value}{m:Str->Option Value}(x:h.IsList a its)(y:h.Ns a m):False:=by
 refine Ql x λo ho hc n hd=>?_;refine Ba y λo' es ep ho' hd' Z=>?_;rw[ho] at ho';cases ho';rw[hd] at hd';cases hd'
theorem RW{h:Heap}{a:Addr}{its:Array Value}{u:Option Value}(x:h.IsList a its)(y:h.IsCell a u):False:=by
 refine Ql x λo ho hc n hd=>?_;refine aH y λo' ho' hd'=>?_;rw[ho] at ho';cases ho';rw[hd] at hd';cases hd'
theorem Gx{h:Heap}{a:Addr}{m:Str->Option Value}{u:Option Value}(x:h.Ns a m)(y:h.IsCell a u):False:=by
 refine Ba x λo es ep ho hd Z=>?_;refine aH y λo' ho' hd'=>?_;rw[ho] at ho';cases ho';rw[hd] at hd';cases hd'
structure Wr(env:Env)(C K:AP)(s:Shared)(y:Str)(v:Value)(m m':Str->Option Value)(w:Addr)(h':Heap):Prop where
 sb:Heap.SameBut w s.heap h'
 c:¬C w
 k:¬K w/\V.h₀.get? w=none
 n:h'.Ns env.locals m'
 m:∀z,z≠y->env.kindOf z=some .local->m' z=m z
 cl:∀z c u,z≠y->env.kindOf z=some .cell->env.cells.lookup z=some c->s.heap.IsCell c u->h'.IsCell c u
 cy:∃c v0,env.kindOf y=some .cell->env.cells.lookup y=some c/\h'.IsCell c v0
 bd:jz env m' h' y v
 l:∀a its,s.heap.IsList a its->a≠w
section
variable{v:Value}{y:Str}{m m':Str->Option Value}{w:Addr}{h':Heap}{tk:Nat}{pv:PV}{f:Str->Value}
theorem Wr.vx(W:Wr env C K s y v m m' w h')(hp:p.oN=false)(hx:VX C 0 0 s p u):VX C 0 0 {s with heap:=h',toks:=tk} p u:=
 hx.kp hp (λa o c e=>⟨c,(W.sb.2 a (λq=>W.c (q▸c))).trans e⟩) λa o Z hli hc e=>⟨hc,(W.sb.2 a (W.l a _ hli.isList)).trans e⟩
theorem Wr.to(W:Wr env C K s y v m m' w h')(e:z≠y)(hb:jz env m s.heap z u):jz env m' h' z u:=
 hb.imp (λq=>⟨q.1,(W.m z e q.1).trans q.2⟩) λ⟨hk,c,hc,hcell⟩=>kY hk c hc (W.cl z c _ e hk hc hcell)
theorem Wr.cells(W:Wr env C K s y v m m' w h')(x:FA env η C K KG s)(z:Str)(hz:env.kindOf z=some .cell):∃c v0,env.cells.lookup z=some c/\h'.IsCell c v0:=
 if e:z=y then let ⟨c,v0,q⟩:=W.cy;(kW c v0 (e▸q (e▸hz))) else let ⟨c,v0,hc,hcell⟩:=x.cells z hz;(fP c v0 hc (W.cl z c _ e hz hc hcell))
theorem FA.stored(x:FA env η C K KG s)(hs:bM y pv η=some aq)(hg:pv.oN=false)(hv:VX C 0 0 s pv v)(W:Wr env C K s y v m m' w h')
  (h2:∀x pv,look x η=some pv->pv.oN=false/\jz env m s.heap x (f x)/\VX C 0 0 s pv (f x))(h3:∀x l a,look x η=some (.own l)->f x=.ref a->¬K a)(h4:∀x y l l',look x η=some (.own l)->look y η=some (.own l')->f x=f y->x=y)
  (ho:∀l,pv=.own l->∀a,v=.ref a->¬K a/\∀z l',z≠y->look z η=some (.own l')->f z≠v):FA env aq C K KG {s with heap:=h',toks:=tk}:=by
 have hl:=λz=>mO (y:=z) hs x.wf;have V9:∀u l₁ l₂,u≠y->look u η=some (.own l₁)->pv=.own l₂->f u≠v:=λu l₁ l₂ hu hlu e=>by
  obtain⟨a,_,ea,_⟩:=e▸hv;exact(ho l₂ e a ea).2 u l₁ hu hlu
 have at1:∀{z p},z=y->look z aq=some p->p=pv:=λ{z p} e h=>by rw[(hl z).1,aX e] at h;exact(ir h).symm
 have at2:∀{z p},z≠y->look z aq=some p->look z η=some p:=λ{z p} e h=>by rw[(hl z).1,aZ e] at h;exact h
 have f1:∀{z},z=y->(if z=y then v else f z)=v:=λe=>aX e;have f2:∀{z},z≠y->(if z=y then v else f z)=f z:=λe=>aZ e;refine⟨x.fn,x.gl,x.bi,λz k hz=>x.kinds z k ((hl z).2.2.1 z▸hz),fW m' (λz=>if z=y then v else f z) W.n (λz p hz=>?_) (λz l a hz ha=>?_) (λz z' l l' hz hz' e=>?_),λz hz=>W.cells x z hz,x.oK,λa ha=>x.cJ a (W.sb.1▸ha),x.dY,x.gP,⟨λb hb=>W.sb.1.symm▸x.kept.1 b hb,x.kept.2⟩,(hl y).2.2.2,
  λb o hb=>(W.sb.2 b λq=>by rw[q,W.k.2] at hb;exact nn hb).trans (x.base b o hb),x.bare,x.hk⟩
 ·by_cases e:z=y
  ·show p.oN=false/\jz env m' h' z (if z=y then v else f z)/\VX C 0 0 _ p (if z=y then v else f z);rw[at1 e hz,f1 e,e];exact⟨hg,W.bd,W.vx hg hv⟩
  ·show p.oN=false/\jz env m' h' z (if z=y then v else f z)/\VX C 0 0 _ p (if z=y then v else f z);rw[f2 e];refine cD (h2 z p (at2 e hz)) λhg' hb hx=>?_;exact⟨hg',W.to e hb,W.vx hg' hx⟩
 ·by_cases e:z=y
  ·exact(ho l (at1 e hz).symm a ((f1 e).symm.trans ha)).1
  ·exact h3 z l a (at2 e hz) ((f2 e).symm.trans ha)
 ·by_cases e1:z=y
  ·by_cases e2:z'=y
   ·exact e1.trans e2.symm
   ·exact absurd (((f1 e1).symm.trans e).trans (f2 e2)).symm (V9 z' l' l e2 (at2 e2 hz') (at1 e1 hz).symm)
  ·by_cases e2:z'=y
   ·exact absurd (((f2 e1).symm.trans e).trans (f1 e2)) (V9 z l l' e1 (at2 e1 hz) (at1 e2 hz').symm)
   ·exact h4 z z' l l' (at2 e1 hz) (at2 e2 hz') (((f2 e1).symm.trans e).trans (f2 e2))
theorem FA.store(x:FA env η C K KG s)(hs:bM y pv η=some aq)(hg:pv.oN=false)(hv:VX C 0 0 s pv v)
  (ho:∀l,pv=.own l->∀a,v=.ref a->¬K a/\∀(m:Str->Option Value) (f:Str->Value),s.heap.Ns env.locals m->(∀z l',look z η=some (.own l')->jz env m s.heap z (f z))->∀z l',z≠y->look z η=some (.own l')->f z≠v):
  wpAny (model V.prog V.w) A (storeName env y v) (λZ s'=>aC (f9 env η) no s s'/\s'.heap.objs.size=s.heap.objs.size/\s'.gens=s.gens/\FA env aq C K KG s') iW s:=by
 refine dZ x.sees λm f h1 h2 h3 h4=>?_;have main:∀{w:Addr} {h':Heap} {tk:Nat} {m':Str->Option Value},f9 env η w->Wr env C K s y v m m' w h'->
   aC (f9 env η) no s {s with heap:=h',toks:=tk}/\({s with heap:=h',toks:=tk}:Shared).heap.objs.size=s.heap.objs.size/\({s with heap:=h',toks:=tk}:Shared).gens=s.gens/\FA env aq C K KG {s with heap:=h',toks:=tk}:=λhot W=>
  (jh ⟨λb o n e=>(W.sb.2 b (λq=>n (q▸hot))).trans e,fH W.sb.1.symm,λZ Z Z e=>e,aN _,id,rfl⟩ W.sb.1 rfl (x.stored hs hg hv W h2 h3 h4 λl e a ea=>⟨(ho l e a ea).1,(ho l e a ea).2 m f h1 λz l' hz=>(h2 z _ hz).2.1⟩))
 rcases(mO (y:=y) hs x.wf).2.1 with hkd|hkd
 ·have hk:=x.kinds y _ hkd;exact wpAny_storeName_local hk h1 (λh' n' sb=>main (.inl rfl) ⟨sb,x.dY.1,x.dY.2,n',λz e Z=>aZ e,λz c u e hz hc hcell=>hcell.sameBut sb λq=>Gx h1 (q▸hcell),kW 0 none (λq=>by rw[hk] at q;cases q),.inl ⟨hk,aX rfl⟩,λa its l q=>BR l (q▸h1)⟩) (by rw[x.fn];rfl)
 ·have hk:=x.kinds y _ hkd;refine eV (x.cells y hk) λc v0 hc hcell=>?_;exact wpAny_storeName_cell x.fn hk hc hcell λh' Wa sb=>main (tk:=s.toks) (.inr (aW y hkd hc)) ⟨sb,(x.gP y c hk hc).1,(x.gP y c hk hc).2,h1.sameBut sb λq=>Gx h1 (q▸hcell),λZ Z Z=>rfl,λz c' u e hz hc' jHC=>jHC.sameBut sb λq=>e (x.oK z y c (q▸hc') hc),kW c (some v) (λZ=>⟨hc,Wa⟩),.inr (kY hk c hc Wa),λa its l q=>RW l (q▸hcell)⟩
end
end
structure Here(C:AP)(s:Shared):Prop where
 base:∀b o,V.h₀.get? b=some o->s.heap.get? b=some o
 cJ:∀a,s.heap.objs.size<=a->C a
 bare:AllBare s.gens
theorem Here.ext(x:Here C s)(e:aA s s'):Here C s':=
 ⟨λb o h=>e.heap (x.base b o h),λa h=>x.cJ a (aF e.size h),e.bare x.bare⟩
theorem FA.here{C K:AP}{KG:NP}(x:FA env η C K KG s):Here C s:=⟨x.base,x.cJ,x.bare⟩
theorem aR.mono(x:aR A d)(h:d'<=d):aR A d':=by
 obtain⟨h1,h2,h3⟩:=x;refine⟨h1,by lia,?_⟩;have:12*d'<=12*d:=wR _ h;lia
def bK(C:AP)(s0:Shared)(p:PV)(v:Value)(s':Shared):Prop:=aA s0 s'/\VX C s0.heap.objs.size s0.gens.size s' p v
theorem bK.back(x:bK C s₁ p v s')(e:aA s0 s₁):bK C s0 p v s':=⟨e.trans x.1,x.2.lo e.size e.cV⟩
inductive eH(C:Addr->Prop)(lo aY:Nat)(s:Shared):List PV->List Value->Prop where
 |nil:eH C lo aY s [] []
 |cons {p:PV} {v:Value} {l:LV} {vs:List Value}:VX C lo aY s p v->eH C lo aY s l vs->eH C lo aY s (p::l) (v::vs)
theorem eH.length{C:AP}{lo aY:Nat}{s:Shared}{l:LV}{vs:List Value}(x:eH C lo aY s l vs):l.length=vs.length:=by
 induction x with|nil=>rfl|cons x r ih=>exact aU (·+1) ih
theorem eH.plain{C:AP}{lo aY:Nat}{s:Shared}{l:LV}{vs:List Value}(x:eH C lo aY s l vs):l.all PV.plain=true->aV C s.heap l vs:=by
 induction x with|nil=>exact λZ=>.nil|cons x r ih=>exact λh=>.cons (x.plain (bD h).1) (ih (bD h).2)
theorem aC.Aw(e:aA s0 s)(x:aC W G s s')(hw:∀b,W b->s0.heap.objs.size<=b)(hg:∀i,G i->s0.gens.size<=i):aA s0 s':=
 aC.mono (aC.trans (aA.cC e) x) (λb h w=>bw (hw b w) h) λi h g=>bw (hg i g) h
abbrev Wp(A:Around){α:Type}(m:Sem α)(Q:α->Shared->Prop)(s:Shared):Prop:=wpAny (model V.prog V.w) A m Q iW s
theorem Wp.mono(h:Wp A m Q s)(k:∀a s',Q a s'->Q' a s'):Wp A m Q' s:=tmo h k λZ Z f=>f.elim
theorem Wp.bind(h:Wp A m Q s)(k:∀a s',Q a s'->Wp A (f a) Q' s'):Wp A (m>>=f) Q' s:=tbn (h.mono k)
def bW(g:Str)(v:Value):Prop:=
 ∃mg,V.h₀.Ns mainGlobals mg/\(mg g=some v\/(mg g=none/\∃mb,V.h₀.Ns builtinsNs mb/\mb g=some v))
def K6(f:Value):Prop:=∀(A:Around) (pos:Pos) (args:List (Bool×Sem Value)) (s:Shared) (Q:Value->Shared->Prop),args.any (·.1)=false->
 Wp A (evalArgs f true args []) (λx s₁=>(∀b o,V.h₀.get? b=some o->s₁.heap.get? b=some o)/\x.kw=[]/\Wp A (call f x.pos []) Q s₁) s->Wp A (callWith pos f [] args []) Q s
structure Callee(D:Nat)(F:LV->OV)(f:Value):Prop where
 cw:K6 f
 ok:∀(A:Around) s0 s C l vs p,aR A D->Here C s->aA s0 s->eH C s0.heap.objs.size s0.gens.size s l vs->F l=some p->Wp A (call f vs []) (bK C s0 p) s
def kZ:Option Int->Value->Prop
 |none,v=>v=.none|some i,v=>∃t,v=.int i t
def jj(C:AP)(s0:Shared)(q:LV)(v:Value)(s':Shared):Prop:=
 aA s0 s'/\∃a vs,v=.ref a/\s0.heap.objs.size<=a/\cj s'.heap a (List.toArray vs)/\aV (λb=>C b/\b≠a) s'.heap q vs
structure Mv(K:AP)(KG:NP)(C:AP)(s:Shared)(C':AP)(s':Shared):Prop where
 ev:aC (λb=>¬K b) (λi=>¬KG i) s s'
 up:∀b,C b->b<s.heap.objs.size->C' b
 dn:∀b,C' b->C b\/¬K b
theorem Mv.of{K:AP}{KG:NP}{C:AP}(e:aC (λb=>¬K b) (λi=>¬KG i) s s'):Mv K KG C s C s':=⟨e,λZ c Z=>c,λZ c=>.inl c⟩
theorem Mv.ext{K:AP}{KG:NP}{C:AP}(e:aA s s'):Mv K KG C s C s':=.of e.cC
theorem Mv.refl{K:AP}{KG:NP}{C:AP}:Mv K KG C s C s:=.of aC.refl
theorem Mv.trans{K:AP}{KG:NP}{C C1 C2:AP}(x:Mv K KG C s C1 s₁)(y:Mv K KG C1 s₁ C2 s₂):Mv K KG C s C2 s₂:=
 ⟨x.ev.trans y.ev,λb c hb=>y.up b (x.up b c hb) (bJ hb x.ev.size),λb c=>(y.dn b c).elim (x.dn b) .inr⟩
def XP(env:Env)(C K:AP)(KG:NP)(s:Shared)(o:Out)(aq:ME)(f:Flow)(s':Shared):Prop:=
 ∃C',Mv K KG C s C' s'/\(match o with
  | .next=>f=.next/\FA env aq C' K KG s'
  | .ret v=>∃u,f=.ret u/\VR C' s'.heap v u)
structure Ops(D:Nat)(S:Sp):Prop where
 room:1<=D
 Qc:S.gens=true->4<=D
 sm:(V.h₀.get? sysModules).isSome=true
 bin:∀(A:Around) s0 s C op a b va vb p,aR A D->Here C s->aA s0 s->VX C s0.heap.objs.size s0.gens.size s a va->VX C s0.heap.objs.size s0.gens.size s b vb->iR op a b=some p->Wp A (binaryOp op va vb) (bK C s0 p) s
 Xd:∀(A:Around) s op i j ti tj k,aR A D->iR op (.int i) (.int j)=some (.int k)->(op=.Add\/op=.Sub)->Wp A (inplaceOp op (.int i ti) (.int j tj)) (λv s'=>(∃t,v=.int k t)/\aA s s') s
 neg:∀(A:Around) s i t k,aR A D->sV (-i)=some (.int k)->Wp A (unaryOp .USub (.int i t)) (λv s'=>(∃t,v=.int k t)/\aA s s') s
 cmp:∀(A:Around) s0 s C op a b va vb r,aR A D->Here C s->aA s0 s->VX C s0.heap.objs.size s0.gens.size s a va->VX C s0.heap.objs.size s0.gens.size s b vb->gk op a b=some r->Wp A (compareOp op va vb) (λv s'=>v=.bool r/\aA s0 s') s
 inPy:∀(A:Around) (s0 s:Shared) C a va k p,aR A D->Here C s->VX C s0.heap.objs.size s0.gens.size s a va->(iz a k=some p\/(∃l u,gm a l u=some p)\/∃l u,qy a l u=some p)->Wp A (getitemInPython va) (λr s'=>r=false/\s'=s) s
 idx:∀(A:Around) s0 s C a k va vk p,aR A D->Here C s->aA s0 s->VX C s0.heap.objs.size s0.gens.size s a va->VX C s0.heap.objs.size s0.gens.size s k vk->iz a k=some p->Wp A (getItem va vk) (bK C s0 p) s
 slice:∀(A:Around) s0 s C a va lo up vl vu i p,aR A D->Here C s->aA s0 s->VX C s0.heap.objs.size s0.gens.size s a va->kZ lo vl->kZ up vu->s.heap.get? i=some {cls:=.type "slice",data:=.fields #[vl,vu,.none]}->gm a lo up=some p->Wp A (getItem va (.ref i)) (bK C s0 p) s
 Wc:∀(A:Around) s0 s C a va lo st vl vt i p,aR A D->Here C s->aA s0 s->VX C s0.heap.objs.size s0.gens.size s a va->kZ (some lo) vl->kZ (some st) vt->s.heap.get? i=some {cls:=.type "slice",data:=.fields #[vl,.none,vt]}->qy a lo st=some p->Wp A (getItem va (.ref i)) (bK C s0 p) s
 iter:∀(A:Around) s0 s C a va items,aR A D->Here C s->aA s0 s->VX C s0.heap.objs.size s0.gens.size s a va->fQ a=some items->Wp A (pyIter va) (λit s'=>aA s0 s'/\Ready C s0.heap.objs.size s0.gens.size s' items it) s
 zU:∀(A:Around) s (C:AP) l v,aR A D->VR C s.heap (.lst l) v->Wp A (unpackItems v l.length none) (λus s'=>aA s s'/\aV C s'.heap l us) s
 dput:∀(A:Around) s (C:AP) d l kvs k v pk pv,s.heap.DictOf (strKind V.prog V.w) d kvs->fZ C s.heap l kvs->¬C d->VR C s.heap (.str k) pk->VR C s.heap v pv->aL l.length->
  Wp A (dictSet d pk pv) (λZ s'=>aC (λb=>b=d) no s s'/\∃kvs',s'.heap.DictOf (strKind V.prog V.w) d kvs'/\fZ C s'.heap (oY k v l) kvs') s
 kJ:∀g F,S.kJ g=some F->∃f,bW g f/\Callee D F f
 q8:∀g F,S.kJ g=none->S.q8 g=some F->∃f,bW g f/\Callee D F f
 glob:∀x p,S.glob x=some p->∃v,bW x v/\p.plain=true/\∀C h,VR C h p v
 attr:∀(A:Around) s0 s C m a ov p,aR A D->Here C s->aA s0 s->VX C s0.heap.objs.size s0.gens.size s a ov->S.attr m a=some p->Wp A (getAttr ov m true) (bK C s0 p) s
 mG:∀(A:Around) s0 s C m a l k b ov o apos pos env trees kt p,aR A D->Here C s->aA s0 s->VX C s0.heap.objs.size s0.gens.size s a ov->(apos.endLine==pos.line)=true->trees.length<20->(trees.all λx=> !x.1)=true->
  (∀s₁,aA s s₁->Wp A (spliced trees) (λvs s₂=>aA s₁ s₂/\eH C s0.heap.objs.size s0.gens.size s₂ l vs) s₁)->(∀s₁,Wp A kt (λv s₂=>v=.bool b/\s₂=s₁) s₁)->S.mG m a l k b=some p->
  Wp A (methodCall o m apos pos env ov (trees.length+1) trees [(some k,kt)]) (bK C s0 p) s
 meth:∀(A:Around) s0 s C m a l ov o apos pos env trees p,aR A D->Here C s->aA s0 s->VX C s0.heap.objs.size s0.gens.size s a ov->(apos.endLine==pos.line)=true->trees.length<20->(trees.all λx=> !x.1)=true->
  (∀s₁,aA s s₁->Wp A (spliced trees) (λvs s₂=>aA s₁ s₂/\eH C s0.heap.objs.size s0.gens.size s₂ l vs) s₁)->S.meth m a l=some p->
  Wp A (methodCall o m apos pos env ov trees.length trees []) (bK C s0 p) s
 sI:∀(A:Around) s0 s C m a l ov o apos pos env trees q,aR A D->Here C s->aA s0 s->VX C s0.heap.objs.size s0.gens.size s a ov->(apos.endLine==pos.line)=true->trees.length<20->(trees.all λx=> !x.1)=true->
  (∀s₁,aA s s₁->Wp A (spliced trees) (λvs s₂=>aA s₁ s₂/\eH C s0.heap.objs.size s0.gens.size s₂ l vs) s₁)->(m==("items":Str)||m==("get_all":Str))=true->S.meth m a l=some (.lst q)->
  Wp A (methodCall o m apos pos env ov trees.length trees []) (jj C s0 q) s
 hand:∀(A:Around) env C K KG s st η aq,aR A D->FA env η C K KG s->S.hand st η=some aq->Wp A (exec st env) (XP env C K KG s .next aq) s
section
variable{A:Around}{S:Sp}{D:Nat}
def SE(A:Around)(S:Sp)(n:Nat):Prop:=∀(η:ME) (e:PE) (env:Env) (C K:AP) (KG:NP) (s:Shared) (p:PV),FA env η C K KG s->aG S n η e=some p->Wp A (eval e env) (bK C s p) s
def ST(A:Around)(S:Sp)(n:Nat):Prop:=∀(η:ME) (e:PE) (env:Env) (C K:AP) (KG:NP) (s:Shared) (b:Bool),FA env η C K KG s->bI S n η e=some b->Wp A (isTrue e env (eval e env)) (λr s'=>r=b/\aA s s') s
def SB(A:Around)(S:Sp)(n:Nat):Prop:=∀(η:ME) (op:BoolOp) (vs:List PySem.Expr) (env:Env) (C K:AP) (KG:NP) (s:Shared) (b:Bool),FA env η C K KG s->rB S n η op vs=some b->Wp A (allTrue op vs env) (λr s'=>r=b/\aA s s') s
theorem yI(h:∀x p,e≠.Starred x p):starEach (e::r) env=(false,eval e env)::starEach r env:=by
 cases e<;>first|rfl|exact absurd rfl (h _ _)
theorem RX:aG S n η (.Starred x p)=none:=by
 cases n<;>rfl
theorem yJ:backTo pos ((false,t)::r)=(false,t)::backTo pos r:=by
 simp[backTo]
theorem lO(h:SE A S n){C K:AP}{KG:NP}:∀(es:List PySem.Expr) (s0 s:Shared) (l:LV),aA s0 s->FA env η C K KG s->cF (aG S n η) es=some l->
  Wp A (spliced (backTo pos (starEach es env))) (λvs s'=>aA s s'/\eH C s0.heap.objs.size s0.gens.size s' l vs) s:=λes=>es.rec
  (λs0 s l e x hl=>by cases hl;exact El ⟨aC.refl,.nil⟩)
  λa r ih s0 s l e x hl=>by
  refine aM hl ?_;clear hl;intro p ha hl
  ·refine aM hl ?_;clear hl;intro ps hr hl
   ·cases hl;rw[yI (by rintro y q rfl;rw[RX] at ha;exact nn ha),yJ];refine wX (Wp.mono (h η a env C K KG s p x ha) λv s₁ h₁=>Wp.mono (ih s0 s₁ ps (e.trans h₁.1) (x.ext h₁.1) hr) λvs s₂ h₂=>⟨h₁.1.trans h₂.1,.cons ?_ h₂.2⟩);exact(h₁.2.lo e.size e.cV).ext h₂.1
theorem ph(h:aL n=true):n<=sizeLine:=by
 unfold aL at h;have:=dB h;unfold sizeLine;lia
theorem ZS(h:Bj c=some p):Wp A (eval (.Constant c k pos) env) (bK C s p) s:=by
 show Wp A (constValue env c) _ s;cases c with
 |none=>cases h;exact bc ⟨aC.refl,VX.of .none⟩
 |bool=>cases h;exact bc ⟨aC.refl,VX.of (.bool _)⟩
 |int=>cases h;exact wpAny_mkInt ⟨aA.toks,VX.of (.int _ _)⟩
 |str x=>cases h;exact I8 ⟨aA.toks,VX.of (VR.str (C:=C) (h:=s.heap) x.cps.toList s.toks)⟩
 |_=>exact nn h
theorem jmY{C K:AP}{KG:NP}(x1:FA env η C K KG s)(hd:(x==("__debug__":Str))=false)(h:look x η=some p):Wp A (eval (.Name x pos) env) (bK C s p) s:=
 qW (Wp.mono (x1.load h) λv s' q=>by refine cD q λeq1 q g=>?_;subst eq1;exact⟨aC.refl,q.any g⟩) hd
theorem jpN(O:Ops D S)(hA:aR A D)(h:SE A S n){C K:AP}{KG:NP}(x:FA env η C K KG s)
  (ha:aG S n η l=some a)(hb:aG S n η r=some b)(hp:iR op a b=some p):Wp A (eval (.BinOp l op r pos) env) (bK C s p) s:=
 wpAny_BinOp (Wp.mono (h η l env C K KG s a x ha) λva s₁ h₁=>Wp.mono (h η r env C K KG s₁ b (x.ext h₁.1) hb) λvb s₂ h₂=>
  O.bin A s s₂ C op a b va vb p hA (x.here.ext (h₁.1.trans h₂.1)) (h₁.1.trans h₂.1) (h₁.2.ext h₂.1) (h₂.2.lo h₁.1.size h₁.1.cV) hp)
theorem jpO(O:Ops D S)(hA:aR A D)(h:SE A S n){C K:AP}{KG:NP}(x:FA env η C K KG s)
  (hm:behindInMarks op r=false)(ha:aG S n η l=some a)(hb:aG S n η r=some b)(hp:gk op a b=some c):Wp A (eval (.Compare l [op] [r] pos) env) (λv s'=>v=.bool c/\aA s s') s:=
 wpAny_Compare1 (hm:=hm) (Wp.mono (h η l env C K KG s a x ha) λva s₁ h₁=>Wp.mono (h η r env C K KG s₁ b (x.ext h₁.1) hb) λvb s₂ h₂=>
  O.cmp A s s₂ C op a b va vb c hA (x.here.ext (h₁.1.trans h₂.1)) (h₁.1.trans h₂.1) (h₁.2.ext h₂.1) (h₂.2.lo h₁.1.size h₁.1.cV) hp)
theorem jmT(O:Ops D S)(hA:aR A D)(h:SE A S n){C K:AP}{KG:NP}(x:FA env η C K KG s)
  (hm:behindInMarks op r=false)(ha:aG S n η l=some a)(hb:aG S n η r=some b)(hp:gk op a b=some c):Wp A (isTrue (.Compare l [op] [r] pos) env w) (λv s'=>v=c/\aA s s') s:=
 wpAny_isTrue_Compare1 (hm:=hm) (Wp.mono (h η l env C K KG s a x ha) λva s₁ h₁=>Wp.mono (h η r env C K KG s₁ b (x.ext h₁.1) hb) λvb s₂ h₂=>
  Wp.mono (O.cmp A s s₂ C op a b va vb c hA (x.here.ext (h₁.1.trans h₂.1)) (h₁.1.trans h₂.1) (h₁.2.ext h₂.1) (h₂.2.lo h₁.1.size h₁.1.cV) hp) λv s₃ h₃=>by
   obtain⟨rfl,h₃⟩:=h₃;exact I9 ⟨rfl,h₃⟩)
theorem jkJ(h:SE A S n)(ht:ST A S n){C K:AP}{KG:NP}(x:FA env η C K KG s)
  (hc:bI S n η t=some c)(hp:(if c then aG S n η a else aG S n η b)=some p):Wp A (eval (.IfExp t a b pos) env) (bK C s p) s:=
 wpAny_IfExp (Wp.mono (ht η t env C K KG s c x hc) λr s₁ h₁=>by
  obtain⟨rfl,h₁⟩:=h₁;cases r
  ·exact Wp.mono (h η b env C K KG s₁ p (x.ext h₁) hp) λv s₂ h₂=>h₂.back h₁
  ·exact Wp.mono (h η a env C K KG s₁ p (x.ext h₁) hp) λv s₂ h₂=>h₂.back h₁)
theorem K7(h:SE A S n){C K:AP}{KG:NP}(x:FA env η C K KG s)
  (hl:cF (aG S n η) es=some l)(hk:(aL l.length&&l.all PV.plain)=true):
  (∀k,Wp A (eval (.Tuple es k pos) env) (bK C s (.tup l)) s)/\Wp A (eval (.List es pos) env) (bK C s (.lst l)) s:=by
 simp only[eN] at hk;have key:∀(vs:List Value) (s':Shared),aA s s'/\eH C s.heap.objs.size s.gens.size s' l vs->vs.length<=sizeLine/\∀cl,aA s {s' with heap:=s'.heap.push {cls:=cl,data:=.seq vs.toArray}}/\C s'.heap.objs.size/\aV C (s'.heap.push {cls:=cl,data:=.seq vs.toArray}) l vs:=by
  rintro vs s' ⟨e,hv⟩;refine⟨by rw[←hv.length];exact ph hk.1,λcl=>⟨e.trans aA.jt,x.cJ _ e.size,?_⟩⟩;exact aV.ext (s:=s') (s':={s' with heap:=s'.heap.push {cls:=cl,data:=.seq vs.toArray}}) aA.jt (hv.plain hk.2)
 refine⟨λk=>IV (Wp.mono (lO h es s s l aC.refl x hl) λvs s' h'=>?_),wpAny_List_spliced (Wp.mono (lO h es s s l aC.refl x hl) λvs s' h'=>?_)⟩
 ·refine kA (key vs s' h') λq1 q2=>?_;refine cD (q2 (.type "tuple")) λa b c=>?_;exact⟨q1,a,VX.of (.tup b (nJ _ (iJ _ rfl) _ rfl) c)⟩
 ·refine kA (key vs s' h') λq1 q2=>?_;refine cD (q2 (.type "list")) λa b c=>?_;exact⟨q1,a,VX.of (.lst b (nJ _ (iJ _ rfl) _ rfl) c)⟩
end
section
variable{A:Around}{S:Sp}{D:Nat}
theorem jgH(h:Wp A (getItem o i) Q s):Wp A (subscripted sl false o i) Q s:=by
 cases sl with
 |Slice a b c p=>cases c<;>exact wpAny_operate' h
 |_=>exact wpAny_operate' h
theorem K8(hp:Wp A (getitemInPython o) (λr s'=>r=false/\s'=s) s)(h:Wp A (getItem o i) Q s):Wp A (subscriptTail value sl o i) Q s:=by
 unfold subscriptTail;refine Wp.bind hp λr s' q=>?_;refine kA q λeq1 eq2=>?_;subst eq1;subst eq2;exact Wp.bind (jgH h) λv s₂ q=>tbn (wpAny_letTemporaryGo (bc q))
theorem jpQ(O:Ops D S)(hA:aR A D)(h:SE A S n){C K:AP}{KG:NP}(x:FA env η C K KG s)
  (ha:aG S n η l=some a)(hb:aG S n η r=some b)(hp:iz a b=some p):Wp A (eval (.Subscript l r pos) env) (bK C s p) s:=
 Ir (Wp.mono (h η l env C K KG s a x ha) λva s₁ h₁=>Wp.mono (h η r env C K KG s₁ b (x.ext h₁.1) hb) λvb s₂ h₂=>
  K8 (O.inPy A s s₂ C a va b p hA (x.here.ext (h₁.1.trans h₂.1)) (h₁.2.ext h₂.1) (.inl hp))
   (O.idx A s s₂ C a b va vb p hA (x.here.ext (h₁.1.trans h₂.1)) (h₁.1.trans h₂.1) (h₁.2.ext h₂.1) (h₂.2.lo h₁.1.size h₁.1.cV) hp))
theorem BV(h:SE A S n){C K:AP}{KG:NP}(x:FA env η C K KG s)
  (hr:xN (match o with|some y=>aG S n η y|none=>some .none)=some r):Wp A (valueOrNone (evalOpt o env)) (λv s'=>kZ r v/\aA s s') s:=by
 cases o with
 |none=>cases hr;exact bc ⟨rfl,aC.refl⟩
 |some y=>
  dsimp only at hr;show Wp A (eval y env) _ s;cases hy:aG S n η y with
  |none=>rw[hy] at hr;exact nn hr
  |some p=>
   rw[hy] at hr;refine Wp.mono (h η y env C K KG s p x hy) λv s' q=>⟨?_,q.1⟩;cases p with
   |none=>cases hr;exact q.2.iv
   |int=>cases hr;exact q.2.iv
   |_=>exact nn hr
theorem RZ(lower upper step p env):eval (.Slice lower upper step p) env=(do
  let l ←valueOrNone (evalOpt lower env);let u ←holding [l] (valueOrNone (evalOpt upper env));let s ←holding [l,u] (valueOrNone (evalOpt step env))
  newFields "slice" [l,u,s]):=rfl
theorem jkM{n:Nat}(O:Ops D S)(hA:aR A D)(h:SE A S n){η:ME}{env:Env}{C K:AP}{KG:NP}{s:Shared}{p a:PV}{l:PE}{lo up:Option PySem.Expr}{i j:Option Int}{pos q:Pos}(x:FA env η C K KG s)
  (ha:aG S n η l=some a)(hi:xN (match lo with|some y=>aG S n η y|none=>some .none)=some i)(hj:xN (match up with|some y=>aG S n η y|none=>some .none)=some j)(hp:gm a i j=some p):
  Wp A (eval (.Subscript l (.Slice lo up none q) pos) env) (bK C s p) s:=by
 refine Ir (Wp.mono (h η l env C K KG s a x ha) λva s₁ h₁=>?_);rw[RZ];refine Wp.bind (BV h (x.ext h₁.1) hi) λvl s₂ h₂=>tbn (dJ (Wp.mono (BV h (x.ext (h₁.1.trans h₂.2)) hj) λvu s₃ h₃=>?_));refine tbn (dJ (bc ?_));have e3:aA s s₃:=h₁.1.trans (h₂.2.trans h₃.2);refine u5 (hd:=by size_fits) ?_;have e4:aA s₃ {s₃ with heap:=s₃.heap.push {cls:=.type "slice",data:=.fields #[vl,vu,.none]}}:=aA.jt;have hv:=((h₁.2.ext (h₂.2.trans h₃.2)).ext e4);exact K8 (O.inPy A s _ C a va .none p hA (x.here.ext (e3.trans e4)) hv (.inr (.inl (kW _ _ hp))))
  (O.slice A s _ C a va i j vl vu _ p hA (x.here.ext (e3.trans e4)) (e3.trans e4) hv h₂.1 h₃.1 (iJ _ rfl) hp)
theorem jjx(O:Ops D S)(hA:aR A D)(h:SE A S n){C K:AP}{KG:NP}(x:FA env η C K KG s)
  (ha:aG S n η l=some a)(hi:aG S n η y=some (.int i))(hj:aG S n η z=some (.int j))(hp:qy a i j=some p):
  Wp A (eval (.Subscript l (.Slice (some y) none (some z) q) pos) env) (bK C s p) s:=by
 refine Ir (Wp.mono (h η l env C K KG s a x ha) λva s₁ h₁=>?_);rw[RZ];refine Wp.bind (BV (o:=some y) h (x.ext h₁.1) (r:=some i) (by dsimp only;rw[hi];rfl)) λvl s₂ h₂=>tbn (dJ (bc ?_));refine tbn (dJ (Wp.mono (BV (o:=some z) h (x.ext (h₁.1.trans h₂.2)) (r:=some j) (by dsimp only;rw[hj];rfl)) λvt s₃ h₃=>?_));have e3:aA s s₃:=h₁.1.trans (h₂.2.trans h₃.2);refine u5 (hd:=by size_fits) ?_;have e4:aA s₃ {s₃ with heap:=s₃.heap.push {cls:=.type "slice",data:=.fields #[vl,.none,vt]}}:=aA.jt;have hv:=((h₁.2.ext (h₂.2.trans h₃.2)).ext e4);exact K8 (O.inPy A s _ C a va .none p hA (x.here.ext (e3.trans e4)) hv (.inr (.inr (kW _ _ hp))))
  (O.Wc A s _ C a va i j vl vt _ p hA (x.here.ext (e3.trans e4)) (e3.trans e4) hv h₂.1 h₃.1 (iJ _ rfl) hp)
theorem noStar{n:Nat}{η:ME}{env:Env}{pos:Pos}:∀{es:List PySem.Expr} {l:LV},cF (aG S n η) es=some l->((backTo pos (starEach es env)).all λx=> !x.1)=true/\(backTo pos (starEach es env)).length=es.length
 |[],_,_=>⟨rfl,rfl⟩
 |a::r,l,hl=>by
  refine aM hl ?_;clear hl;intro p ha hl
  ·refine aM hl ?_;clear hl;intro ps hr hl
   ·rw[yI (by rintro y q rfl;rw[RX] at ha;exact nn ha),yJ];refine kA (noStar (env:=env) (pos:=pos) hr) λh1 h2=>?_;exact⟨by simp only[jR,h1];rfl,by simp[h2]⟩
theorem Gy{l:List (Bool×Sem Value)}(h:(l.all λx=> !x.1)=true):(l.any (·.1))=false:=by
 induction l with
 |nil=>rfl
 |cons a r ih=>
  simp only[jR,eN,qY] at h;simp only[List.any_cons,h.1,ih h.2,Bool.or_self]
theorem vX(hs:(trees.all λx=> !x.1)=true)(h:Wp A (spliced trees) (λvs s'=>Q ⟨vs,[]⟩ s') s):Wp A (evalArgs f true trees []) Q s:=by
 cases trees with
 |nil=>
  unfold evalArgs;show Wp A (spliced []>>=_) Q s;refine Wp.bind h λvs s' q=>?_;refine tbn (bc ?_);refine dJ ?_;exact tbn (bc (tbn (bc (bc q))))
 |cons t r=>
  obtain⟨b,x⟩:=t;simp only[jR,eN,qY] at hs;refine kA hs λeq1 Z=>?_;subst eq1;exact evalArgs_plain h
theorem bW.load(x:bW g v){C K:AP}{KG:NP}(f:FA env η C K KG s)(hg:lL η g=true)(hd:(g==("__debug__":Str))=false):Wp A (eval (.Name g pos) env) (λu s'=>u=v/\s'=s) s:=by
 refine aH x λmg hm hv=>?_;have hk:env.kindOf g=some .globalImplicit:=by
  cases η with
  |nil=>exact nf hg
  |cons m r=>
   simp only[lL,bO] at hg;exact f.kinds g .globalImplicit hg
 have hm':s.heap.Ns env.globals mg:=by rw[f.gl];exact hm.keeps f.base
 refine Name_function_global f.fn hk ?_ hd;rcases hv with hv|⟨hn,mb,hb,hv⟩
 ·exact loadGlobal_global hm' hv ⟨rfl,rfl⟩
 ·have hb':s.heap.Ns env.builtins mb:=by rw[f.bi];exact hb.keeps f.base
  exact loadGlobal_builtin hm' hn hb' hv ⟨rfl,rfl⟩
theorem ZV{n:Nat}(hA:aR A D)(h:SE A S n){η:ME}{env:Env}{C K:AP}{KG:NP}{s:Shared}{p:PV}{g:Str}{args:List PySem.Expr}{l:LV}{F:LV->OV}{f:Value}{pos gp:Pos}(x:FA env η C K KG s)
  (hd:(g==("__debug__":Str))=false)(hg:lL η g=true)(hf:bW g f)(cf:Callee D F f)(hl:cF (aG S n η) args=some l)(hp:F l=some p):
  Wp A (eval (.Call (.Name g gp) args [] pos) env) (bK C s p) s:=by
 show Wp A (eval (.Name g gp) env>>=λu=>callWith pos u [] (backTo pos (starEach args env)) []) _ s;refine Wp.bind (hf.load x hg hd) λu s' q=>?_;refine kA q λeq1 eq2=>?_;subst eq1;subst eq2;refine kA (noStar (env:=env) (pos:=pos) hl) λh1 h2=>?_;refine cf.cw A pos _ s' _ (Gy h1) (vX h1 (Wp.mono (lO h args s' s' l aC.refl x hl) λvs s₁ h₁=>⟨(x.ext h₁.1).base,rfl,?_⟩));exact cf.ok A s' s₁ C l vs p hA (x.here.ext h₁.1) h₁.1 h₁.2 hp
theorem mQ(h:baseOk o=true):attributeBase o m env t=t:=by
 cases o with
 |Call f args kws p=>cases f with
  |Name=>cases args with
   |nil=>cases kws with
    |nil=>exact nf h|cons=>rfl
   |cons=>rfl
  |_=>rfl
 |_=>rfl
theorem jmX{n:Nat}(O:Ops D S)(hA:aR A D)(h:SE A S n){η:ME}{env:Env}{C K:AP}{KG:NP}{s:Shared}{p a:PV}{m:Str}{o:PE}{args:List PySem.Expr}{l:LV}{pos ap:Pos}(x:FA env η C K KG s)
  (hline:(ap.endLine==pos.line)=true)(hlen:args.length<20)(hb:baseOk o=true)(ha:aG S n η o=some a)(hl:cF (aG S n η) args=some l)(hp:S.meth m a l=some p):
  Wp A (eval (.Call (.Attribute o m ap) args [] pos) env) (bK C s p) s:=by
 rw[u0,mQ hb];refine Wp.bind (h η o env C K KG s a x ha) λov s₁ h₁=>tbn (gr ?_);refine kA (noStar (env:=env) (pos:=pos) hl) λq1 q2=>?_;have:=O.meth A s s₁ C m a l ov o ap pos env (backTo pos (starEach args env)) p hA (x.here.ext h₁.1) h₁.1 h₁.2 hline (by rw[q2];exact hlen) q1
  (λs₂ e=>lO h args s s₂ l (h₁.1.trans e) (x.ext (h₁.1.trans e)) hl) hp
 rw[q2] at this;exact this
theorem jpR(O:Ops D S)(hA:aR A D)(h:SE A S n){C K:AP}{KG:NP}(x:FA env η C K KG s)
  (ha:aG S n η y=some (.int i))(hp:sV (-i)=some p):Wp A (eval (.UnaryOp .USub y pos) env) (bK C s p) s:=by
 cases hp;refine wpAny_UnaryOp (Wp.mono (h η y env C K KG s _ x ha) λv s₁ h₁=>?_);refine cR v h₁.2.iv λt=>?_;refine Wp.mono (O.neg A s₁ i _ _ hA rfl) λv s₂ h₂=>?_;refine kA h₂ λbC e=>?_;obtain⟨t,rfl⟩:=bC;exact⟨h₁.1.trans e,VX.of (.int _ _)⟩
theorem R0(h:SE A S n){C K:AP}{KG:NP}(x:FA env η C K KG s)
  (he:isTrue e env (eval e env)=(do let v ←eval e env;standAt e.pos;holding [v] (truthy v)))(ha:aG S n η e=some p)(hp:vJ p=some b):Wp A (isTrue e env (eval e env)) (λr s'=>r=b/\aA s s') s:=by
 rw[he];refine Wp.bind (h η e env C K KG s p x ha) λv s₁ h₁=>tbn (gr (dJ ?_));cases p with
 |none=>
  cases hp;rw[show v=.none from h₁.2.iv];exact truthy_none ⟨rfl,h₁.1⟩
 |bool=>
  cases hp;rw[show v=.bool _ from h₁.2.iv];exact I9 ⟨rfl,h₁.1⟩
 |_=>exact nn hp
theorem jmW(O:Ops D S){C K:AP}{KG:NP}(x:FA env η C K KG s)(hd:(y==("__debug__":Str))=false)(hg:lL η y=true)(hp:S.glob y=some p):
  Wp A (eval (.Name y pos) env) (bK C s p) s:=by
 refine eO (O.glob y p hp) λv hv Z hr=>?_;refine Wp.mono (hv.load x hg hd) λu s' q=>?_;refine kA q λeq1 eq2=>?_;subst eq1;subst eq2;exact⟨aC.refl,VX.of (hr C s'.heap)⟩
theorem jmS(O:Ops D S)(hA:aR A D){C K:AP}{KG:NP}(x:FA env η C K KG s)(hd:(y==("__debug__":Str))=false)(hy:look y η=some a)(hp:S.attr m a=some p):
  Wp A (eval (.Attribute (.Name y yp) m pos) env) (bK C s p) s:=by
 rw[arm_eval_Attribute,mQ (by rfl)];refine Wp.bind (qW (Wp.mono (x.load hy) λv s' q=>q) hd) λov s₁ q=>?_;refine cD q λeq1 hv hg=>?_;subst eq1;refine tbn (gr ?_);refine tbn (dJ (Wp.mono (O.attr A s₁ s₁ C m a ov p hA x.here aC.refl (hv.any hg) hp) λr s₂ q=>?_));exact tbn (u6 (a:=()) (by rfl) (bc q))
theorem jkK{n:Nat}(O:Ops D S)(hA:aR A D)(h:SE A S n){η:ME}{env:Env}{C K:AP}{KG:NP}{s:Shared}{p a:PV}{m k:Str}{o:PE}{args:List PySem.Expr}{l:LV}{b:Bool}{ck:Nat}{pos ap cp kp:Pos}(x:FA env η C K KG s)
  (hline:(ap.endLine==pos.line)=true)(hlen:args.length<20)(hb:baseOk o=true)(ha:aG S n η o=some a)(hl:cF (aG S n η) args=some l)(hp:S.mG m a l k b=some p):
  Wp A (eval (.Call (.Attribute o m ap) args [⟨some k,.Constant (.bool b) ck cp,kp⟩] pos) env) (bK C s p) s:=by
 rw[u0,mQ hb];refine Wp.bind (h η o env C K KG s a x ha) λov s₁ h₁=>tbn (gr ?_);refine kA (noStar (env:=env) (pos:=pos) hl) λq1 q2=>?_;have:=O.mG A s s₁ C m a l k b ov o ap pos env (backTo pos (starEach args env)) (do let v ←eval (.Constant (.bool b) ck cp) env;standAt pos;pure v) p hA (x.here.ext h₁.1) h₁.1 h₁.2 hline (by rw[q2];exact hlen) q1
  (λs₂ e=>lO h args s s₂ l (h₁.1.trans e) (x.ext (h₁.1.trans e)) hl) (λs₂=>tbn (bc (tbn (gr (bc ⟨rfl,rfl⟩))))) hp
 rw[q2] at this;exact this
end
theorem size_update(h:Heap)(a:Addr)(f:Obj->Obj):(h.update a f).objs.size=h.objs.size:=(w5 (a:=a) (h:=h) (f:=f)).1
theorem R1(h:Runs M Γ p t fs s e s'):s.heap.objs.size<=s'.heap.objs.size/\s.gens.size<=s'.gens.size:=by
 induction h<;>(try simp only[Shared.setGen,size_update,fK,PL,Ar] at*)<;>lia
theorem jjp(h:Returns M Γ p s r s'):s.heap.objs.size<=s'.heap.objs.size/\s.gens.size<=s'.gens.size:=R1 h
theorem jnc(h:Wakes M Γ p g r s res s'):s.heap.objs.size<=s'.heap.objs.size/\s.gens.size<=s'.gens.size:=by
 unfold Wakes at h;split at h
 ·exact h.elim
 ·split at h
  ·refine dZ h λe₁ s₁ hr Z Z bB=>?_;subst bB;have:=R1 hr;simp only[Shared.setGen,PL] at*;exact this
  ·rw[h.2];exact⟨aN _,by simp[Shared.setGen]⟩
  ·rw[h.2];exact⟨aN _,by simp[Shared.setGen]⟩
 ·refine dZ h λe₁ s₁ hr Z Z bB=>?_;subst bB;have:=R1 hr;simp[Shared.setGen] at*;exact this
 all_goals first|(rw[h.2];exact⟨aN _,aN _⟩)|(rw[h.2];exact⟨aN _,by simp[Shared.setGen]⟩)
theorem ZW(M:Model)(Γ:Ctx)(n m:Nat)(t:Sem α):∀(Q:α->Pos->Shared->Prop) (E:Value->Pos->Shared->Prop) (p:Pos) (s:Shared),(n<=s.heap.objs.size/\m<=s.gens.size)->Sem.wp M Γ t Q E p s->
  Sem.wp M Γ t (λa p' s'=>(n<=s'.heap.objs.size/\m<=s'.gens.size)/\Q a p' s') (λe p' s'=>(n<=s'.heap.objs.size/\m<=s'.gens.size)/\E e p' s') p s:=by
 induction t with|pure a=>intro Q E p s hn h;exact⟨hn,h⟩|raise e=>intro Q E p s hn h;exact⟨hn,h⟩|unsupported _=>intro Q E p s _ h;exact h|finish _=>intro Q E p s _ h;exact h|rule _ k ih=>intro Q E p s hn h;exact ih () Q E p s hn h|«at» p' k ih=>intro Q E p s hn h;exact ih () Q E p' s hn h|load a _ k ih=>intro Q E p s hn h;refine aH h λo ho h=>?_;exact aW o ho (ih o Q E p s hn h)|update a _ f k ih=>intro Q E p s hn h;exact⟨h.1,ih () Q E p _ ⟨by show _<=(s.heap.update a f).objs.size;rw[size_update];exact hn.1,hn.2⟩ h.2⟩|loadIfAlive a k ih=>intro Q E p s hn h;exact ih _ Q E p s hn h|point _ k ih=>intro Q E p s hn h;exact ih () Q E p s hn h|register _ _=>intro Q E p s _ h;exact h|alloc o k ih=>intro Q E p s hn h;exact ih _ Q E p _ ⟨by show _<=(s.heap.push o).objs.size;rw[fK];exact wQ hn.1,hn.2⟩ h|fresh k ih=>intro Q E p s hn h;exact ih _ Q E p _ hn h|ask k ih=>intro Q E p s hn h;exact ih _ Q E p s hn h|choose src m k ih=>intro Q E p s hn h;exact⟨h.1,ih _ Q E p _ hn h.2⟩|os q _ k ih=>intro Q E p s hn h;exact ih _ Q E p _ hn h|call c hd _ _ k ih=>intro Q E p s hn h;refine eV h λr s' hr h=>?_;have:=jjp hr;exact fP r s' hr (ih r Q E p s' ⟨aF hn.1 this.1,aF hn.2 this.2⟩ h)|handled own k ih=>intro Q E p s hn h;exact ih _ Q E p s hn h|genState g k ih=>intro Q E p s hn h;refine aH h λst hs h=>?_;exact aW st hs (ih _ Q E p s hn h)|newGen c k ih=>intro Q E p s hn h;exact ih _ Q E p _ ⟨hn.1,by simp only[Ar];exact wQ hn.2⟩ h|resume g r _ k ih=>intro Q E p s hn h;refine eV h λres s' hw h=>?_;have:=jnc hw;exact fP res s' hw (ih res Q E p s' ⟨aF hn.1 this.1,aF hn.2 this.2⟩ h)|yield _ _ _ _=>intro Q E p s _ h;exact h|stack k ih=>intro Q E p s hn h;exact ih _ Q E p s hn h|fork _ _=>intro Q E p s _ h;exact h|thread k ih=>intro Q E p s hn h;exact ih _ Q E p s hn h|await _ _ _ _ _=>intro Q E p s _ h;exact h
theorem j4(h:wpAny M A t Q E s):
  wpAny M A t (λa s'=>(s.heap.objs.size<=s'.heap.objs.size/\s.gens.size<=s'.gens.size)/\Q a s') E s:=
 λΓ p hΓ=>Sem.wp_mono M Γ t (λZ Z Z h=>h) (λZ Z Z h=>h.2) p s (ZW M Γ _ _ t _ _ p s ⟨aN _,aN _⟩ (h Γ p hΓ))
theorem R2(h:sc.names.lookup x=some k):(relabel sc env).names.lookup x=some (if (k== .free&&env.scope.kind== .function&&env.kindOf x==some .cell) then .cell else k):=by
 have key:∀names:List (Str×NameKind),names.lookup x=some k->
   (names.map λ(n,k)=>if (k==NameKind.free&&env.scope.kind== .function&&env.kindOf n==some .cell) then(n,NameKind.cell) else(n,k)).lookup x=some (if (k== .free&&env.scope.kind== .function&&env.kindOf x==some .cell) then .cell else k):=by
  intro names;induction names with
  |nil=>intro h;exact nn h
  |cons a r ih=>
   obtain⟨n,k'⟩:=a;intro h;simp only[fu];cases hx:x==n with
   |true=>
    have e:=bO.mp hx;subst e;simp only[mq,hx] at h;cases h;by_cases hc:(k==NameKind.free&&env.scope.kind== .function&&env.kindOf x==some .cell)=true
    ·simp only[hc,gZ];simp[mq]
    ·rw[aZ hc,aZ hc];simp[mq]
   |false=>
    simp only[mq,hx] at h;by_cases hc:(k'==NameKind.free&&env.scope.kind== .function&&env.kindOf n==some .cell)=true
    ·rw[aX hc];simp only[mq,hx];exact ih h
    ·rw[aZ hc];simp only[mq,hx];exact ih h
 exact key sc.names h
theorem jdW(h:sc.names.lookup x=none):(relabel sc env).names.lookup x=none:=by
 have key:∀names:List (Str×NameKind),names.lookup x=none->
   (names.map λ(n,k)=>if (k==NameKind.free&&env.scope.kind== .function&&env.kindOf n==some .cell) then(n,NameKind.cell) else(n,k)).lookup x=none:=by
  intro names;induction names with
  |nil=>intro h;rfl
  |cons a r ih=>
   obtain⟨n,k'⟩:=a;intro h;simp only[fu];cases hx:x==n with
   |true=>simp only[mq,hx] at h;exact ns h
   |false=>
    simp only[mq,hx] at h;by_cases hc:(k'==NameKind.free&&env.scope.kind== .function&&env.kindOf n==some .cell)=true
    ·rw[aX hc];simp only[mq,hx];exact ih h
    ·rw[aZ hc];simp only[mq,hx];exact ih h
 exact key sc.names h
noncomputable def mR(env:Env):List (Str×NameKind)->List (Str×Addr)->List (Str×Addr)
 |[],acc=>acc|(n,k)::r,acc=>if k== .free then mR env r ((n,(env.cells.lookup n).getD 0)::acc) else mR env r acc
theorem R3(h:∀n,(n,NameKind.free)∈sc.names->(env.cells.lookup n).isSome=true):closureFor sc env=pure (mR env sc.names []):=by
 unfold closureFor;have key:∀(names:List (Str×NameKind)) (acc:List (Str×Addr)),(∀n,(n,NameKind.free)∈names->(env.cells.lookup n).isSome=true)->
   (forIn names acc λ(x:Str×NameKind) (cs:List (Str×Addr))=>(if (x.2==NameKind.free)=true then(do let c ←cellOf env x.1;pure (ForInStep.yield ((x.1,c)::cs))) else pure (ForInStep.yield cs):Sem _))=(pure (mR env names acc):Sem _):=by
  intro names;induction names with
  |nil=>intro acc _;rfl
  |cons a r ih=>
   obtain⟨n,k⟩:=a;intro acc hm;rw[An];by_cases hk:(k==NameKind.free)=true
   ·have hk':k=.free:=by simpa using hk
    subst hk';refine kE (iQ (hm n nA)) λc hc=>?_;have:cellOf env n=pure c:=by unfold cellOf;rw[hc]
    simp only[kh,gZ,this,pure_bind];rw[ih _ λm hm'=>hm m (pO _ hm')];show pure _=pure (mR env r ((n,(env.cells.lookup n).getD 0)::acc));rw[hc];rfl
   ·simp only[aZ hk,pure_bind];rw[ih _ λm hm'=>hm m (pO _ hm')];show pure _=pure (if k== .free then _ else _);rw[aZ hk]
 have:=key sc.names [] h
 first
  |exact this
  |(simp only[pure_bind,bind_pure] at this⊢;exact this)
  |(rw[show(forIn sc.names ([]:List (Str×Addr)) λ(x:Str×NameKind) (cs:List (Str×Addr))=>_)=_ from this];rfl)
theorem R4:∀(names:List (Str×NameKind)) (acc:List (Str×Addr)),(∀n,(n,NameKind.free)∈names->(env.cells.lookup n).isSome=true)->
  (mR env names acc).lookup x=if (x,NameKind.free)∈names then env.cells.lookup x else acc.lookup x:=λnames=>names.rec
  (λacc Z=>(aZ (wO)).symm)
  λ(n,k) r ih acc hm=>by
  have hr:∀m,(m,NameKind.free)∈r->(env.cells.lookup m).isSome=true:=λm h=>hm m (pO _ h);show(if k== .free then mR env r ((n,(env.cells.lookup n).getD 0)::acc) else mR env r acc).lookup x=_;by_cases hk:(k==NameKind.free)=true
  ·have hk':k=.free:=by simpa using hk
   subst hk';refine kE (iQ (hm n nA)) λc hc=>?_;rw[aX hk,ih _ hr,hc];by_cases h1:(x,NameKind.free)∈r
   ·simp[h1]
   ·by_cases h2:x=n
    ·subst h2;simp[hc,mq]
    ·have hb:(x==n)=false:=gD.mpr h2;simp[h1,h2,mq,hb]
  ·have hk':¬k=.free:=by simpa using hk
   rw[aZ hk,ih _ hr];by_cases h1:(x,NameKind.free)∈r
   ·simp[h1]
   ·have:¬(x,NameKind.free)=(n,k):=by rintro e;cases e;exact hk' rfl
    simp[h1,this]
structure CellsAre(h h':Heap)(names:List (Str×NameKind))(acc cs:List (Str×Addr)):Prop where
 lt:∀y c,cs.lookup y=some c->c<h'.objs.size
 apart:∀x y c,cs.lookup x=some c->cs.lookup y=some c->x=y
 own:∀y,(y,NameKind.cell)∈names->∃c,cs.lookup y=some c/\h.objs.size<=c/\h'.IsCell c none
 other:∀y,(y,NameKind.cell)∉names->cs.lookup y=acc.lookup y
 high:∀y c,cs.lookup y=some c->h.objs.size<=c\/acc.lookup y=some c
theorem Gz:∀(names:List (Str×NameKind)) (h:Heap),h.objs.size<=(pushCells h names).objs.size:=λnames=>names.rec
  (λZ=>aN _)
  λ(_,k) r ih h=>by
  unfold pushCells;split
  ·refine aF ?_ (ih _);rw[fK];exact iH _
  ·exact ih h
theorem ZX:∀(names:List (Str×NameKind)) (h:Heap) (acc:List (Str×Addr)),(∀y c,acc.lookup y=some c->c<h.objs.size)->(∀x y c,acc.lookup x=some c->acc.lookup y=some c->x=y)->
  CellsAre h (pushCells h names) names acc (cellsFrom h.objs.size names acc):=λnames=>names.rec
  (λh acc hl ha=>⟨hl,ha,λy hy=>(nomatch hy),λZ Z=>rfl,λy c hc=>.inr hc⟩)
  λ(n,k) r ih' h acc hl ha=>by
  unfold pushCells cellsFrom;by_cases hk:(k==NameKind.cell)=true
  ·have hk':k=.cell:=by simpa using hk
   subst hk';rw[aX hk,aX hk];have hsz:(h.push {cls:=.type "cell",data:=.cell none}).objs.size=h.objs.size+1:=fK ..;have look:∀y,((n,h.objs.size)::acc).lookup y=if y=n then some h.objs.size else acc.lookup y:=by
    intro y;by_cases e:y=n
    ·subst e;simp[mq]
    ·have hb:(y==n)=false:=gD.mpr e;simp[mq,hb,e]
   have ih:=ih' (h.push {cls:=.type "cell",data:=.cell none}) ((n,h.objs.size)::acc) (λy c hc=>by
     rw[look] at hc;rw[hsz];split at hc
     ·cases hc;exact jo _
     ·exact rZ (hl y c hc)) (λx y c hx hy=>by
     rw[look] at hx hy;split at hx<;>split at hy
     ·rename_i e1 e2;rw[e1,e2]
     ·cases hx;exact absurd (hl y _ hy) (pQ _)
     ·cases hy;exact absurd (hl x _ hx) (pQ _)
     ·exact ha x y c hx hy)
   rw[hsz] at ih;refine⟨ih.lt,ih.apart,λy hy=>?_,λy hy=>?_,λy c hc=>?_⟩
   ·by_cases hr:(y,NameKind.cell)∈r
    ·refine eO (ih.own y hr) λc h1 h2 h3=>?_;exact cG c h1 (by rw[hsz] at h2;lia) h3
    ·have e:y=n:=by
      rcases gO.mp hy with e|e
      ·cases e;rfl
      ·exact absurd e hr
     subst e;refine cG h.objs.size (by rw[ih.other y hr,look];simp) (aN _) ?_;exact Heap.IsCell.keeps (aW _ (iJ _ rfl) rfl) (Ek r _)
   ·rw[gO,not_or] at hy;rw[ih.other y hy.2,look,aZ];rintro rfl;exact hy.1 rfl
   ·rcases ih.high y c hc with h1|h1
    ·exact .inl (by rw[hsz] at h1;lia)
    ·rw[look] at h1;split at h1
     ·cases h1;exact .inl (aN _)
     ·exact .inr h1
  ·have hk':¬k=.cell:=by simpa using hk
   rw[aZ hk,aZ hk];have ih:=ih' h acc hl ha;refine⟨ih.lt,ih.apart,λy hy=>?_,λy hy=>?_,ih.high⟩
   ·rcases gO.mp hy with e|e
    ·cases e;exact absurd rfl hk'
    ·exact ih.own y e
   ·rw[gO,not_or] at hy;exact ih.other y hy.2
section
theorem jfk{scope:Scope}{globals:Addr}{cl:List (Str×Addr)}{qual:Str}{func:Option Addr}{code:Value}{outer:Env}{builtins:Addr}{Q:Env->Shared->Prop}
  (hQ:Q {scope,locals:=s.heap.objs.size,globals,cells:=cellsFrom (s.heap.objs.size+1) scope.names cl,qual,func,code:=outer.code,frame:=outer.frame,builtins:=outer.builtins}
   {s with heap:=pushCells (s.heap.push {cls:=.type "dict",data:=.dict #[]}) scope.names}):
  wpAny M A (newFunctionEnv scope globals cl [] qual func code (some outer) builtins) Q E s:=by
 simp only[newFunctionEnv,OD,gZ];refine tbn (IW ?_);refine tbn (Pa _ (λname kind cells=>by cases hkc:kind==NameKind.cell<;>simp[hkc]) _ _ _ _ ?_);rw[show({s with heap:=s.heap.push {cls:=.type "dict",data:=.dict #[]}}:Shared).heap.objs.size=s.heap.objs.size+1 from fK ..];simp only[Jq];exact tbn (bc (bc hQ))
end
theorem jna:∀ns:List (Str×NameKind),valAt y ns (ns.map λZ=>(none:OV))=none:=λns=>ns.rec
  rfl
  λn r ih=>by
  show(if y==n.1 then none else valAt y r (r.map λZ=>none))=none;rw[ih,ite_self]
theorem BW(h:look y (bQ sc::η)=some p):sc.names.lookup y=some .free/\look y η=some p:=by
 exact Xj (P:=λo=>o=some p->sc.names.lookup y=some .free/\look y η=some p) (f:=bQ sc) (jna _) (λe h=>⟨e,h⟩) nn h
theorem vY(h:gw sc η=true):sc.kind=.function/\∀y k,(y,k)∈sc.names->sc.names.lookup y=some k/\(k=.free->cZ η y=some .cell\/cZ η y=some .free):=by
 unfold gw at h;simp only[eN,bO,cU] at h;refine⟨h.1,λy k hm=>?_⟩;refine kA (h.2 (y,k) hm) λh1 h2=>?_;refine⟨h1,λe=>?_⟩;subst e;simpa using h2
section
variable{A:Around}{env:Env}{η:ME}{C K:AP}{KG:NP}{s:Shared}
theorem FA.wZ(x:FA env η C K KG s)(h:gw sc η=true)(hy:(y,NameKind.free)∈sc.names):env.kindOf y=some .cell:=by
 rcases((vY h).2 y _ hy).2 rfl with e|e
 ·exact x.kinds y _ e
 ·exact x.kinds y _ e
theorem FA.Ad(x:FA env η C K KG s)(h:gw sc η=true):∀n,(n,NameKind.free)∈sc.names->(env.cells.lookup n).isSome=true:=λn hn=>by
 refine eV (x.cells n (x.wZ h hn)) λc Z hc Z=>?_;rw[hc];rfl
theorem FA.comp(x:FA env η C K KG s)(h:gw sc η=true)(e:aA s s₃)(zP:s4={s₃ with heap:=pushCells (s₃.heap.push {cls:=.type "dict",data:=.dict #[]}) sc.names})
  (hce:cenv.scope=relabel sc env/\cenv.locals=s₃.heap.objs.size/\cenv.globals=env.globals/\cenv.builtins=env.builtins/\cenv.cells=cellsFrom (s₃.heap.objs.size+1) sc.names (mR env sc.names []))
  {X:AP} {XG:NP} {C':AP} (hX:∀b,X b->s.heap.objs.size<=b/\b<s₃.heap.objs.size) (hXG:∀i,XG i->i<s₃.gens.size)
  (hC1:∀b,b<s.heap.objs.size->C b->C' b) (pJ:∀b,C' b->C b) (hC3:∀b,s4.heap.objs.size<=b->C' b) (hC4:∀b,s₃.heap.objs.size<=b->b<s4.heap.objs.size->¬C' b):
  FA cenv (bQ sc::η) C' (λb=>K b\/X b) (λi=>KG i\/XG i) s4/\aA s₃ s4/\s₃.heap.objs.size<s4.heap.objs.size/\∀b,f9 cenv (bQ sc::η) b->s₃.heap.objs.size<=b/\b<s4.heap.objs.size:=by
 refine kA (vY h) λhfn hn=>?_;refine rm hce λc1 c2 c3 c4 c5=>?_;have hsz:(s₃.heap.push {cls:=.type "dict",data:=.dict #[]}).objs.size=s₃.heap.objs.size+1:=fK ..;have hlt:s₃.heap.objs.size<s4.heap.objs.size:=by
  have:=Gz sc.names (s₃.heap.push {cls:=.type "dict",data:=.dict #[]});rw[zP];show s₃.heap.objs.size<(pushCells _ _).objs.size;lia
 have e4:aA s₃ s4:=by rw[zP];exact aA.of (s:=s₃) (t:=s₃.toks) (λb o g=>Ek _ _ b o (fO _ g)) (by have:=Gz sc.names (s₃.heap.push {cls:=.type "dict",data:=.dict #[]});lia)
 have e':aA s s4:=e.trans e4;refine dZ x.sees λm f h1 h2 h3 h4=>?_;have NZ:∀y c,(mR env sc.names []).lookup y=some c->(y,NameKind.free)∈sc.names/\env.cells.lookup y=some c:=λy c hc=>by
  rw[R4 _ _ (x.Ad h)] at hc;split at hc
  ·exact⟨‹_›,hc⟩
  ·exact nn hc
 have old:∀y c,(y,NameKind.free)∈sc.names->env.cells.lookup y=some c->c<s.heap.objs.size:=λy c hy hc=>by
  refine eV (x.cells y (x.wZ h hy)) λc' v0 hc' hv=>?_;rw[hc] at hc';cases hc';exact hv.lt
 have ca:CellsAre (s₃.heap.push {cls:=.type "dict",data:=.dict #[]}) s4.heap sc.names (mR env sc.names []) cenv.cells:=by
  have:=ZX sc.names (s₃.heap.push {cls:=.type "dict",data:=.dict #[]}) (mR env sc.names []) (λy c hc=>by
   refine kA (NZ y c hc) λq1 q2=>?_;rw[hsz];exact rZ (bJ (old y c q1 q2) e.size)) (λy z c hy hz=>x.oK y z c (NZ y c hy).2 (NZ z c hz).2)
  rw[hsz,←c5] at this;rw[zP];exact this
 have nh:∀b,s.heap.objs.size<=b->V.h₀.get? b=none:=λb hb=>by
  cases hq:V.h₀.get? b with|none=>rfl|some o=>exact absurd (hls (x.base b o hq)) (bw hb)
 have nk:∀b,s₃.heap.objs.size<=b->¬(K b\/X b):=λb hb q=>by
  rcases q with q|q
  ·exact absurd (bJ (x.kept.1 b q) e.size) (bw hb)
  ·exact absurd (hX b q).2 (bw hb)
 refine jh ⟨by rw[c1];exact hfn,by rw[c3];exact x.gl,by rw[c4];exact x.bi,λy k hy=>?_,fW (λZ=>none) f ?_ (λy p hy=>?_) (λy l a hy ha=>?_) (λy z l l' hy hz=>?_),λy hy=>?_,ca.apart,hC3,?_,λy c hkc hc=>?_,⟨λb hb=>?_,λi hi=>?_⟩,λg hg=>?_,λb o hb=>e'.heap (x.base b o hb),e'.bare x.bare,λb o hb=>.inl (x.hk b o hb)⟩ e4 hlt (λb hb=>?_)
 ·have hy':sc.names.lookup y=some k:=hy;have:=R2 (env:=env) hy';show cenv.scope.names.lookup y=_;rw[c1,this];by_cases hk:k=.free
  ·subst hk;have:=x.wZ h (mem_of_lookup hy');simp[this,x.fn,RV]
  ·have:(k==NameKind.free)=false:=by simpa using hk
   simp only[this,Bool.false_and,kj,jH];cases k<;>first|rfl|exact absurd rfl hk
 ·rw[c2,zP];exact(Heap.Ns.new s₃.heap (.type "dict")).keeps (Ek _ _)
 ·refine kA (BW hy) λhf hy'=>?_;refine cD (h2 y p hy') λhg hb hv=>?_;have hm:=mem_of_lookup hf;refine⟨hg,?_,?_⟩
  ·rcases hb with ⟨hk,_⟩|⟨hk,c,hc,hv⟩
   ·rw[x.wZ h hm] at hk;cases hk
   ·refine .inr (kY ?_ c ?_ (hv.keeps λb o=>e'.heap))
    ·have:=R2 (env:=env) hf;show cenv.scope.names.lookup y=_;rw[c1,this];simp[x.wZ h hm,x.fn]
    ·rw[ca.other y (λq=>by have:=((hn y _ q).1);rw[hf] at this;cases this),R4 _ _ (x.Ad h),aX hm];exact hc
  ·have mv:∀{p:PV} {v:Value},VR C s.heap p v->VR C' s4.heap p v:=λh=>h.mono λa o c g=>⟨hC1 a (hls g) c,e'.heap g⟩;have mvs:∀{p:LV} {v:List Value},aV C s.heap p v->aV C' s4.heap p v:=λh=>h.mono λa o c g=>⟨hC1 a (hls g) c,e'.heap g⟩;cases p<;>first|exact mv hv|cases hg|skip
   refine dZ hv λa vs ea hc bC hl=>?_;obtain⟨o,ho,r⟩:=bC;exact fW a vs ea (λh=>hc (pJ _ h)) (aW o (e'.heap ho) r) (mvs hl)
 ·refine kA (BW hy) λZ hy'=>?_;rintro(q|q)
  ·exact h3 y l a hy' ha q
  ·have hv:=(h2 y _ hy').2.2;refine dZ hv λa' vs ea Z bC Z=>?_;obtain⟨o,ho,_⟩:=bC;rw[ha] at ea;cases ea;exact absurd (hls ho) (bw (hX a q).1)
 ·exact h4 y z l l' (BW hy).2 (BW hz).2
 ·have hy':(relabel sc env).names.lookup y=some .cell:=by rw[←c1];exact hy
  cases hl:sc.names.lookup y with
  |none=>rw[jdW hl] at hy';exact nn hy'
  |some k=>
   rw[R2 hl] at hy';have hm:=mem_of_lookup hl;by_cases hk:k=.free
   ·subst hk;refine eV (x.cells y (x.wZ h hm)) λc v0 hc hv=>?_;refine fP c v0 ?_ (hv.keeps λb o=>e'.heap);rw[ca.other y (λq=>by have:=((hn y _ q).1);rw[hl] at this;cases this),R4 _ _ (x.Ad h),aX hm];exact hc
   ·have hb:(k==NameKind.free)=false:=by simpa using hk
    simp only[hb,Bool.false_and,kj,jH] at hy';cases hy';refine eO (ca.own y hm) λc q1 Z q3=>?_;exact fP c none q1 q3
 ·rw[c2];exact⟨hC4 _ (aN _) hlt,nk _ (aN _),nh _ e.size⟩
 ·rcases ca.high y c hc with q|q
  ·rw[hsz] at q;have q':s₃.heap.objs.size<=c:=by lia
   exact⟨hC4 _ q' (ca.lt y c hc),nk _ q',nh _ (aF e.size q')⟩
  ·refine kA (NZ y c q) λq1 q2=>?_;refine cD (x.gP y c (x.wZ h q1) q2) λr1 r2 r3=>?_;refine⟨λz=>r1 (pJ _ z),?_,r3⟩;rintro(z|z)
   ·exact r2 z
   ·exact absurd (old y c q1 q2) (bw (hX c z).1)
 ·rcases hb with q|q
  ·exact bJ (x.kept.1 b q) e'.size
  ·exact qT (hX b q).2 hlt
 ·rcases hi with q|q
  ·exact bJ (x.kept.2 i q) e'.cV
  ·exact bJ (hXG i q) e4.cV
 ·rcases gO.mp hg with rfl|hg
  ·simp[bQ]
  ·exact x.wf g hg
 ·rcases hb with rfl|⟨y,hy,hc⟩
  ·rw[c2];exact⟨aN _,hlt⟩
  ·have hm:=mem_of_lookup (show sc.names.lookup y=some .cell from hy);refine eO (ca.own y hm) λc q1 q2 Z=>?_;rw[hc] at q1;cases q1;rw[hsz] at q2;exact⟨pP q2,ca.lt y b hc⟩
theorem FA.cC(x:FA env η C K KG s)(e:aC W G s s')(hC:∀b,W b->¬C b)(hK:∀b,W b->K b)(hB:∀b,W b->V.h₀.get? b=none):FA env η C K KG s':=
 x.move (λa o c g=>⟨c,e.heap a o (λw=>hC a w c) g⟩) (λa o hc hk g=>⟨hc,hk,e.heap a o (λw=>hk (hK a w)) g⟩) (λa ha=>x.cJ a (aF e.size ha)) ⟨λb hb=>bJ (x.kept.1 b hb) e.size,λi hi=>bJ (x.kept.2 i hi) e.cV⟩
  (λb o hb=>e.heap b o (λw=>by rw[hB b w] at hb;exact nn hb) (x.base b o hb)) (e.bare x.bare) x.hk
theorem FA.narrow(x:FA env η C K KG s){X Y:AP}{YG:NP}(e:aA s s')(hX:∀b,X b->s.heap.objs.size<=b/\b<s'.heap.objs.size)(hY:∀b,Y b->(X b\/C b)/\b<s'.heap.objs.size)(hG:∀i,YG i->i<s'.gens.size):
  FA env η (λb=>C b/\¬X b) (λb=>K b\/Y b) (λi=>KG i\/YG i) s':=
 have nX:∀{b o},s.heap.get? b=some o->¬X b:=λg h=>absurd (hls g) (bw (hX _ h).1)
 x.move (λa o c g=>⟨⟨c,nX g⟩,e.heap g⟩) (λa o hc hk g=>⟨λq=>hc q.1,λq=>q.elim hk λq=>(hY a q).1.elim (nX g) hc,e.heap g⟩) (λb hb=>⟨x.cJ b (aF e.size hb),λh=>absurd (hX b h).2 (bw hb)⟩)
  ⟨λb q=>q.elim (λq=>bJ (x.kept.1 b q) e.size) λq=>(hY b q).2,λi q=>q.elim (λq=>bJ (x.kept.2 i q) e.cV) (hG i)⟩ (λb o hb=>e.heap (x.base b o hb)) (e.bare x.bare) λb o hb=>.inl (x.hk b o hb)
theorem FA.regrow(x:FA env η C K KG s)(h1:∀b,C b->C' b)(h2:∀b,C' b->C b\/K b)(h3:∀b,K' b->K b)(h4:∀i,iG i->KG i)(h5:∀b o,V.h₀.get? b=some o->K' b):FA env η C' K' iG s:=
 x.move (λa o c g=>⟨h1 a c,g⟩) (λa o hc hk g=>⟨λq=>(h2 a q).elim hc hk,λq=>hk (h3 a q),g⟩) (λa ha=>h1 a (x.cJ a ha)) ⟨λb hb=>x.kept.1 b (h3 b hb),λi hi=>x.kept.2 i (h4 i hi)⟩ x.base x.bare h5
theorem FA.hot(x:FA env η C K KG s)(h:f9 env η b):¬C b/\¬K b/\V.h₀.get? b=none:=by
 rcases h with rfl|⟨y,hk,hc⟩
 ·exact x.dY
 ·exact x.gP y b (x.kinds y _ hk) hc
end
theorem aV.cC(e:aC W G s s')(hC:∀b,W b->¬C b)(h:aV C s.heap p v):aV C s'.heap p v:=h.mono λa o c g=>⟨c,e.heap a o (λw=>hC a w c) g⟩
theorem VR.cC(e:aC W G s s')(hC:∀b,W b->¬C b)(h:VR C s.heap p v):VR C s'.heap p v:=h.mono λa o c g=>⟨c,e.heap a o (λw=>hC a w c) g⟩
theorem lQ{p:PV}(h:p.plain=true):p.oN=false/\∀l,p≠.own l:=by
 cases p<;>first|(cases h;done)|exact⟨rfl,λl e=>by cases e⟩
theorem GD(h:∀z,cZ aq z=cZ η z)(b:Addr):f9 env aq b↔f9 env η b:=by
 unfold f9;simp only[h]
section
variable{A:Around}{S:Sp}{D:Nat}{env:Env}{C K:AP}{KG:NP}
theorem FA.PT(x:FA env η C K KG s)(e:aC (f9 env η) no s s')(h:aV C s.heap p v):aV C s'.heap p v:=h.cC e λZ w=>(x.hot w).1
theorem jnV:assignEach (.Name y py::ts) env=(false,assign (.Name y py) env)::assignEach ts env:=rfl
theorem ZZ:∀(ts:List PySem.Expr) (l:LV) (vs:List Value) (η aq:ME) (h:Heap),cH ts l η=some aq->aV C h l vs->(∀f∈η,f.vals.length=f.names.length)->
  (assignEach ts env).length=vs.length/\(assignEach ts env).findIdx? (·.1)=none/\∀z,cZ aq z=cZ η z:=by
 intro ts;induction ts with
 |nil=>
  intro l vs η aq s h hv _;refine kA (xJ h) λeq1 eq2=>?_;subst eq1;subst eq2;rw[hv.jg];exact⟨rfl,rfl,λZ=>rfl⟩
 |cons t ts ih=>
  intro l vs η aq s h hv hw;obtain⟨y,py,p,r,aD,rfl,rfl,_,h1,h⟩:=xK h;obtain⟨v,us,rfl,_,hvs⟩:=hv.gh;refine cD (ih r us aD aq s h hvs (mO (y:=y) h1 hw).2.2.2) λq1 q2 q3=>?_;rw[jnV];refine⟨aU (·+1) q1,?_,λz=>(q3 z).trans ((mO (y:=z) h1 hw).2.2.1 z)⟩;rw[List.findIdx?_cons,q2];rfl
theorem Z0:∀(ts:List PySem.Expr) (l:LV) (vs:List Value) (η aq:ME) (s:Shared),cH ts l η=some aq->aV C s.heap l vs->FA env η C K KG s->
  Wp A (assignInOrder ((assignEach ts env).map (·.2)) vs) (λZ s'=>aC (f9 env η) no s s'/\FA env aq C K KG s') s:=by
 intro ts;induction ts with
 |nil=>
  intro l vs η aq s h hv x;refine kA (xJ h) λeq1 eq2=>?_;subst eq1;subst eq2;rw[hv.jg];exact bc ⟨aC.refl,x⟩
 |cons t ts ih=>
  intro l vs η aq s h hv x;obtain⟨y,py,p,r,aD,rfl,rfl,hp,h1,h⟩:=xK h;obtain⟨v,us,rfl,hv,hvs⟩:=hv.gh;have oA:=lQ hp;refine tbn (dJ (Em (Wp.mono (x.store h1 oA.1 (VX.of hv) λl' e=>absurd e (oA.2 l')) λZ s₁ q=>?_)));exact Wp.mono (ih r us aD aq s₁ h (x.PT q.1 hvs) q.2.2.2) λZ s₂ r=>⟨q.1.trans (aC.mono r.1 (λb Z w=>(GD (λz=>(mO (y:=z) h1 x.wf).2.2.1 z) b).mp w) λZ Z g=>g),r.2⟩
theorem jkL(ts:List PySem.Expr)(l:LV)(vs:List Value)(η aq:ME)(s:Shared)(h:cH ts l η=some aq)(hv:aV C s.heap l vs)(x:FA env η C K KG s):
  Wp A (assignInOrder ((assignEach ts env).map (·.2)) vs) (λZ s'=>aC (f9 env η) no s s'/\FA env aq C K KG s') s/\(assignEach ts env).length=vs.length/\(assignEach ts env).findIdx? (·.1)=none/\∀z,cZ aq z=cZ η z:=
 ⟨Z0 ts l vs η aq s h hv x,ZZ ts l vs η aq _ h hv x.wf⟩
theorem K9(hh:A.handled=none)(ht:iV s.heap a vs.toArray):Wp A (unpackItems (.ref a) vs.toArray.size .none) (λr s'=>r=vs/\aA s s') s:=
 Wp.mono (j4 (wpAny_unpackItems_tuple (Q:=λr s'=>∃h',r=vs/\(∀b o,s.heap.get? b=some o->h'.get? b=some o)/\s'={s with heap:=h'}) hh ht.isTuple λh' hx=>cG h' (by simp) (λb o e=>hx b o (iI (hls e)) e) rfl))
  λr s₁ ⟨qs,h',e,qk,e'⟩=>⟨e,e'▸⟨λb o Z g=>qk b o g,e'▸qs.1,λZ Z Z g=>g,aN _,id,rfl⟩⟩
theorem R5(elts x1 pos env v):assign (.Tuple elts x1 pos) env v=(do standAt pos;unpack v (assignEach elts env)):=rfl
theorem BX(hh:A.handled=none){tgt:PE}{p:PV}{v:Value}{η aq:ME}{s:Shared}(x:FA env η C K KG s)(h:d8 tgt p η=some aq)(hv:VR C s.heap p v):
  Wp A (assign tgt env v) (λZ s'=>aC (f9 env η) no s s'/\FA env aq C K KG s') s:=by
 obtain⟨y,py,rfl,hp,h⟩|⟨ts,k,py,l,rfl,rfl,h⟩:=Xk h
 ·have oA:=lQ hp;exact Em (Wp.mono (x.store h oA.1 (VX.of hv) λl' e=>absurd e (oA.2 l')) λZ s₁ q=>⟨q.1,q.2.2.2⟩)
 ·refine cP v hv.iv λa vs ht hl=>?_;refine cD (ZZ (env:=env) ts l vs η aq _ h hl x.wf) λq2 q3 Z=>?_;rw[R5];refine tbn (gr ?_);unfold unpack;rw[q2,q3,show vs.length=vs.toArray.size from rfl];refine Wp.bind (dJ (K9 hh ht)) λr s₁ q=>?_;refine kA q λeq1 e=>?_;subst eq1;exact Wp.mono (Z0 ts l r η aq s₁ h (hl.ext e) (x.ext e)) λZ s₂ q=>⟨aC.trans e.cC q.1,q.2⟩
theorem jkN(ht:ST A S n):∀(ifs:List PySem.Expr) (s:Shared) (b:Bool),FA env η C K KG s->jW (bI S n) η ifs=some b->
  Wp A (forIn ifs true λc r=>if r=true then do let ok ←isTrue c env (eval c env);pure (ForInStep.yield ok) else pure (ForInStep.yield r)) (λr s'=>r=b/\aA s s') s:=by
 have off:∀(ifs:List PySem.Expr) (s:Shared),Wp A (forIn ifs false λc r=>if r=true then do let ok ←isTrue c env (eval c env);pure (ForInStep.yield ok) else pure (ForInStep.yield r)) (λr s'=>r=false/\aA s s') s:=by
  intro ifs;induction ifs with
  |nil=>intro s;rw[Jq];exact bc ⟨rfl,aC.refl⟩
  |cons c r ih=>
   intro s;rw[An];exact tbn (bc (ih s))
 intro ifs;induction ifs with
 |nil=>intro s b x h;cases h;rw[Jq];exact bc ⟨rfl,aC.refl⟩
 |cons c r ih=>
  intro s b x h;have h:((bI S n η c).bind λb=>if b then jW (bI S n) η r else some false)=some b:=h;cases hc:bI S n η c with
  |none=>rw[hc] at h;exact nn h
  |some b₁=>
   rw[hc] at h;rw[An];simp only[gZ];refine tbn (Wp.bind (ht η c env C K KG s b₁ x hc) λr₁ s₁ q=>bc ?_);refine kA q λeq1 e=>?_;subst eq1;cases r₁ with
   |true=>exact Wp.mono (ih s₁ b (x.ext e) h) λr s₂ q=>⟨q.1,e.trans q.2⟩
   |false=>
    cases h;exact Wp.mono (off r s₁) λr s₂ q=>⟨q.1,e.trans q.2⟩
set_option backward.match.sparseCases true in
theorem R6(ho:s.heap.get? I=some o)(hq:BL o):Wp A (letOwnedTupleGo tgt (.ref I) v) (λZ s'=>s'=s) s:=by
 have key:∀a,Wp A (load I>>=λo=>match o.cls,o.data with
   | .type n,.fields vs=>if ["enumerate","zip","dict_itemiterator","dict_reverseitemiterator","odict_iterator","itertools.zip_longest","itertools.pairwise"].contains n&&vs[0]?==some (rawInt a) then do
     rule "for.unpacks-the-owned-tuple"
     updateField I 0 .none
    else pure ()
   |_,_=>pure ()) (λZ s'=>s'=s) s:=λa=>by
  refine tbn (wpAny_load ho ?_);obtain⟨cls,dict,data,slots⟩:=o;cases cls with
  |type n=>cases data with
   |fields vs=>
    show wpAny _ _ (if _&&_ then _ else pure ()) _ _ _;rw[hq n rfl];exact bc rfl
   |_=>exact bc rfl
  |_=>exact bc rfl
 cases tgt with
 |Tuple=>cases v with
  |ref a=>exact key a|_=>exact bc rfl
 |List=>cases v with
  |ref a=>exact key a|_=>exact bc rfl
 |_=>exact bc rfl
end
noncomputable def turnOf(tgt:PE)(ifs:List PySem.Expr)(p:Pos)(it:Value)(env:Env)(emit:Sem Unit)(c:Code):Sem Fin:=do
 standAt p
 match ←pyNext it with
 |none=>pure (.done .next)
 |some v=>
  letOwnedTupleGo tgt it v
  assign tgt env v
  let mut ok:=true
  for c in ifs do
   if ok then ok ←isTrue c env (eval c env)
  if ok then emit
  again c
section
theorem jrS(hq:c.quiet=true)
  (hcode:∀(Q:Fin->Shared->Prop) (E:Value->Shared->Prop) (s:Shared),wpAny (model V.prog V.w) A ((turnOf tgt ifs p it env emit c).onRaise (λx=>do noteFrame x env;theTreesLotGoes x)) Q E s->wpAny (model V.prog V.w) (A.under c) ((model V.prog V.w).den c) Q E s)
  (I:Nat->Shared->Prop)
  (turn:∀n s,I n s->Wp A (pyNext it) (λr s₁=>match r with
   |none=>R (.ok .next) s₁
   |some v=>Wp A (letOwnedTupleGo tgt it v) (λZ H5=>Wp A (assign tgt env v) (λZ s₂=>
     Wp A (forIn ifs true λc r=>if r=true then do let ok ←isTrue c env (eval c env);pure (ForInStep.yield ok) else pure (ForInStep.yield r)) (λok s₃=>
      if ok=true then Wp A emit (λZ s4=>∃m,m<n/\I m s4) s₃ else ∃m,m<n/\I m s₃) s₂) H5) s₁) s)
  (n:Nat) (h:I n s):codeAny (model V.prog V.w) A c R s:=by
 refine codeAny_loop hq I (λn s hI=>hcode _ _ _ (wpAny_noted ?_)) n h;unfold turnOf;refine tbn (gr (tbn (tmo (turn n s hI) (λr s₁ h₁=>?_) λZ Z f=>f.elim)));cases r with
 |none=>exact bc h₁
 |some v=>
  refine tbn (tmo h₁ (λZ H5 h₁'=>?_) λZ Z f=>f.elim);refine tbn (tmo h₁' (λZ s₂ h₂=>tbn (tmo h₂ (λok s₃ h₃=>?_) λZ Z f=>f.elim)) λZ Z f=>f.elim);cases ok with|false=>exact bc ⟨rfl,h₃⟩|true=>exact tbn (tmo h₃ (λZ s4 h₄=>bc ⟨rfl,h₄⟩) λZ Z f=>f.elim)
theorem jsC{tgt:PE}{ifs:List PySem.Expr}{p:Pos}{I:Addr}{env:Env}{emit:Sem Unit}{c:Code}(hq:c.quiet=true)
  (hcode:∀(Q:Fin->Shared->Prop) (E:Value->Shared->Prop) (s:Shared),wpAny (model V.prog V.w) A ((turnOf tgt ifs p (.ref I) env emit c).onRaise (λx=>do noteFrame x env;theTreesLotGoes x)) Q E s->wpAny (model V.prog V.w) (A.under c) ((model V.prog V.w).den c) Q E s)
  {Ci wr fp Z:AP}{wg:NP}{St:Nat->Shared->Prop}{hi lo aY base:Nat}{items:LV}(W:It Ci hi I items wr fp wg St)(hA:aR A 1)
  (hfp:∀b,fp b->b<lo/\¬Z b)(j9:∀i,wg i->i<aY)
  {Inv:LV->Shared->Prop}{step:PV->Option (LV)}{out:LV}
  (hbase:∀acc s,Inv acc s->base<=s.heap.objs.size)(hnext:∀acc s s',Inv acc s->aC wr wg s s'->Inv acc s')
  (hbody:∀x v acc a s,Inv acc s->VR (λb=>Ci b/\¬wr b/\(b<hi\/base<=b)) s.heap x v->step x=some a->(∃r,out=acc++a++r)->
   Wp A (assign tgt env v) (λY s₂=>Wp A (forIn ifs true λc r=>if r=true then do let ok ←isTrue c env (eval c env);pure (ForInStep.yield ok) else pure (ForInStep.yield r)) (λok s₃=>
    if ok=true then Wp A emit (λY s4=>Inv (acc++a) s4/\aC (λb=>lo<=b\/Z b) (λi=>aY<=i) s s4) s₃ else Inv (acc++a) s₃/\aC (λb=>lo<=b\/Z b) (λi=>aY<=i) s s₃) s₂) s)
  {s:Shared}{sS out':LV}(hl:mJ step items=some out')(ho:out=sS++out')(hst:St 0 s)(hinv:Inv sS s)
  {R:Result->Shared->Prop}(hR:∀s',Inv out s'->R (.ok .next) s'):codeAny (model V.prog V.w) A c R s:=by
 refine jrS hq hcode (λn s=>∃i acc rest,n=items.length+1-i/\i<=items.length/\mJ step (items.drop i)=some rest/\out=acc++rest/\Inv acc s/\St i s) ?_ (items.length+1)
  (Qz 0 sS out' rfl (jq _) (by simpa using hl) ho hinv hst)
 rintro n s ⟨i,acc,rest,rfl,hi',hl',ho',hinv',hst'⟩;cases hx:items[i]? with
 |none=>
  have hlen:items.length<=i:=by simpa using hx
  have hii:i=items.length:=DW hi' hlen;subst hii;rw[Pu] at hl';cases hl';refine Wp.mono (W.done A s hA hst') λr s' q=>?_;refine gJ r q λe=>?_;exact hR s' (by rw[ho',fV];exact hnext _ _ _ hinv' e)
 |some x=>
  have hlt:i<items.length:=(um.mp hx).1;have hxe:items[i]=x:=(um.mp hx).2;have hd:items.drop i=x::items.drop (i+1):=by rw[Ak hlt,hxe]
  rw[hd] at hl';have hl':((step x).bind λa=>(mJ step (items.drop (i+1))).bind λb=>some (a++b))=some rest:=hl';refine aM hl' λa ha hl'=>aM hl' λrest' hr e=>?_;have e:=ir e;subst e;refine Wp.mono (W.item A i s x hA hx hst') λr s₁ q=>?_;refine Fe r q λv hv qm e=>?_;refine aH (W.quiet _ _ qm) λo ho₁ hqo=>?_;refine Wp.mono (R6 ho₁ hqo) λY H5 q=>?_;subst q;have hb:=hbase _ _ hinv';have done:∀s4,Inv (acc++a) s4/\aC (λb=>lo<=b\/Z b) (λi=>aY<=i) H5 s4->∃m,m<items.length+1-i/\∃i acc rest,m=items.length+1-i/\i<=items.length/\mJ step (items.drop i)=some rest/\out=acc++rest/\Inv acc s4/\St i s4:=λs4 q=>
   ⟨items.length+1-(i+1),Ox (rZ hlt) (jo i),i+1,acc++a,rest',rfl,hlt,hr,by rw[ho',dm],q.1,
    W.frame _ _ _ qm (λb o hf g=>q.2.heap b o (λw=>by
     rcases w with w|w
     ·exact absurd (hfp b hf).1 (bw w)
     ·exact(hfp b hf).2 w) g) λj y hj g=>q.2.gens j y (λw=>absurd (j9 j hj) (bw w)) g⟩
  refine Wp.mono (hbody x v acc a H5 (hnext _ _ _ hinv' e) (hv.mono λb o c g=>⟨⟨c.1,c.2.1,c.2.2.imp id (aF hb)⟩,g⟩) ha ⟨rest',by rw[ho',dm]⟩) λY s₂ q=>Wp.mono q λok s₃ q=>?_;cases ok with|true=>simp only[gZ] at q⊢;exact Wp.mono q λY s4 q=>done s4 q|false=>simp only[kj,jH] at q⊢;exact done s₃ q
end
theorem jmH:∀(ts:List PySem.Expr) (l:LV) (η aD:ME),cH ts l η=some aD->(∀f∈η,f.vals.length=f.names.length)->
  (∀y q,(∀t∈ts,∀p,t≠.Name y p)->look y η=some q->look y aD=some q)/\(∀z,cZ aD z=cZ η z):=by
 intro ts;induction ts with
 |nil=>
  intro l η aD h _;refine Xg l aD (xJ h) ?_;exact⟨λZ Z Z h=>h,λZ=>rfl⟩
 |cons t ts ih=>
  intro l η aD h hw;obtain⟨y,py,p,r,cN,rfl,rfl,_,h1,h⟩:=xK h;have lk:=λz=>mO (y:=z) h1 hw;refine kA (ih r cN aD h (lk y).2.2.2) λq1 q2=>?_;exact⟨λz q hz hl=>q1 z q (λt ht=>hz t (pO _ ht)) (((lk z).1.trans (aZ λ(e:z=y)=>hz _ nA py (by rw[e]))).trans hl),λz=>(q2 z).trans ((lk z).2.2.1 z)⟩
theorem fresh_ne{η:ME}{y:Str}{q:PV}(hq:look y η=some q)(hf:(look y η).isNone=true){P:Prop}:P:=by rw[hq] at hf;exact nf hf
theorem jiA{tgt:PE}{p:PV}{η aD:ME}(hf:freshT η tgt=true)(h:d8 tgt p η=some aD)(hw:∀f∈η,f.vals.length=f.names.length):
  (∀y q,look y η=some q->look y aD=some q)/\(∀z,cZ aD z=cZ η z):=by
 obtain⟨x,px,rfl,_,h⟩|⟨ts,k,px,l,rfl,rfl,h⟩:=Xk h
 ·have lk:=λz=>mO (y:=z) h hw;exact⟨λy q hq=>((lk y).1.trans (aZ λ(e:y=x)=>fresh_ne (e▸hq) hf)).trans hq,λz=>(lk z).2.2.1 z⟩
 ·refine kA (jmH ts _ η aD h hw) λq1 q2=>?_;exact⟨λy q hq=>q1 y q (λt ht p e=>fresh_ne hq (show QH η (.Name y p)=true from e▸cU.mp hf t ht)) hq,q2⟩
structure Acc where
 is:LV->Addr->(AP)->Heap->Prop
 keep':∀acc D C C' h h',(∀a o,C a->h.get? a=some o->C' a/\h'.get? a=some o)->(∀o,h.get? D=some o->h'.get? D=some o)->is acc D C h->is acc D C' h'
theorem Acc.keep(x:Acc):∀acc D C h h',(∀a o,(C a\/a=D)->h.get? a=some o->h'.get? a=some o)->x.is acc D C h->x.is acc D C h':=
 λacc D C h h' k q=>x.keep' acc D C C h h' (λa o c g=>⟨c,k a o (.inl c) g⟩) (λo g=>k D o (.inr rfl) g) q
noncomputable def mU:Acc:=⟨λacc D C h=>∃vs,cj h D (List.toArray vs)/\aV C h acc vs,λacc D C C' h h' k kd x=>by
 refine aH x λvs bC hl=>?_;obtain⟨o,ho,r⟩:=bC;exact aW vs (aW o (kd o ho) r) (hl.mono k)⟩
noncomputable def vZ:Acc:=⟨λacc D C h=>∃l kvs,putAll acc []=some l/\(D==sysModules)=false/\h.DictOf (strKind V.prog V.w) D kvs/\fZ C h l kvs,λacc D C C' h h' k kd x=>by
 refine dZ x λl kvs hl sm hd hv=>?_;exact fW l kvs hl sm (hd.at λo ho=>kd o ho) (hv.mono k)⟩
structure iB(cenv:Env)(a:Acc)(Dc:Addr)(s0:Shared)(base:Nat)(C K:AP)(KG:NP)(η:ME)(acc:LV)(s:Shared):Prop where
 fa:FA cenv η C K KG s
 ext:aA s0 s
 base:base<=s.heap.objs.size
 acc:a.is acc Dc C s.heap
section
variable{A:Around}{S:Sp}{D:Nat}{cenv:Env}{a:Acc}{Dc:Addr}{s0:Shared}{base:Nat}{C K:AP}{KG:NP}{η:ME}
theorem iB.cC{acc:LV}{s s':Shared}{W:AP}{G:NP}(x:iB cenv a Dc s0 base C K KG η acc s)(e:aC W G s s')(h:∀b,W b->¬C b/\K b/\V.h₀.get? b=none/\s0.heap.objs.size<=b/\b≠Dc)(hG:∀i,G i->s0.gens.size<=i):iB cenv a Dc s0 base C K KG η acc s':=
 ⟨x.fa.cC e (λb w=>(h b w).1) (λb w=>(h b w).2.1) λb w=>(h b w).2.2.1,aC.Aw x.ext e (λb w=>(h b w).2.2.2.1) hG,aF x.base e.size,
  a.keep _ _ _ _ _ (λb o q g=>e.heap b o (λw=>by
   rcases q with q|q
   ·exact(h b w).1 q
   ·exact(h b w).2.2.2.2 q) g) x.acc⟩
theorem iB.ext'{acc:LV}{s s':Shared}(x:iB cenv a Dc s0 base C K KG η acc s)(e:aA s s'):iB cenv a Dc s0 base C K KG η acc s':=
 ⟨x.fa.ext e,x.ext.trans e,aF x.base e.size,a.keep _ _ _ _ _ (λb o Z g=>e.heap g) x.acc⟩
theorem La{n:Nat}(hA:aR A D)(hD:1<=D)(hT:ST A S n){tgt:PE}{ifs:List PySem.Expr}{p:Pos}{I:Addr}{emit:Sem Unit}{c:Code}(hq:c.quiet=true)
  (hcode:∀(Q:Fin->Shared->Prop) (E:Value->Shared->Prop) (s:Shared),wpAny (model V.prog V.w) A ((turnOf tgt ifs p (.ref I) cenv emit c).onRaise (λx=>do noteFrame x cenv;theTreesLotGoes x)) Q E s->wpAny (model V.prog V.w) (A.under c) ((model V.prog V.w).den c) Q E s)
  {Ci wr fp Z:AP}{wg:NP}{St:Nat->Shared->Prop}{hi lo aY lZ lD:Nat}{items:LV}(W:It Ci hi I items wr fp wg St)
  (Ib:∀b,Ci b->¬wr b->(b<hi\/base<=b)->C b)
  (hwr:∀b,wr b->¬C b/\K b/\V.h₀.get? b=none/\lZ<=b/\b≠Dc)(j9:∀i,wg i->lD<=i/\i<aY)
  (hlo:lZ<=lo/\lD<=aY/\s0.heap.objs.size<=lZ/\s0.gens.size<=lD)(hfp:∀b,fp b->b<lo/\¬Z b)
  (hZ:∀b,f9 cenv η b->Z b/\s0.heap.objs.size<=b/\b≠Dc)
  {Wj:ME->Option (LV)}{out sS out':LV}
  (jHH:∀aD acc a' s,(∀z,cZ aD z=cZ η z)->aY<=s.gens.size->iB cenv a Dc s0 base C K KG aD acc s->Wj aD=some a'->(∃r,out=acc++a'++r)->
   Wp A emit (λY s'=>iB cenv a Dc s0 base C K KG aD (acc++a') s'/\aC (λb=>lo<=b\/Z b) (λi=>aY<=i) s s') s)
  (hc:lK (bI S n) η tgt ifs Wj items=some out')(ho:out=sS++out'){s:Shared}(hst:St 0 s)(hg:aY<=s.gens.size)(hinv:iB cenv a Dc s0 base C K KG η sS s)
  {R:Result->Shared->Prop}(hR:∀s',iB cenv a Dc s0 base C K KG η out s'->aC (λb=>lZ<=b\/Z b) (λi=>lD<=i) s s'->R (.ok .next) s'):codeAny (model V.prog V.w) A c R s:=by
 unfold lK at hc;split at hc
 ·exact nn hc
 rename_i hfr;have hfr:freshT η tgt=true:=by simpa using hfr
 refine jsC (Inv:=λacc s'=>iB cenv a Dc s0 base C K KG η acc s'/\aC (λb=>lZ<=b\/Z b) (λi=>lD<=i) s s') hq hcode W (hA.mono hD) hfp (λi h=>(j9 i h).2) (λacc s' h=>h.1.base) (λacc s₁ s₂ h e=>?_) ?_ hc ho hst ⟨hinv,aC.refl⟩ λs' h=>hR s' h.1 h.2
 ·exact⟨h.1.cC e (λb w=>nM ((hwr b w).1) ((hwr b w).2.1) ((hwr b w).2.2.1) (aF hlo.2.2.1 (hwr b w).2.2.2.1) ((hwr b w).2.2.2.2)) λi g=>aF hlo.2.2.2 (j9 i g).1,
   h.2.trans (aC.mono e (λb Y w=>.inl (hwr b w).2.2.2.1) λi Y g=>(j9 i g).1)⟩
 ·rintro x v acc a' s₁ ⟨hi1,hb₁⟩ hv hs hr
  ·refine aM hs ?_;clear hs;intro aD h1 hs;refine aM hs ?_;clear hs;intro b ht hs;refine kA (jiA hfr h1 hi1.fa.wf) λk1 k2=>?_;have hv':VR C s₁.heap x v:=hv.mono λb o c g=>⟨Ib b c.1 c.2.1 c.2.2,g⟩;refine Wp.mono (BX hA.handled hi1.fa h1 hv') λY s₂ q=>?_;refine kA q λe₂ f₂=>?_;have i2:iB cenv a Dc s0 base C K KG aD acc s₂:=⟨f₂,aC.Aw hi1.ext e₂ (λb w=>(hZ b w).2.1) (λY g=>False.elim g),aF hi1.base e₂.size,
    a.keep _ _ _ _ _ (λb o q g=>e₂.heap b o (λw=>by
     rcases q with q|q
     ·exact(hi1.fa.hot w).1 q
     ·exact(hZ b w).2.2 q) g) hi1.acc⟩
   have ev2:aC (λb=>lo<=b\/Z b) (λi=>aY<=i) s₁ s₂:=aC.mono e₂ (λb Y w=>.inr (hZ b w).1) λY Y g=>g.elim;have back:∀acc s4,iB cenv a Dc s0 base C K KG aD acc s4->iB cenv a Dc s0 base C K KG η acc s4:=λacc s4 h=>⟨h.fa.less k1 (λy=>(k2 y).symm) hi1.fa.wf,h.ext,h.base,h.acc⟩;have wide:∀{s s':Shared},aC (λb=>lo<=b\/Z b) (λi=>aY<=i) s s'->aC (λb=>lZ<=b\/Z b) (λi=>lD<=i) s s':=λe=>aC.mono e (λb Y w=>w.imp (aF hlo.1) id) λi Y g=>aF hlo.2.1 g
   ·refine Wp.mono (jkN hT ifs s₂ b f₂ ht) λok s₃ q=>?_;refine kA q λeq1 cu=>?_;subst eq1;have N5:=aC.trans ev2 (aA.cC cu);cases ok with
    |true=>
     simp only[gZ] at hs⊢;refine Wp.mono (jHH aD acc a' s₃ k2 (aF hg (aF hb₁.cV (aF e₂.cV cu.cV))) (i2.ext' cu) hs hr) λY s4 q=>?_;exact⟨⟨back _ _ q.1,hb₁.trans (wide (aC.trans N5 q.2))⟩,aC.trans N5 q.2⟩
    |false=>
     simp only[kj,jH] at hs⊢;cases hs;rw[fV];exact⟨⟨back _ _ (i2.ext' cu),hb₁.trans (wide N5)⟩,N5⟩
end
structure jAO(cenv:Env)(Dc:Addr)(s0:Shared)(base:Nat)(C K:AP)(η:ME)(Ci wr fp Z:AP)(wg:NP)(St:Nat->Shared->Prop)(hi lo aY lZ lD:Nat)(items:LV)(I:Addr):Prop where
 W:It Ci hi I items wr fp wg St
 Ib:∀b,Ci b->¬wr b->(b<hi\/base<=b)->C b
 hwr:∀b,wr b->¬C b/\K b/\V.h₀.get? b=none/\lZ<=b/\b≠Dc
 j9:∀i,wg i->lD<=i/\i<aY
 hlo:lZ<=lo/\lD<=aY/\s0.heap.objs.size<=lZ/\s0.gens.size<=lD
 hfp:∀b,fp b->b<lo/\¬Z b
 hZ:∀b,f9 cenv η b->Z b/\s0.heap.objs.size<=b/\b≠Dc
structure CS(Dc:Addr)(s0:Shared)(base:Nat)(C K Z:AP):Prop where
 zC:∀b,Z b->¬C b/\b<base
 z:Z Dc
 low:s0.heap.objs.size<=Dc
 nC:¬C Dc
 yK:K Dc
 h0:V.h₀.get? Dc=none
structure Made(C:AP)(s:Shared)(a:Acc)(out:LV)(Dc L:Addr)(s':Shared):Prop where
 ext:aA s s'
 hL:s.heap.objs.size<=L/\L<s'.heap.objs.size
 hD:s.heap.objs.size<=Dc/\C Dc/\Dc≠L
 ns:∃m,s'.heap.Ns L m
 acc:a.is out Dc (λb=>C b/\b≠L/\b≠Dc) s'.heap
section
variable{A:Around}{S:Sp}{D:Nat}
theorem R7(hA:aR A D)(O:Ops D S)(hE:SE A S n){C K:AP}{KG:NP}(x:FA env η C K KG s)(hsc:gw sc η=true)
  (hnew:∀s₂,(∀b o,V.h₀.get? b=some o->s₂.heap.get? b=some o)->Wp A newAcc (λacc s₃=>∃Dc,acc=.ref Dc/\s₂.heap.objs.size<=Dc/\Dc<s₃.heap.objs.size/\aA s₂ s₃/\∀C',a.is [] Dc C' s₃.heap) s₂)
  (hi:aG S n η iter=some pa)(xm:fQ pa=some items)
  (hloop:∀(cenv:Env) (Dc I:Addr) (base:Nat) (C' K':AP) (iG:NP) (Ci wr fp Z:AP) (wg:NP) (St:Nat->Shared->Prop) (hi lo aY lZ lD:Nat) (s4:Shared),
   CS Dc s base C' K' Z->jAO cenv Dc s base C' K' (bQ sc::η) Ci wr fp Z wg St hi lo aY lZ lD items I->St 0 s4->iB cenv a Dc s base C' K' iG (bQ sc::η) [] s4->lo<=Dc->aY<=s4.gens.size->
   ∀R:Result->Shared->Prop,(∀s',iB cenv a Dc s base C' K' iG (bQ sc::η) out s'->R (.ok .next) s')->codeAny (model V.prog V.w) A (.compLoop e 0 (.ref I) (.ref Dc) cenv) R s4)
  (hstart:∀(it acc:Value) (cenv:Env) (R:Result->Shared->Prop) (s':Shared),codeAny (model V.prog V.w) A (.compLoop e 0 it acc cenv) R s'->Wp A (pyIter it) (λit' s''=>codeAny (model V.prog V.w) A (.compLoop e 0 it' acc cenv) R s'') s'->codeAny (model V.prog V.w) A (.compStart e 0 it acc cenv) R s')
  {RR:Value->Addr->Result->Shared->Prop}(hRR:∀Dc L s',Made C s a out Dc L s'->RR (.ref Dc) L (.ok .next) s'):
  Wp A (eval iter env) (λv s₁=>Wp A (pyIter v) (λit s₂=>Wp A newAcc (λacc s₃=>Wp A (newFunctionEnv sc env.globals (mR env sc.names []) [] env.qual none .none (some env))
   (λcenv s4=>codeAny (model V.prog V.w) A (.compStart e 0 it acc {cenv with scope:=relabel sc env}) (RR acc cenv.locals) s4) s₃) s₂) s₁) s:=by
 refine Wp.mono (hE η iter env C K KG s pa x hi) λv s₁ h₁=>?_;refine Wp.mono (O.iter A s s₁ C pa v items hA (x.here.ext h₁.1) h₁.1 h₁.2 xm) λit s₂ h₂=>?_;refine JH h₂ λe₂ hi' I wr fp wg St eq1 W hst hhi hwr hfp hwf j9=>?_;subst eq1;refine Wp.mono (hnew s₂ λb o h=>aA.heap e₂ (x.base b o h)) λacc s₃ h₃=>?_;refine vG h₃ λDc eq1 d1 d2 cu hacc=>?_;subst eq1;refine jfk ?_;have Dt:aA s s₃:=e₂.trans cu;generalize zP:({s₃ with heap:=pushCells (s₃.heap.push {cls:=.type "dict",data:=.dict #[]}) sc.names}:Shared)=s4;generalize hce:({scope:=relabel sc env,locals:=s₃.heap.objs.size,globals:=env.globals,cells:=cellsFrom (s₃.heap.objs.size+1) sc.names (mR env sc.names []),qual:=env.qual,func:=none,code:=env.code,frame:=env.frame,builtins:=env.builtins}:Env)=cenv;have Du:s.heap.objs.size<=Dc:=aF e₂.size d1;have hsz:s₃.heap.objs.size<s4.heap.objs.size:=by
  have:=Gz sc.names (s₃.heap.push {cls:=.type "dict",data:=.dict #[]});rw[fK] at this;rw[←zP];exact this
 have nh:∀b,s.heap.objs.size<=b->V.h₀.get? b=none:=λb hb=>by
  cases hq:V.h₀.get? b with|none=>rfl|some o=>exact absurd (hls (x.base b o hq)) (bw hb)
 have wlt:∀b,wr b->b<s₃.heap.objs.size:=λb w=>bJ (hwr b w).2 cu.size;refine cW (FA.comp x hsc (s₃:=s₃) (s4:=s4) (cenv:=cenv) (X:=λb=>wr b\/b=Dc) (XG:=wg) (C':=λb=>C b/\¬wr b/\b≠Dc/\¬(s₃.heap.objs.size<=b/\b<s4.heap.objs.size)) Dt zP.symm (by rw[←hce];exact nM rfl rfl rfl rfl rfl)
  (λb q=>by
   rcases q with q|rfl
   ·exact⟨(hwr b q).1,wlt b q⟩
   ·exact⟨Du,d2⟩) (λi q=>bJ (j9 i q).2 cu.cV)
  (λb hb c=>jh c (λw=>absurd hb (bw (hwr b w).1)) (λq=>absurd hb (bw (q▸Du))) (λq=>absurd (bJ hb Dt.size) (bw q.1)))
  (λb q=>q.1) (λb hb=>jh (x.cJ b (aF Dt.size (aF (fL hsz) hb))) (λw=>absurd (qT (wlt b w) hsz) (bw hb)) (λq=>absurd (qT (q▸d2) hsz) (bw hb)) (λq=>absurd q.2 (bw hb)))
  (λb h1 h2 q=>q.2.2.2 ⟨h1,h2⟩)) λfa e₄ Y hot=>?_
 have hstep:codeAny (model V.prog V.w) A (.compLoop e 0 (.ref I) (.ref Dc) cenv) (RR (.ref Dc) cenv.locals) s4/\∀pK,aA s4 pK->St 0 pK->codeAny (model V.prog V.w) A (.compLoop e 0 (.ref I) (.ref Dc) cenv) (RR (.ref Dc) cenv.locals) pK:=by
  have go:∀pK,aA s4 pK->St 0 pK->codeAny (model V.prog V.w) A (.compLoop e 0 (.ref I) (.ref Dc) cenv) (RR (.ref Dc) cenv.locals) pK:=by
   intro pK e4' hst';refine hloop cenv Dc I s4.heap.objs.size (λb=>C b/\¬wr b/\b≠Dc/\¬(s₃.heap.objs.size<=b/\b<s4.heap.objs.size)) (λb=>K b\/(wr b\/b=Dc)) (λi=>KG i\/wg i) C wr fp (λb=>b=Dc\/f9 cenv (bQ sc::η) b) wg St hi' s₂.heap.objs.size s₂.gens.size s.heap.objs.size s.gens.size pK
    ⟨λb q=>?_,.inl rfl,Du,λq=>q.2.2.1 rfl,.inr (.inr rfl),nh _ Du⟩ ⟨W,λb c w q=>jh c w ?_ ?_,λb w=>nM (λq=>q.2.1 w) (.inr (.inl w)) (nh _ (hwr b w).1) ((hwr b w).1) (λq=>?_),λi w=>j9 i w,jh e₂.size e₂.cV (aN _) (aN _),λb f=>⟨(hfp b f).2,λq=>?_⟩,λb h=>⟨.inr h,aF Dt.size (hot b h).1,λq=>?_⟩⟩
    hst' (iB.ext' ⟨fa,Dt.trans e₄,aN _,a.keep _ _ _ _ _ (λb o Y g=>e₄.heap g) (hacc _)⟩ e4') d1 (aF cu.cV (aF e₄.cV e4'.cV)) _ λs' q=>hRR _ _ _ ?_
   ·rcases q with rfl|q
    ·exact⟨λq=>q.2.2.1 rfl,qT d2 hsz⟩
    ·exact⟨(fa.hot q).1,(hot b q).2⟩
   ·rintro rfl;rcases q with q|q
    ·exact absurd (bJ q hhi) (bw d1)
    ·exact absurd (qT d2 hsz) (bw q)
   ·rintro⟨h1,h2⟩;rcases q with q|q
    ·exact absurd (bJ q (aF hhi cu.size)) (bw h1)
    ·exact absurd h2 (bw q)
   ·subst q;exact absurd (hwr b w).2 (bw d1)
   ·rcases q with rfl|q
    ·exact absurd (hfp b f).2 (bw d1)
    ·exact absurd (bJ (hfp b f).2 cu.size) (bw (hot b q).1)
   ·subst q;exact absurd d2 (bw (hot b h).1)
   ·have hL:cenv.locals=s₃.heap.objs.size:=by rw[←hce]
    refine eV q.fa.sees λm f ns Y=>?_;exact⟨q.ext,by rw[hL];exact⟨Dt.size,bJ hsz q.base⟩,⟨Du,x.cJ _ Du,by rw[hL];exact iI d2⟩,⟨m,ns⟩,
     a.keep' _ _ _ _ _ _ (λb o c g=>⟨⟨c.1,λr=>c.2.2.2 (by rw[r,hL];exact⟨aN _,hsz⟩),c.2.2.1⟩,g⟩) (λY g=>g) q.acc⟩
  exact⟨go s4 aC.refl (W.frame _ _ _ hst (λb o Y g=>aA.heap (cu.trans e₄) g) λi y Y g=>aC.gens (cu.trans e₄) i y (λh=>h) g),go⟩
 have q7:St 0 s4:=W.frame _ _ _ hst (λb o Y g=>aA.heap (cu.trans e₄) g) λi y Y g=>aC.gens (cu.trans e₄) i y (λh=>h) g;have key:=hstart (.ref I) (.ref Dc) cenv (RR (.ref Dc) cenv.locals) s4 hstep.1 (Wp.mono (W.self A 0 s4 (hA.mono O.room) q7) λit' s'' q=>by
  refine JK it' q λq1 q2=>?_;exact hstep.2 s'' q2 q1)
 have hL:cenv.locals=s₃.heap.objs.size:=by rw[←hce]
 rw[hL] at key;exact key
end
theorem Z1(p:PV)(l:LV)(d:List (PV×PV)):putAll (p::l) d=(lM p).bind λq=>if q.2.plain then putAll l (oY q.1 q.2 d) else .none:=rfl
theorem R8:∀(l r:LV) (d:List (PV×PV)),putAll (l++r) d=(putAll l d).bind (putAll r):=by
 intro l r;induction l with
 |nil=>exact λZ=>rfl
 |cons p l ih=>
  intro d;rw[vg,Z1,Z1];cases lM p with
  |none=>rfl
  |some q=>
   rw[nD,nD];cases q.2.plain
   ·rfl
   ·exact ih _
theorem jhD(k:List Nat)(v:PV):∀l:List (PV×PV),(oY k v l).length<=l.length+1:=by
 intro l;induction l with
 |nil=>exact aN _
 |cons p r ih=>
  show(if p.1.bV==some k then(p.1,v)::r else p::oY k v r).length<=r.length+1+1;by_cases c:(p.1.bV==some k)=true
  ·rw[aX c];exact iH _
  ·rw[aZ c];exact pX ih
theorem jib:∀(l:LV) (d e:List (PV×PV)),putAll l d=some e->e.length<=d.length+l.length:=by
 intro l;induction l with
 |nil=>intro d e h;cases h;exact aN _
 |cons p l ih=>
  intro d e h;refine aH (bx h) λq Z h=>?_;have h1:=ih _ _ (dq h).2;have h2:=jhD q.1 q.2 d;rw[dC];lia
section
variable{A:Around}{S:Sp}{D:Nat}{cenv:Env}{Dc:Addr}{s0:Shared}{base lo aY:Nat}{C K Z:AP}{KG:NP}
theorem Z2(hE:SE A S n)(cs:CS Dc s0 base C K Z)(x:iB cenv (mU) Dc s0 base C K KG aD acc s)
  (hv:aG S n aD elt=some v)(hp:v.plain=true)(hlen:aL acc.length=true):
  Wp A (do let _ ←call (.builtin "list.append") [.ref Dc,←eval elt cenv]) (λY s'=>iB cenv (mU) Dc s0 base C K KG aD (acc++[v]) s'/\aC (λb=>lo<=b\/Z b) (λi=>aY<=i) s s') s:=by
 refine tbn (Wp.mono (hE aD elt cenv C K KG s v x.fa hv) λy s₁ h₁=>?_);have x₁:=x.ext' h₁.1;refine aH x₁.acc λvs hd hvs=>?_;have hy:VR C s₁.heap v y:=h₁.2.plain hp;refine tbn (I5 (hsz:=by rw[show vs.toArray.size=acc.length by rw[hvs.length];simp];exact ph hlen) hd.plain λh' hl' hs'=>bc ?_);have e:aC (λb=>b=Dc) no s₁ {s₁ with heap:=h'}:=⟨λb o nb g=>hs'.extBut b o nb g,by show _<=h'.objs.size;rw[hs'.1];exact aN _,λY Y Y g=>g,aN _,id,rfl⟩;have nb:∀b,b=Dc->¬C b:=λb q=>q▸cs.nC;refine⟨⟨x₁.fa.cC e nb (λb q=>q▸cs.yK) (λb q=>q▸cs.h0),aC.Aw x₁.ext e (λb q=>q▸cs.low) (λY g=>False.elim g),aF x₁.base e.size,aW (vs++[y]) ?_ ((hvs.append (.cons hy .nil)).cC e nb)⟩,
  aC.trans (aA.cC h₁.1) (aC.mono e (λb Y q=>.inr (q▸cs.z)) λY Y g=>False.elim g)⟩
 have:(vs++[y]).toArray=vs.toArray.push y:=by simp
 rw[this];exact .of hl'
theorem jnW(O:Ops D S)(hE:SE A S n)(cs:CS Dc s0 base C K Z)(x:iB cenv (vZ) Dc s0 base C K KG aD acc s)
  (hk:aG S n aD ke=some (.str k))(hv:aG S n aD ve=some v)(hp:v.plain=true)(hlen:aL acc.length=true):
  Wp A (do
      let kv ←eval ke cenv;let vv ←holding [kv] (eval ve cenv)
      standAt pos
      holding [kv,vv] (dictSet Dc kv vv)) (λY s'=>iB cenv (vZ) Dc s0 base C K KG aD (acc++[.tup [.str k,v]]) s'/\aC (λb=>lo<=b\/Z b) (λi=>aY<=i) s s') s:=by
 refine tbn (Wp.mono (hE aD ke cenv C K KG s _ x.fa hk) λy s₁ h₁=>?_);refine tbn (dJ (Wp.mono (hE aD ve cenv C K KG s₁ _ (x.fa.ext h₁.1) hv) λz s₂ h₂=>tbn (gr (dJ ?_))));have x₂:=x.ext' (h₁.1.trans h₂.1);refine dZ x₂.acc λl kvs hl sm hdo hvd=>?_;have hy:VR C s₂.heap (.str k) y:=(h₁.2.ext h₂.1).plain rfl;have hz:VR C s₂.heap v z:=h₂.2.plain hp;have hll:aL l.length=true:=by
  exact b8 (aF (aF (jib acc [] l hl) (fH (mC _))) (dB hlen))
 refine Wp.mono (O.dput A s₂ C Dc l kvs k v y z hdo hvd cs.nC hy hz hll) λY s₃ q=>?_;refine JB q λe kvs' hdo' jHQ=>?_;have nb:∀b,b=Dc->¬C b:=λb q=>q▸cs.nC;refine⟨⟨x₂.fa.cC e nb (λb q=>q▸cs.yK) (λb q=>q▸cs.h0),aC.Aw x₂.ext e (λb q=>q▸cs.low) (λY g=>False.elim g),aF x₂.base e.size,fW _ kvs' ?_ sm hdo' jHQ⟩,
  aC.trans (aA.cC (h₁.1.trans h₂.1)) (aC.mono e (λb Y q=>.inr (q▸cs.z)) λY Y g=>False.elim g)⟩
 rw[R8,hl];exact aX hp
end
theorem jsx(elt tgt iter:PE)(ifs:List PySem.Expr)(sc:Scope)(pos:Pos)(it acc:Value)(env:Env):
  compTurn (.ListComp elt [⟨tgt,iter,ifs,0⟩] sc pos) 0 it acc env=turnOf tgt ifs iter.pos it env (do let _ ←call (.builtin "list.append") [acc,←eval elt env]) (.compLoop (.ListComp elt [⟨tgt,iter,ifs,0⟩] sc pos) 0 it acc env):=by rfl
theorem jqf(elt tgt iter:PE)(ifs:List PySem.Expr)(g:Comprehension)(sc:Scope)(pos:Pos)(it acc:Value)(env:Env):
  compTurn (.ListComp elt [g,⟨tgt,iter,ifs,0⟩] sc pos) 1 it acc env=turnOf tgt ifs iter.pos it env (do let _ ←call (.builtin "list.append") [acc,←eval elt env]) (.compLoop (.ListComp elt [g,⟨tgt,iter,ifs,0⟩] sc pos) 1 it acc env):=by rfl
theorem jqe(elt tgt iter nG gF:PE)(ifs nH:List PySem.Expr)(sc:Scope)(pos:Pos)(it acc:Value)(env:Env):
  compTurn (.ListComp elt [⟨tgt,iter,ifs,0⟩,⟨nG,gF,nH,0⟩] sc pos) 0 it acc env=turnOf tgt ifs iter.pos it env (do
    let x ←eval gF env
    standAt gF.pos
    let x ←foldedSetIterable gF env x;let i ←holding [x] (pyIter x);let _ ←runOwn (.compStart (.ListComp elt [⟨tgt,iter,ifs,0⟩,⟨nG,gF,nH,0⟩] sc pos) 1 i acc env) env) (.compLoop (.ListComp elt [⟨tgt,iter,ifs,0⟩,⟨nG,gF,nH,0⟩] sc pos) 0 it acc env):=by
 have e:compTurn (.ListComp elt [⟨tgt,iter,ifs,0⟩,⟨nG,gF,nH,0⟩] sc pos) 0 it acc env=(do
   standAt iter.pos
   match ←pyNext it with
   |none=>pure (.done .next)
   |some v=>
    letOwnedTupleGo tgt it v
    assign tgt env v
    let mut ok:=true
    for c in ifs do
     if ok then ok ←isTrue c env (eval c env)
    if ok then
     let x ←eval gF env
     standAt gF.pos
     let x ←foldedSetIterable gF env x;let i ←holding [x] (pyIter x);let _ ←runOwn (.compStart (.ListComp elt [⟨tgt,iter,ifs,0⟩,⟨nG,gF,nH,0⟩] sc pos) 1 i acc env) env
     again (.compLoop (.ListComp elt [⟨tgt,iter,ifs,0⟩,⟨nG,gF,nH,0⟩] sc pos) 0 it acc env)
    else again (.compLoop (.ListComp elt [⟨tgt,iter,ifs,0⟩,⟨nG,gF,nH,0⟩] sc pos) 0 it acc env)):=by rfl
 rw[e];unfold turnOf;congr 1;funext _;congr 1;funext r;cases r with
 |none=>rfl
 |some v=>
  dsimp only;congr 1;funext _;congr 1;funext _;congr 1;funext ok;cases ok
  ·rfl
  ·simp only[gZ,bind_assoc,pure_bind]
theorem jsw(ke ve tgt iter:PE)(ifs:List PySem.Expr)(sc:Scope)(pos:Pos)(it:Value)(Dc:Addr)(env:Env):
  compTurn (.DictComp ke ve [⟨tgt,iter,ifs,0⟩] sc pos) 0 it (.ref Dc) env=turnOf tgt ifs iter.pos it env (do
      let kv ←eval ke env;let vv ←holding [kv] (eval ve env)
      standAt {ke.pos with endLine:=ve.pos.endLine,endCol:=ve.pos.endCol}
      holding [kv,vv] (dictSet Dc kv vv)) (.compLoop (.DictComp ke ve [⟨tgt,iter,ifs,0⟩] sc pos) 0 it (.ref Dc) env):=by rfl
section
theorem jpT
  (h0:codeAny (model V.prog V.w) A (.compLoop (.ListComp elt [g,⟨tgt,iter,ifs,0⟩] sc pos) 1 it acc env) R s)
  (h:Wp A (pyIter it) (λit' s'=>codeAny (model V.prog V.w) A (.compLoop (.ListComp elt [g,⟨tgt,iter,ifs,0⟩] sc pos) 1 it' acc env) R s') s):
  codeAny (model V.prog V.w) A (.compStart (.ListComp elt [g,⟨tgt,iter,ifs,0⟩] sc pos) 1 it acc env) R s:=by
 refine codeAny_of_tree ?_;show wpAny _ A ((compStart (.ListComp elt [g,⟨tgt,iter,ifs,0⟩] sc pos) 1 it acc env).onRaise (λx=>do noteFrame x env;standAt theWindowsPlace)) _ _ s;refine wpAny_notedAt ?_;unfold compStart;show wpAny _ A (ask>>=_) _ _ s;refine tbn (wpAny_askSetting (wpAny_ite ?_));split
 ·first
   |exact tbn (bc (bc (And.intro rfl h0)))
   |exact bc (And.intro rfl h0)
 ·refine tbn (En ?_);show wpAny _ A (standAt iter.pos>>=_) _ _ s;exact tbn (gr (tbn (tmo h (λit' s' h'=>bc (And.intro rfl h')) λZ Z f=>f.elim)))
end
theorem R9{l r:LV}(h:aL (l++r).length=true):aL l.length=true:=by
 rw[bz] at h;exact b8 (aF (je _ _) (dB h))
theorem uD(h:gj out=some p):p=.lst out/\aL out.length=true:=by
 have ⟨h1,h2⟩:=dq (show(if aL out.length then some (.lst out) else .none)=some p from h);exact⟨(ir h2).symm,h1⟩
section
variable{A:Around}{S:Sp}{D:Nat}
theorem Z3:∀s₂,(∀b o,V.h₀.get? b=some o->s₂.heap.get? b=some o)->Wp A (newList []) (λacc s₃=>∃Dc,acc=.ref Dc/\s₂.heap.objs.size<=Dc/\Dc<s₃.heap.objs.size/\aA s₂ s₃/\∀C',(mU).is [] Dc C' s₃.heap) s₂:=λs₂ Z=>
 u5 (JN _ rfl (aN _) (by show _<(s₂.heap.push _).objs.size;rw[fK];exact jo _) aA.jt (λC'=>aW ([]) (nJ _ (iJ _ rfl) _ rfl) .nil))
theorem Z4(h:(V.h₀.get? sysModules).isSome=true){s:Shared}(hb:∀b o,V.h₀.get? b=some o->s.heap.get? b=some o):(s.heap.objs.size==sysModules)=false:=by
 refine kE (iQ h) λo ho=>?_;have:=hls (hb _ o ho);exact gD.mpr (z9 this)
theorem jy2(h:(V.h₀.get? sysModules).isSome=true):∀s₂,(∀b o,V.h₀.get? b=some o->s₂.heap.get? b=some o)->Wp A newDict (λacc s₃=>∃Dc,acc=.ref Dc/\s₂.heap.objs.size<=Dc/\Dc<s₃.heap.objs.size/\aA s₂ s₃/\∀C',(vZ).is [] Dc C' s₃.heap) s₂:=λs₂ hb=>
 u5 (JN _ rfl (aN _) (by show _<(s₂.heap.push _).objs.size;rw[fK];exact jo _) aA.jt (λC'=>fW ([]) ([]) rfl (Z4 h hb) (Ph _) .nil))
def LC(A:Around)(a:Acc)(newAcc:Sem Value)(e:PE)(sc:Scope)(gens:List Comprehension)(env:Env)(C:AP)(s:Shared)(out:LV):Prop:=
 ∃g gs,gens=g::gs/\g.is_async=0/\(∀x,foldedSetIterable g.iter env x=pure x)/\∀RR:Value->Addr->Result->Shared->Prop,(∀Dc L s',Made C s a out Dc L s'->RR (.ref Dc) L (.ok .next) s')->
  Wp A (eval g.iter env) (λv s₁=>Wp A (pyIter v) (λit s₂=>Wp A newAcc (λacc s₃=>Wp A (newFunctionEnv sc env.globals (mR env sc.names []) [] env.qual none .none (some env))
   (λcenv s4=>codeAny (model V.prog V.w) A (.compStart e 0 it acc {cenv with scope:=relabel sc env}) (RR acc cenv.locals) s4) s₃) s₂) s₁) s
theorem lc1(hA:aR A D)(O:Ops D S)(hE:SE A S n)(hT:ST A S n){C K:AP}{KG:NP}(x:FA env η C K KG s)(hsc:gw sc η=true)
  (hf:∀x,foldedSetIterable iter env x=pure x)(hi:aG S n η iter=some pa)(xm:fQ pa=some items)
  (hc:lK (bI S n) (bQ sc::η) tgt ifs (λaD=>(aG S n aD elt).bind λv=>if v.plain then some [v] else .none) items=some out)(hlen:aL out.length=true):
  LC A (mU) (newList []) (.ListComp elt [⟨tgt,iter,ifs,0⟩] sc pos) sc [⟨tgt,iter,ifs,0⟩] env C s out:=by
 refine fW _ _ rfl rfl hf (λRR hRR=>?_);refine R7 hA O hE x hsc Z3 hi xm ?_ (λit acc cenv R s' h0 h1=>codeAny_compStart_list h0 (tmo h1 (λY Y q=>q) λY Y f=>f.elim)) hRR;intro cenv Dc I base C' K' iG Ci wr fp Z wg St hi lo aY lZ lD s4 cs st hst hinv hlo vA R hR;refine La hA O.room hT (a:=mU) rfl (λQ E s h=>?_) st.W st.Ib st.hwr st.j9 st.hlo st.hfp st.hZ (out:=out) (sS:=[]) ?_ hc rfl hst vA hinv (λs' q Y=>hR s' q) (emit:=do let _ ←call (.builtin "list.append") [.ref Dc,←eval elt cenv]) (p:=iter.pos)
 ·show wpAny _ A ((compTurn (.ListComp elt [⟨tgt,iter,ifs,0⟩] sc pos) 0 (.ref I) (.ref Dc) cenv).onRaise (λx=>do noteFrame x cenv;theTreesLotGoes x)) Q E s;rw[jsx];exact h
 ·intro aD acc a' s₁ _ _ x₁ ha hr;refine aM ha ?_;clear ha;intro v hv ha;refine cY ha ?_;clear ha;intro hp ha;cases ha;refine kE hr λr hr=>?_;exact Z2 hE cs x₁ hv hp (R9 (r:=[v]++r) (by rw[←dm,←hr];exact hlen))
theorem lc2(hA:aR A D)(O:Ops D S)(hE:SE A S n)(hT:ST A S n){C K:AP}{KG:NP}(x:FA env η C K KG s)(hsc:gw sc η=true)
  (hf:∀x,foldedSetIterable iter env x=pure x)(hf':∀env x,foldedSetIterable gF env x=pure x)(hi:aG S n η iter=some pa)(xm:fQ pa=some items)
  (hc:lK (bI S n) (bQ sc::η) tgt ifs (λaD=>((aG S n aD gF).bind fQ).bind λitems'=>
      lK (bI S n) aD nG nH (λcN=>(aG S n cN elt).bind λv=>if v.plain then some [v] else .none) items') items=some out) (hlen:aL out.length=true):
  LC A (mU) (newList []) (.ListComp elt [⟨tgt,iter,ifs,0⟩,⟨nG,gF,nH,0⟩] sc pos) sc [⟨tgt,iter,ifs,0⟩,⟨nG,gF,nH,0⟩] env C s out:=by
 refine fW _ _ rfl rfl hf (λRR hRR=>?_);refine R7 hA O hE x hsc Z3 hi xm ?_ (λit acc cenv R s' h0 h1=>codeAny_compStart_list h0 (tmo h1 (λU U q=>q) λU U f=>f.elim)) hRR;intro cenv Dc I base C' K' iG Ci wr fp Z wg St hi lo aY lZ lD s4 cs st hst hinv hlo vA R hR;refine La hA O.room hT (a:=mU) rfl (λQ E s h=>?_) st.W st.Ib st.hwr st.j9 st.hlo st.hfp st.hZ (out:=out) (sS:=[]) ?_ hc rfl hst vA hinv (λs' q U=>hR s' q) (p:=iter.pos)
  (emit:=do
    let x ←eval gF cenv
    standAt gF.pos
    let x ←foldedSetIterable gF cenv x;let i ←holding [x] (pyIter x);let _ ←runOwn (.compStart (.ListComp elt [⟨tgt,iter,ifs,0⟩,⟨nG,gF,nH,0⟩] sc pos) 1 i (.ref Dc) cenv) cenv)
 ·show wpAny _ A ((compTurn (.ListComp elt [⟨tgt,iter,ifs,0⟩,⟨nG,gF,nH,0⟩] sc pos) 0 (.ref I) (.ref Dc) cenv).onRaise (λx=>do noteFrame x cenv;theTreesLotGoes x)) Q E s;rw[jqe];exact h
 ·intro aD acc a' s₁ hk₁ uv x₁ ha hr
  ·refine aM ha ?_;clear ha;intro items' ha' ha;refine aM ha' ?_;clear ha';intro pv hv hit
   ·refine tbn (Wp.mono (hE aD gF cenv C' K' iG s₁ pv x₁.fa hv) λy s₂ h₂=>tbn (gr (tbn (u6 (hf' cenv y) (tbn (dJ ?_))))));refine Wp.mono (O.iter A s₁ s₂ C' pv y items' hA (x₁.fa.here.ext h₂.1) h₂.1 h₂.2 hit) λit s₃ h₃=>?_;refine JH h₃ λcu hi2 I2 oE fp2 wg2 St2 eq1 W2 hst2 jVb xr Wz jVc WD=>?_;subst eq1;have hDs:Dc<s₁.heap.objs.size:=by refine aH x₁.acc λvs bC U=>?_;obtain⟨o,ho,_⟩:=bC;exact hls ho
    have jHR:lo<=s₁.heap.objs.size:=aF hlo (fL hDs);have nh:∀b,s₁.heap.objs.size<=b->V.h₀.get? b=none:=λb hb=>by
     cases hq:V.h₀.get? b with|none=>rfl|some o=>exact absurd (hls (x₁.fa.base b o hq)) (bw hb)
    have cO:=x₁.fa.narrow (X:=oE) (Y:=oE) (YG:=wg2) cu (λb w=>xr b w) (λb w=>⟨.inl w,(xr b w).2⟩) λi w=>(WD i w).2;have inv2:iB cenv (mU) Dc s base (λb=>C' b/\¬oE b) (λb=>K' b\/oE b) (λi=>iG i\/wg2 i) aD acc s₃:=⟨cO,x₁.ext.trans cu,aF x₁.base cu.size,
     (mU).keep' _ _ _ _ _ _ (λb o c g=>⟨⟨c,λw=>absurd (hls g) (bw (xr b w).1)⟩,cu.heap g⟩) (λo g=>cu.heap g) x₁.acc⟩
    have cs2:CS Dc s base (λb=>C' b/\¬oE b) (λb=>K' b\/oE b) Z:=⟨λb z=>⟨λq=>(cs.zC b z).1 q.1,(cs.zC b z).2⟩,cs.z,cs.low,λq=>cs.nC q.1,.inl cs.yK,cs.h0⟩;refine tbn (wpAny_runOwn ?_);have go:∀N6,aA s₃ N6->St2 0 N6->codeAny (model V.prog V.w) A (.compLoop (.ListComp elt [⟨tgt,iter,ifs,0⟩,⟨nG,gF,nH,0⟩] sc pos) 1 (.ref I2) (.ref Dc) cenv) (λr s'=>match r with
      | .ok _=>wpAny (model V.prog V.w) A (pure ():Sem Unit) (λU s'=>iB cenv (mU) Dc s base C' K' iG aD (acc++a') s'/\aC (λb=>lo<=b\/Z b) (λi=>aY<=i) s₁ s') iW s'
      | .error e=>cameBackBy (model V.prog V.w) A cenv iW e s') N6:=by
     intro N6 e₄ hst';refine La hA O.room hT (a:=mU) rfl (λQ E s h=>?_) W2 (λb c w U=>⟨c,w⟩)
      (lo:=s₃.heap.objs.size) (aY:=s₃.gens.size) (lZ:=s₁.heap.objs.size) (lD:=s₁.gens.size) (Z:=Z)
      (λb w=>nM (λq=>q.2 w) (.inr w) (nh b (xr b w).1) ((xr b w).1) (λq=>by subst q;exact absurd hDs (bw (xr _ w).1))) (λi w=>WD i w) (jh cu.size cu.cV x₁.ext.size x₁.ext.cV)
      (λb f=>⟨(Wz b f).2,λz=>?_⟩) (λb h=>st.hZ b ((GD hk₁ b).mp h)) (out:=acc++a') (sS:=acc) ?_ ha rfl hst' (aF (aN _) e₄.cV) (inv2.ext' e₄) ?_ (p:=gF.pos) (emit:=do let _ ←call (.builtin "list.append") [.ref Dc,←eval elt cenv])
     ·show wpAny _ A ((compTurn (.ListComp elt [⟨tgt,iter,ifs,0⟩,⟨nG,gF,nH,0⟩] sc pos) 1 (.ref I2) (.ref Dc) cenv).onRaise (λx=>do noteFrame x cenv;theTreesLotGoes x)) Q E s;rw[jqf];exact h
     ·rcases(Wz b f).1 with w|c
      ·exact absurd (bJ (cs.zC b z).2 x₁.base) (bw (xr b w).1)
      ·exact(cs.zC b z).1 c
     ·intro cN acc' a'' s4 _ _ jHS ha' hr';refine aM ha' ?_;clear ha';intro v hv' ha';refine cY ha' ?_;clear ha';intro hp ha';cases ha';refine kE hr λr hr=>?_;refine kE hr' λr' hr'=>?_;exact Z2 hE cs2 jHS hv' hp (R9 (r:=[v]++r'++r) (by rw[←dm,←dm,←hr',←hr];exact hlen))
     ·intro s' q ev;refine bc ⟨⟨q.fa.regrow (λb c=>c.1) (λb c=>?_) (λb k=>.inl k) (λi k=>.inl k) x₁.fa.hk,q.ext,q.base,(mU).keep' _ _ _ _ _ _ (λb o c g=>⟨c.1,g⟩) (λU g=>g) q.acc⟩,?_⟩
      ·by_cases w:oE b
       ·exact .inr (.inr w)
       ·exact .inl ⟨c,w⟩
      ·exact aC.trans (aA.cC (cu.trans e₄)) (aC.mono ev (λb U w=>w.imp (aF jHR) id) λi U w=>aF uv w)
    refine jpT (go s₃ aC.refl hst2) (Wp.mono (W2.self A 0 s₃ (hA.mono O.room) hst2) λit' s'' q=>?_);refine JK it' q λq1 q2=>?_;exact go s'' q2 q1
theorem jut(hd:putAll (acc++[.tup [k,v]]++r) []=some d):∃q,k=.str q/\v.plain=true:=by
 rw[R8,R8] at hd;refine aH (bx hd) λd₂ h2 Z=>?_;refine aH (bx h2) λd₁ Z h2=>?_;refine aM h2 ?_;clear h2;intro q h3 h4;have:=Bl h3;cases this;exact aW _ rfl ((dq h4).1)
theorem dc1(hA:aR A D)(O:Ops D S)(hE:SE A S n)(hT:ST A S n){C K:AP}{KG:NP}(x:FA env η C K KG s)(hsc:gw sc η=true)
  (hf:∀x,foldedSetIterable iter env x=pure x)(hi:aG S n η iter=some pa)(xm:fQ pa=some items)
  (hc:lK (bI S n) (bQ sc::η) tgt ifs (λaD=>(aG S n aD ke).bind λa=>(aG S n aD ve).bind λb=>some [.tup [a,b]]) items=some out)(hlen:aL out.length=true)(hd:putAll out []=some d):
  LC A (vZ) newDict (.DictComp ke ve [⟨tgt,iter,ifs,0⟩] sc pos) sc [⟨tgt,iter,ifs,0⟩] env C s out:=by
 refine fW _ _ rfl rfl hf (λRR hRR=>?_);refine R7 hA O hE x hsc (jy2 O.sm) hi xm ?_ (λit acc cenv R s' h0 h1=>codeAny_compStart_dict h0 (tmo h1 (λY Y q=>q) λY Y f=>f.elim)) hRR;intro cenv Dc I base C' K' iG Ci wr fp Z wg St hi lo aY lZ lD s4 cs st hst hinv hlo vA R hR;refine La hA O.room hT (a:=vZ) rfl (λQ E s h=>?_) st.W st.Ib st.hwr st.j9 st.hlo st.hfp st.hZ (out:=out) (sS:=[]) ?_ hc rfl hst vA hinv (λs' q Y=>hR s' q) (p:=iter.pos) (emit:=do
      let kv ←eval ke cenv;let vv ←holding [kv] (eval ve cenv)
      standAt {ke.pos with endLine:=ve.pos.endLine,endCol:=ve.pos.endCol}
      holding [kv,vv] (dictSet Dc kv vv))
 ·show wpAny _ A ((compTurn (.DictComp ke ve [⟨tgt,iter,ifs,0⟩] sc pos) 0 (.ref I) (.ref Dc) cenv).onRaise (λx=>do noteFrame x cenv;theTreesLotGoes x)) Q E s;rw[jsw];exact h
 ·intro aD acc a' s₁ _ _ x₁ ha hr;refine aM ha ?_;clear ha;intro k hk ha;refine aM ha ?_;clear ha;intro v hv ha;cases ha;refine kE hr λr hr=>?_;refine aH (jut (hr▸hd)) λq eq1 hp=>?_;subst eq1;exact jnW O hE cs x₁ hk hv hp (R9 (r:=[.tup [.str q,v]]++r) (by rw[←dm,←hr];exact hlen))
theorem LC.eval{C K:AP}{KG:NP}(x:FA env η C K KG s)(hsc:gw sc η=true)(hcl:clausesOf e=gens)(h:LC A a newAcc e sc gens env C s out)
  (hp:∀Dc L s' h',Made C s a out Dc L s'->Heap.SameBut L s'.heap h'->VR C h' p (.ref Dc)):Wp A (comprehension e sc env pos newAcc false (firstIter gens env)) (bK C s p) s:=by
 refine dZ h λbC gs eq2 hga hf hrun=>?_;obtain⟨WK,Wk,WL,as0⟩:=bC;subst eq2;have hn:=(vY hsc).2;refine O8 (use:=none) hcl hf (R3 (x.Ad hsc)) (vY hsc).1 (λy hy hl=>by obtain⟨y,k⟩:=y;cases hl;exact(hn y _ hy).1) ?_;refine hrun (λacc L=>compPost (model V.prog V.w) A iW none (bK C s p) acc L) λDc L s' m=>?_;refine kE m.ns λns hns=>?_;refine aW ns hns (λh' sb=>⟨?_,VX.of (hp Dc L s' h' m sb)⟩);have e:aC (λb=>b=L) no s' {s' with heap:=h'}:=⟨λb o nb g=>sb.extBut b o nb g,by show _<=h'.objs.size;rw[sb.1];exact aN _,λZ Z Z g=>g,aN _,id,rfl⟩;exact aC.Aw m.ext e (λb q=>q▸m.hL.1) λZ g=>False.elim g
theorem Z5:∀Dc L s' h',Made C s (mU) out Dc L s'->Heap.SameBut L s'.heap h'->VR C h' (.lst out) (.ref Dc):=λDc L s' h' m sb=>by
 refine aH m.acc λvs hl hv=>?_;exact .lst m.hD.2.1 (hl.extBut sb.extBut m.hD.2.2) (hv.mono λb o c g=>⟨c.1,sb.extBut b o c.2.1 g⟩)
theorem Z6(hd:putAll out []=some d):∀Dc L s' h',Made C s (vZ) out Dc L s'->Heap.SameBut L s'.heap h'->VR C h' (.dct d) (.ref Dc):=λDc L s' h' m sb=>by
 refine dZ m.acc λl kvs hl sm hdo hv=>?_;rw[hd] at hl;cases hl;exact .dct m.hD.2.1 sm (hdo.extBut sb.extBut m.hD.2.2) (hv.mono λb o c g=>⟨c.1,sb.extBut b o c.2.1 g⟩)
end
section
noncomputable abbrev Z7(pos:Pos)(x:Str×Str):Sem Value×Sem Value:=(mkText x.1,do let v ←mkText x.2;standAt pos;pure v)
theorem Z8(C:AP):∀(xs:List (Str×Str)) (s:Shared),Wp A (evalPairs (xs.map (Z7 pos))) (λvs s'=>(∃tk,s'={s with toks:=tk})/\∃kvs,Carries (strKind V.prog V.w) vs kvs/\kvs.map (·.1)=xs.map (·.1)/\∀h,fZ C h (xs.map λx=>(.str x.1.cps.toList,.str x.2.cps.toList)) kvs) s
 |[],s=>evalPairs_nil (Qt ⟨_,rfl⟩ ([]) lz rfl (λZ=>.nil))
 |x::xs,s=>by
  refine evalPairs_cons (I8 (tbn (I8 (tbn (gr (bc (Wp.mono (Z8 C xs _) λvs s' q=>?_)))))));refine vD q λbC kvs h1 h2 h3=>?_;obtain⟨tk,rfl⟩:=bC;exact Qt ⟨_,rfl⟩ ((x.1,.str x.2 (s.toks+1))::kvs) ⟨kh _,rfl,h1⟩ (by rw[fu,fu,h2]) (λh=>.cons (.str x.2.cps.toList _) (h3 h))
theorem jje:∀(kvs acc:List (Str×Value)),JW (kvs.map (·.1))=true->(∀x∈kvs,∀y∈acc,y.1≠x.1)->merged acc kvs=acc++kvs:=λkvs=>kvs.rec
  (λacc Z Z=>(fV acc).symm)
  λx kvs ih acc h hn=>by
  refine kA (bD (show(!(kvs.map (·.1)).contains x.1&&JW (kvs.map (·.1)))=true from h)) λh1 h2=>?_;have e:stored acc x.1 x.2=acc++[x]:=aZ λq=>by
   refine aH (List.any_eq_true.mp q) λy hy hq=>?_;exact hn x (.head _) y hy (dB hq)
  show merged (stored acc x.1 x.2) kvs=_;rw[e,ih (acc++[x]) h2 λy hy z hz=>?_,dm]
  ·rfl
  ·rcases wN.mp hz with hz|hz
   ·exact hn y (.tail _ hy) z hz
   ·cases oG.mp hz;intro q;have:(kvs.map (·.1)).contains x.1=true:=List.contains_iff_mem.mpr (q▸DG hy);rw[this] at h1;exact nf h1
theorem Z9:∀{ks:List (Option PySem.Expr)} {vs:List PySem.Expr} {a b:List Str},cF (λk=>k.bind λk=>(uz k).bind xO) ks=some a->cF (λv=>(uz v).bind xO) vs=some b->a.length=b.length->
  (evalEachOpt ks env).zip ((evalEach vs env).map λv=>do let x ←v;standAt pos;pure x)=((a.zip b).map (Z7 pos)).map λp=>(some p.1,p.2)
 |[],_,a,b,h1,h2,_=>by cases h1;rfl
 |k::ks,[],a,b,h1,h2,hl=>by
  cases h2;cases Ex.mp hl;refine aM h1 λy Z h=>aM h λys Z h=>?_;cases h
 |k::ks,v::vs,a,b,h1,h2,hl=>by
  refine aM h1 ?_;clear h1;intro x hx h1;refine aM h1 ?_;clear h1;intro xs hxs h1;cases h1;refine aM h2 ?_;clear h2;intro y hy h2;refine aM h2 ?_;clear h2;intro ys hys h2;cases h2;refine aH (bx (show k.bind (λk=>(uz k).bind xO)=some x from hx)) λk eq1 hx=>?_;subst eq1;refine aH (bx (show(uz k).bind xO=some x from hx)) λc hc hx=>?_;refine Bc k (JT hc) λi p=>?_;cases Xm hx;refine aH (bx hy) λc hc hy=>?_;refine Bc v (JT hc) λi' p'=>?_;cases Xm hy;exact aU (List.cons _) (Z9 hxs hys (wU hl))
theorem jmU{η:ME}{C K:AP}{KG:NP}(x:FA env η C K KG s){ks:List (Option PySem.Expr)}{vs:List PySem.Expr}{p:PV}(hsm:(V.h₀.get? sysModules).isSome=true)(h:Xv ks vs=some p):Wp A (eval (.Dict ks vs pos) env) (bK C s p) s:=by
 refine aM h ?_;clear h;intro a ha h;refine aM h ?_;clear h;intro b hb h;refine cY h ?_;clear h;intro hc h;cases h;refine fM hc ?_;clear hc;intro hc h4;refine fM hc ?_;clear hc;intro hc h3;refine fM hc ?_;clear hc;intro h1 h2;have hl:=bO.mp h1;have hz:(a.zip b).map (·.1)=a:=List.map_fst_zip (fH hl);have hlt:sysModules<s.heap.objs.size:=by
  refine kE (iQ hsm) λo ho=>?_;exact hls (x.base _ o ho)
 have hne:a.zip b≠[]:=λq=>by
  rw[q] at hz;rw[←hz] at h3;exact nf h3
 refine wpAny_Dict_pairs (knd:=strKind V.prog V.w) (Z9 ha hb hl) (λq=>hne (List.map_eq_nil_iff.mp q)) (by rw[bH,List.length_zip,hl,Nat.min_self];exact dB h2) (Wp.mono (Z8 C (a.zip b) _) λus s₁ q=>?_);refine vD q λbC kvs q1 q2 q3=>?_;obtain⟨tk,rfl⟩:=bC;refine cG kvs q1 (Ph s.heap) (λh' hd sb=>?_);have e:aA s {s with heap:=h',toks:=tk+us.length}:=aA.of (λb o g=>(sb.2 b (iI (hls g))).trans (fO _ g)) (by rw[sb.1];exact aF (iH _) (fH (fK ..).symm));rw[jje kvs [] (by rw[q2,hz];exact h4) λZ Z Z hy=>absurd hy wO] at hd;exact⟨e,VX.of (.dct (x.cJ _ (aN _)) (gD.mpr (z9 hlt)) hd (q3 h'))⟩
end
theorem Lb(h:jX g=true):∃t i f,g=⟨t,i,f,0⟩/\∀env x,foldedSetIterable i env x=pure x:=by
 obtain⟨t,i,f,a⟩:=g;have ⟨h1,h2⟩:=bD h;have h1:a=0:=bO.mp h1;refine jU t i f (by rw[h1]) (λenv x=>?_);cases i<;>first|exact rfl|exact absurd h2 Af
theorem Ld(h:(if (!b)=true then none else x)=some y):b=true/\x=some y:=
 match b,h with|true,h=>⟨rfl,h⟩
section
variable{A:Around}{S:Sp}{D:Nat}
theorem Sd(hA:aR A D)(O:Ops D S)(hE:SE A S n)(hT:ST A S n){C K:AP}{KG:NP}(x:FA env η C K KG s)
  (h:Xr (aG S n) (bI S n) η elt sc gens=some p):∃out,p=.lst out/\gw sc η=true/\firstAsync gens=false/\LC A (mU) (newList []) (.ListComp elt gens sc pos) sc gens env C s out:=by
 cases gens with
 |nil=>exact nn h
 |cons g gs=>cases gs with
  |nil=>
   refine kA (Ld h) λhg h=>?_;refine fM hg ?_;clear hg;intro h1 h2;refine jK (Lb h2) λt i f eq1 hf=>?_;subst eq1;refine aM h ?_;clear h;intro items hi h;refine aM hi ?_;clear hi;intro pa hpa hi;refine aM h ?_;clear h;intro out hc h;refine gJ p (uD h) λhl=>?_;exact ru out rfl h1 rfl (lc1 hA O hE hT x h1 (hf env) hpa hi hc hl)
  |cons g' gs=>
   refine Bh h ?_;clear h;intro h0 h;refine kA (Ld h) λhg h=>?_;refine fM hg ?_;clear hg;intro h4 h3;refine fM h4 ?_;clear h4;intro h1 h2;refine jK (Lb h2) λt i f eq1 hf=>?_;subst eq1;refine jK (Lb h3) λt' i' f' eq1 hf'=>?_;subst eq1;refine aM h ?_;clear h;intro items hi h;refine aM hi ?_;clear hi;intro pa hpa hi;refine aM h ?_;clear h;intro out hc h;refine gJ p (uD h) λhl=>?_;cases gs with|nil=>exact ru out rfl h1 rfl (lc2 hA O hE hT x h1 (hf env) hf' hpa hi hc hl)|cons=>exact nt h0
theorem jwm(hA:aR A D)(O:Ops D S)(hE:SE A S n)(hT:ST A S n){C K:AP}{KG:NP}(x:FA env η C K KG s)
  (h:Xu (aG S n) (bI S n) η ke ve sc gens=some p):∃out d,p=.dct d/\putAll out []=some d/\gw sc η=true/\firstAsync gens=false/\LC A (vZ) newDict (.DictComp ke ve gens sc pos) sc gens env C s out:=by
 refine aM h ?_;clear h;intro g hg h;have hg:=gQ hg;subst hg;refine kA (Ld h) λhg h=>?_;refine fM hg ?_;clear hg;intro h1 h2;refine jK (Lb h2) λt i f eq1 hf=>?_;subst eq1;refine aM h ?_;clear h;intro items hi h;refine aM hi ?_;clear hi;intro pa hpa hi;refine aM h ?_;clear h;intro out hc h;refine cY h ?_;clear h;intro hl h;refine mH h ?_;clear h;intro d hd hp;exact Qv out d hp.symm hd h1 rfl (dc1 hA O hE hT x h1 (hf env) hpa hi hc hl hd)
section
variable{n:Nat}{η:ME}{env:Env}{C K:AP}{KG:NP}{s:Shared}{p:PV}
theorem jxk(O:Ops D S)(x:FA env η C K KG s)(h:nameP S η y=some p):Wp A (eval (.Name y pos) env) (bK C s p) s:=by
 refine Bh h ?_;clear h;intro hd h;obtain h|⟨_,h⟩:=Option.or_eq_some_iff.mp h
 ·exact jmY x hd h
 ·exact jmW O x hd (dq h).1 (dq h).2
theorem jxi(hA:aR A D)(O:Ops D S)(x:FA env η C K KG s)(h:Xp S η o m=some p):Wp A (eval (.Attribute o m pos) env) (bK C s p) s:=by
 refine aM h ?_;clear h;intro y hy h;refine cR o (oX hy) λpy=>?_;refine Bh h ?_;clear h;intro hd h;refine aM h ?_;clear h;intro a ha h;exact jmS O hA x hd ha h
theorem jzI(hA:aR A D)(O:Ops D S)(hE:SE A S n)(x:FA env η C K KG s)(h:Xo op (aG S n η e)=some p):Wp A (eval (.UnaryOp op e pos) env) (bK C s p) s:=by
 cases op<;>first|exact nn h|skip
 refine aM h ?_;clear h;intro a ha h;refine aM h ?_;clear h;intro i hi h;rw[PV.nF hi] at ha;exact jpR O hA hE x ha h
theorem jxj(h:Fj (aG S n) η l ops rs=some c):∃op r a b,ops=[op]/\rs=[r]/\behindInMarks op r=false/\aG S n η l=some a/\aG S n η r=some b/\gk op a b=some c:=by
 refine aM h ?_;clear h;intro op h1 h;refine aM h ?_;clear h;intro r h2 h;refine Bh h ?_;clear h;intro h3 h;refine aM h ?_;clear h;intro a ha h;refine aM h ?_;clear h;intro b hb h;exact⟨op,r,a,b,gQ h1,gQ h2,h3,ha,hb,h⟩
theorem Sg(h:sI (aG S n) η kf o ap pos args=some p):(ap.endLine==pos.line)=true/\args.length<20/\baseOk o=true/\∃a l,aG S n η o=some a/\cF (aG S n η) args=some l/\kf a l=some p:=by
 refine cY h ?_;clear h;intro h1 h;refine fM h1 ?_;clear h1;intro h1 h3;refine fM h1 ?_;clear h1;intro h1 h2;refine aM h ?_;clear h;intro a ha h;refine aM h ?_;clear h;intro l hl h;exact⟨h1,dB h2,h3,a,l,ha,hl,h⟩
theorem s_call(hA:aR A D)(O:Ops D S)(hE:SE A S n)(x:FA env η C K KG s)(h:Fo S (aG S n) η g args=some p):Wp A (eval (.Call (.Name g gp) args [] pos) env) (bK C s p) s:=by
 refine Bh h ?_;clear h;intro hd h;refine cY h ?_;clear h;intro hg h;cases hF:S.kJ g with
 |some F=>
  rw[hF] at h;refine aM h ?_;clear h;intro l hl h;refine aH (O.kJ g F hF) λf hf cf=>?_;exact ZV hA hE x hd hg hf cf hl (dq h).2
 |none=>
  rw[hF] at h;refine aM h ?_;clear h;intro F hF' h;refine aM h ?_;clear h;intro l hl h;refine aH (O.q8 g F hF hF') λf hf cf=>?_;exact ZV hA hE x hd hg hf cf hl h
theorem juC(hA:aR A D)(O:Ops D S)(hE:SE A S n)(x:FA env η C K KG s)(h:Xq S (aG S n) η f args kws pos=some p):Wp A (eval (.Call f args kws pos) env) (bK C s p) s:=by
 by_cases hk:kws.isEmpty=true
 ·replace h:=(aX hk).symm.trans h;replace hk:=qj.mp hk;subst hk;cases hn:nmE f with
  |some g=>
   rw[hn] at h;refine cR f (oX hn) λgp=>?_;exact s_call hA O hE x h
  |none=>
   rw[hn] at h;refine aM h ?_;clear h;intro q hq h;have hq:=JS hq;subst hq;refine Qo (Sg h) λh1 h2 h3 a l ha hl h=>?_;exact jmX O hA hE x h1 h2 h3 ha hl h
 ·refine aM ((aZ hk).symm.trans h) ?_;intro k h2 h;refine aM h ?_;clear h;intro q hq h;refine Qo (Sg h) λh1 h2' h3 a l ha hl hz=>?_;refine Qk (jwX h2) λk1 k2 k3 bB=>?_;subst bB;rw[JS hq];exact jkK O hA hE x h1 h2' h3 ha hl hz
theorem jzJ(hA:aR A D)(O:Ops D S)(hE:SE A S n)(x:FA env η C K KG s)(h:Fq (aG S n) η v i=some p):Wp A (eval (.Subscript v i pos) env) (bK C s p) s:=by
 unfold Fq at h;cases hs:JV i with
 |none=>
  rw[hs] at h;refine aM h ?_;clear h;intro a ha h;refine aM h ?_;clear h;intro k hk h;exact jpQ O hA hE x ha hk h
 |some q=>
  rw[hs] at h;refine cR i (juG hs) λsp=>?_;obtain⟨lo,up,st⟩:=q;refine aM h ?_;clear h;intro a ha h;cases st with
  |none=>
   refine aM h ?_;clear h;intro l hl h;refine aM h ?_;clear h;intro u hu h;exact jkM O hA hE x ha hl hu h
  |some t=>
   refine cY h ?_;clear h;intro hu h;refine aM h ?_;clear h;intro y hy h;refine aM h ?_;clear h;intro l hl h;refine aM h ?_;clear h;intro k hk h;refine eX (xM h) λl' k' e1 e2 hz=>?_;rw[show lo=some y from hy];cases up with|none=>exact jjx O hA hE x ha (e1▸hl) (e2▸hk) hz|some=>exact nf hu
theorem Sh(h:Fl (aG S n) η es k=some p):∃l,p=k l/\cF (aG S n η) es=some l/\(aL l.length&&l.all PV.plain)=true:=by
 refine aM h ?_;clear h;intro l hl h;refine cY h ?_;clear h;intro h1 h;exact cG l ((ir h).symm) hl h1
end
theorem jxu(hA:aR A D)(O:Ops D S)(hE:SE A S n)(hT:ST A S n)(hB:SB A S n):SE A S (n+1):=by
 intro η e env C K KG s p x h;cases e with
 |Constant c k pos=>exact ZS h|Name y pos=>exact jxk O x h|Attribute o m pos=>exact jxi hA O x h
 |BinOp l op r pos=>
  refine aM h ?_;clear h;intro a ha h;refine aM h ?_;clear h;intro b hb h;exact jpN O hA hE x ha hb h
 |UnaryOp op y pos=>exact jzI hA O hE x h|Dict ks vs pos=>exact jmU x O.sm h
 |IfExp t a b pos=>
  refine aM h ?_;clear h;intro c hc h;exact jkJ hE hT x hc h
 |Compare l ops rs pos=>
  refine eY p (iM h) λc hc=>?_;obtain⟨op,r,a,b,rfl,rfl,hm,ha,hb,hc⟩:=jxj hc;exact Wp.mono (jpO O hA hE x hm ha hb hc) λv s' q=>⟨q.2,q.1▸VX.of (.bool c)⟩
 |Tuple es k pos=>
  refine eO (Sh h) λl eq1 hl hk=>?_;subst eq1;exact(K7 hE x hl hk).1 k
 |List es pos=>
  refine eO (Sh h) λl eq1 hl hk=>?_;subst eq1;exact(K7 hE x hl hk).2
 |Call f args kws pos=>exact juC hA O hE x h|Subscript v i pos=>exact jzJ hA O hE x h
 |ListComp elt gens sc pos=>
  refine Fe p (Sd (pos:=pos) hA O hE hT x h) λout hsc ha uW=>?_;rw[eval_ListComp,ha];exact uW.eval x hsc rfl Z5
 |DictComp ke ve gens sc pos=>
  refine Qn (jwm (pos:=pos) hA O hE hT x h) λout d eq1 hd hsc ha uW=>?_;subst eq1;rw[arm_eval_DictComp];dsimp only;rw[ha];exact uW.eval x hsc rfl (Z6 hd)
 |_=>exact nn h
theorem jm9:Wp A (isTrue (.Name ("__debug__":Str) pos) env (eval (.Name ("__debug__":Str) pos) env)) (λr s'=>r=true/\aA s s') s:=by
 show Wp A (eval (.Name _ pos) env>>=λv=>do standAt pos;holding [v] (truthy v)) _ s;have hev:Wp A (eval (.Name ("__debug__":Str) pos) env) (λv s'=>v=.bool true/\s'=s) s:=by
  show Wp A (standAt pos>>=λZ=>debugConstant) _ s;exact tbn (gr (tbn (En (bc ⟨rfl,rfl⟩))))
 refine Wp.bind hev λv s₁ q=>?_;refine Xg v s q ?_;exact tbn (gr (dJ (I9 ⟨rfl,aC.refl⟩)))
theorem jxv(hA:aR A D)(O:Ops D S)(hE:SE A S n)(hT:ST A S n)(hB:SB A S n):ST A S (n+1):=by
 intro η e env C K KG s b x h;cases e with
 |UnaryOp op y pos=>
  cases op<;>first|exact nn h|skip
  refine eY b (iM h) λc hc=>?_;show Wp A (isTrue y env (eval y env)>>=λr=>pure (!r)) _ s;refine Wp.bind (hT η y env C K KG s c x hc) λr s' q=>bc ?_;exact⟨by rw[q.1],q.2⟩
 |BoolOp op vs pos=>exact hB η op vs env C K KG s b x h
 |Compare l ops rs pos=>
  obtain⟨op,r,a,c,rfl,rfl,hm,ha,hc,h⟩:=jxj h;exact jmT O hA hE x hm ha hc h
 |Name y pos=>
  by_cases hd:(y==("__debug__":Str))=true
  ·cases (aX hd).symm.trans h;rw[bO.mp hd];exact jm9
  ·refine aM ((aZ hd).symm.trans h) ?_;intro a ha h;exact R0 hE x rfl ha h
 |Call f a k pos=>
  refine aM h ?_;clear h;intro a ha h;exact R0 hE x rfl ha h
 |Constant c k pos=>
  refine aM h ?_;clear h;intro a ha h;exact R0 hE x rfl ha h
 |_=>exact nn h
set_option backward.match.sparseCases true in
theorem jxt(hT:ST A S n)(hB:SB A S n):SB A S (n+1):=by
 intro η op vs env C K KG s b x h;cases vs with
 |nil=>
  cases h;exact bc ⟨rfl,aC.refl⟩
 |cons y r=>
  refine aM h ?_;clear h;intro c hc h;show Wp A (isTrue y env (eval y env)>>=λc=>match op,c with
   | .And,false=>pure false| .Or,true=>pure true
   |_,_=>allTrue op r env) _ s
  refine Wp.bind (hT η y env C K KG s c x hc) λr₁ s' q=>?_;refine kA q λeq1 e=>?_;subst eq1;cases op<;>cases r₁
  ·cases h;exact bc ⟨rfl,e⟩
  ·exact Wp.mono (hB η _ r env C K KG s' b (x.ext e) h) λv s₂ q=>⟨q.1,e.trans q.2⟩
  ·exact Wp.mono (hB η _ r env C K KG s' b (x.ext e) h) λv s₂ q=>⟨q.1,e.trans q.2⟩
  ·cases h;exact bc ⟨rfl,e⟩
theorem sound(hA:aR A D)(O:Ops D S)(n:Nat):SE A S n/\ST A S n/\SB A S n:=by
 induction n with|zero=>exact⟨λη e Z Z Z Z Z Z Z h=>nn h,λη e Z Z Z Z Z Z Z h=>nn h,λη op vs Z Z Z Z Z Z Z h=>nn h⟩|succ n ih=>exact⟨jxu hA O ih.1 ih.2.1 ih.2.2,jxv hA O ih.1 ih.2.1 ih.2.2,jxt ih.2.1 ih.2.2⟩
end
theorem Ns.unique{h h':Heap}{a:Addr}{m m':Str->Option Value}(x:h.Ns a m)(y:h'.Ns a m')(k:∀o,h.get? a=some o->h'.get? a=some o):m=m':=by
 refine qt x λo es ep ho hd Z hf=>?_;refine qt y λo' es' ep' ho' hd' Z hf'=>?_;rw[k o ho] at ho';cases ho';rw[hd] at hd';cases hd';funext n;rw[←hf n,←hf' n]
theorem IsCell.unique{h h':Heap}{c:Addr}{u v:Option Value}(x:h.IsCell c u)(y:h'.IsCell c v)(k:∀o,h.get? c=some o->h'.get? c=some o):u=v:=by
 refine aH x λo ho hd=>?_;refine aH y λo' ho' hd'=>?_;rw[k o ho] at ho';cases ho';rw[hd] at hd';cases hd';rfl
theorem jz.unique{env:Env}{m m':Str->Option Value}{h h':Heap}{x:Str}{u v:Value}(a:jz env m h x u)(b:jz env m' h' x v)(hm:m=m')(k:∀c o,h.get? c=some o->h'.get? c=some o):u=v:=by
 subst hm;rcases a with ⟨k1,h1⟩|⟨k1,c,hc,h1⟩<;>rcases b with ⟨k2,h2⟩|⟨k2,c',hc',h2⟩
 ·rw[h1] at h2;cases h2;rfl
 ·rw[k1] at k2;cases k2
 ·rw[k1] at k2;cases k2
 ·rw[hc] at hc';cases hc';have:=IsCell.unique h1 h2 (k c);cases this;rfl
section
variable{A:Around}{env:Env}{η aq:ME}{C K:AP}{KG:NP}{s:Shared}
theorem FA.jHz(x:FA env η C K KG s)(h:cZ η y=some .cell)(hc:env.cells.lookup y=some c):∃u,s.heap.IsCell c u:=by
 refine eV (x.cells y (x.kinds y _ h)) λc' u hc' hv=>?_;rw[hc] at hc';cases hc';exact⟨u,hv⟩
theorem FA.jHt(x:FA env η C K KG s){s₁:Shared}(e:aA s s₁){a:Addr}{l:LV}{vs:List Value}(ha:s.heap.objs.size<=a)(hl:cj s₁.heap a vs.toArray)(hv:aV (λb=>C b/\b≠a) s₁.heap l vs)
  {y:Str}(hs:bM y (.own l) η=some aq):Wp A (storeName env y (.ref a)) (λZ s'=>aC (f9 env η) no s₁ s'/\FA env aq (λb=>C b/\b≠a) K KG s') s₁:=by
 have hlt:a<s₁.heap.objs.size:=by refine aH hl λo ho Z=>?_;exact hls ho
 have x₁:=x.ext' (C':=λb=>C b/\b≠a) e (λb hb c=>⟨c,λq=>absurd hb (bw (q▸ha))⟩) (λb q=>q.1) λb hb=>⟨x.cJ b (aF e.size hb),λq=>absurd hlt (bw (q▸hb))⟩;refine Wp.mono (x₁.store hs rfl (fW a vs rfl (λq=>q.2 rfl) hl hv) λl' el a' ea=>⟨λk=>?_,λm f hn hf z l'' hz hlk q=>?_⟩) λZ s' q=>⟨q.1,q.2.2.2⟩
 ·cases ea;exact absurd (x.kept.1 a k) (bw ha)
 ·refine dZ x.sees λm₀ f₀ h1 h2 Z Z=>?_;have em:m₀=m:=Ns.unique h1 hn λo=>e.heap;refine cD (h2 z _ hlk) λZ hb hx=>?_;have ef:f₀ z=f z:=jz.unique hb (hf z _ hlk) em λc o=>e.heap;refine dZ hx λa₀ vs0 ea0 Z bC Z=>?_;obtain⟨o,ho,_⟩:=bC;rw[ef,q] at ea0;cases ea0;exact absurd (hls ho) (bw ha)
theorem FA.ownAt(x:FA env η C K KG s)(hy:look y η=some (.own l)):∃a m,s.heap.Ns env.locals m/\jz env m s.heap y (.ref a):=
 let ⟨m,_,h1,h2,_⟩:=x.sees;let ⟨_,hb,a,_,ea,_⟩:=h2 y _ hy
 (fP a m h1 (ea▸hb))
theorem FA.Pg(x:FA env η C K KG s){y:Str}{l:LV}{a:Addr}{m:Str->Option Value}(hn:s.heap.Ns env.locals m)(hb0:jz env m s.heap y (.ref a))(hy:look y η=some (.own l)):∃vs,cj s.heap a (List.toArray vs)/\aV C s.heap l vs/\¬C a/\¬K a/\(∀A,Wp A (loadName env y) (λv s'=>v=.ref a/\s'=s) s)/\
  ∀s₁ l' aq,aA s s₁->bM y (.own l') η=some aq->∀h' vs' tk,cj h' a (List.toArray vs')->Heap.SameBut a s₁.heap h'->aV C s₁.heap l' vs'->FA env aq C K KG {s₁ with heap:=h',toks:=tk}/\aC (λb=>b=a) no s₁ {s₁ with heap:=h',toks:=tk}:=by
 refine dZ x.sees λm' f h1 h2 h3 h4=>?_;obtain rfl:=(Ns.unique h1 hn λZ g=>g).symm;refine Qp (h2 y _ hy) λZ hb a' vs ea hca hla hvs=>?_;obtain rfl:=(Value.ref.inj (ea.symm.trans (hb.unique hb0 rfl λZ Z g=>g))).symm;have hka:=h3 y l a hy ea;refine⟨vs,hla,hvs,hca,hka,λA=>?_,λs₁ l' aq e hs h' vs' tk hl' sb hv'=>?_⟩
 ·rcases hb with ⟨hk,hm⟩|⟨hk,c,hc,hcell⟩
  ·exact I6 x.fn hk h1 hm ⟨ea,rfl⟩
  ·exact Pb x.fn hk hc hcell ⟨ea,rfl⟩
 have ev:aC (λb=>b=a) no s₁ {s₁ with heap:=h',toks:=tk}:=⟨λb o nb g=>sb.extBut b o nb g,by show _<=h'.objs.size;rw[sb.1];exact aN _,λZ Z Z g=>g,aN _,id,rfl⟩;refine⟨?_,ev⟩;have lk:=λz=>mO (y:=z) hs x.wf;have kp:∀b o,b≠a->s.heap.get? b=some o->h'.get? b=some o:=λb o nb g=>sb.extBut b o nb (e.heap g);have hL:env.locals≠a:=λq=>BR hla.isList (q▸h1);have hC:∀z c,env.kindOf z=some .cell->env.cells.lookup z=some c->c≠a:=λz c hk hc q=>by
  refine eV (x.cells z hk) λc' u hc' hu=>?_;rw[hc] at hc';cases hc';exact RW hla.isList (q▸hu)
 refine⟨x.fn,x.gl,x.bi,λz k hz=>x.kinds z k ((lk z).2.2.1 z▸hz),fW m f ?_ (λz p hz=>?_) (λz l₁ a₁ hz ha1=>?_) (λz z' l₁ l₂ hz hz' q=>?_),λz hz=>?_,x.oK,λb hb=>x.cJ b (aF e.size (by rw[←sb.1];exact hb)),x.dY,x.gP,
  ⟨λb hb=>bJ (x.kept.1 b hb) (by show _<=h'.objs.size;rw[sb.1];exact e.size),λi hi=>bJ (x.kept.2 i hi) e.cV⟩,(lk y).2.2.2,λb o hb=>kp b o (λq=>hka (q▸x.hk b o hb)) (x.base b o hb),e.bare x.bare,x.hk⟩
 ·refine jK h1 λo es ep ho r=>?_;exact jU o es ep (kp _ _ hL ho) r
 ·have hb2:∀u,jz env m s.heap z u->jz env m h' z u:=λu hb=>by
   rcases hb with hb|⟨hk,c,hc,⟨o,ho,r⟩⟩
   ·exact .inl hb
   ·exact .inr (kY hk c hc (aW o (kp _ _ (hC z c hk hc) ho) r))
  rw[(lk z).1] at hz;by_cases ez:z=y
  ·subst ez;rw[aX rfl] at hz;cases hz;refine Qx rfl (hb2 _ hb) a vs' ea hca hl' (hv'.mono λb o c g=>⟨c,sb.extBut b o (λq=>hca (q▸c)) g⟩)
  ·rw[aZ ez] at hz;refine cD (h2 z p hz) λhg hb' hx=>?_;refine⟨hg,hb2 _ hb',?_⟩;have hne:∀l₁,p=.own l₁->f z≠.ref a:=λl₁ el q=>ez (h4 z y l₁ l (el▸hz) hy (q.trans ea.symm));exact hx.Ie hg (λb o c g=>⟨c,kp b o (λq=>hca (q▸c)) g⟩) λl₁ b o el eb hc g=>⟨hc,kp _ _ (λq=>hne l₁ el (eb.trans (aU _ q))) g⟩
 ·rw[(lk z).1] at hz;by_cases ez:z=y
  ·subst ez;rw[ea] at ha1;cases ha1;exact hka
  ·rw[aZ ez] at hz;exact h3 z l₁ a₁ hz ha1
 ·rw[(lk z).1] at hz;rw[(lk z').1] at hz';by_cases ez:z=y
  ·by_cases H6:z'=y
   ·rw[ez,H6]
   ·rw[aZ H6] at hz';subst ez;exact h4 z z' l l₂ hy hz' q
  ·rw[aZ ez] at hz;by_cases H6:z'=y
   ·subst H6;exact h4 z z' l₁ l hz hy q
   ·rw[aZ H6] at hz';exact h4 z z' l₁ l₂ hz hz' q
 ·refine eV (x.cells z hz) λc v0 hc bC=>?_;obtain⟨o,ho,r⟩:=bC;exact fP c v0 hc (aW o (kp _ _ (hC z c hz hc) ho) r)
theorem FA.Wf(x:FA env η C K KG s)(hy:look y η=some (.own l)):∃a vs,cj s.heap a (List.toArray vs)/\aV C s.heap l vs/\¬C a/\¬K a/\(∀A,Wp A (loadName env y) (λv s'=>v=.ref a/\s'=s) s)/\
  ∀s₁ l' aq,aA s s₁->bM y (.own l') η=some aq->∀h' vs' tk,cj h' a (List.toArray vs')->Heap.SameBut a s₁.heap h'->aV C s₁.heap l' vs'->FA env aq C K KG {s₁ with heap:=h',toks:=tk}/\aC (λb=>b=a) no s₁ {s₁ with heap:=h',toks:=tk}:=
 let ⟨a,_,hn,hb⟩:=x.ownAt hy
 ⟨a,x.Pg hn hb hy⟩
end
section
variable{A:Around}{S:Sp}{D:Nat}{env:Env}{C K:AP}{KG:NP}
theorem jgs(hA:aR A D)(O:Ops D S)(x:FA env η C K KG s)(hf:JX e=true)(h:aG S n η e=some (.lst l)):Wp A (eval e env) (jj C s l) s:=by
 cases n with
 |zero=>exact nn h
 |succ n=>
  have hE:=(sound hA O n).1;cases e with
  |List es pos=>
   refine eO (Sh h) λl' e' hl hk=>?_;cases e';refine kA (bD hk) λhk hk'=>?_;refine wpAny_List_spliced (Wp.mono (lO hE _ s s l aC.refl x hl) λvs s' q=>Qx (by rw[←q.2.length];exact ph hk) (q.1.trans aA.jt) _ vs rfl q.1.size (nJ _ (iJ _ rfl) _ rfl) ?_);exact(q.2.plain hk').mono λb o c g=>⟨⟨c,iI (hls g)⟩,fO _ g⟩
  |Call f args kws pos=>
   have hf:(match vK f with
    |some q=>kws.isEmpty&&(q.2.1==("items":Str)||q.2.1==("get_all":Str))
    | .none=>false)=true:=hf
   cases hq:vK f with
   |none=>rw[hq] at hf;exact nf hf
   |some q=>
    rw[hq] at hf;refine kA (bD hf) λhk hf=>?_;have hk:=qj.mp hk;subst hk;have h:(match nmE f with|some g=>Fo S (aG S n) η g args| .none=>(vK f).bind λq=>sI (aG S n) η (S.meth q.2.1) q.1 q.2.2 pos args)=some (.lst l):=h;rw[JS hq] at h⊢;refine Qo (Sg h) λh1 h2 h3 a l' ha hl h=>?_;rw[u0,mQ h3];refine Wp.bind (hE η _ env C K KG s a x ha) λov s₁ h₁=>tbn (gr ?_);refine kA (noStar (env:=env) (pos:=pos) hl) λq1 q2=>?_;have:=O.sI A s s₁ C q.2.1 a l' ov q.1 q.2.2 pos env (backTo pos (starEach args env)) l hA (x.here.ext h₁.1) h₁.1 h₁.2 h1 (by rw[q2];exact h2) q1
     (λs₂ e=>lO hE args s s₂ l' (h₁.1.trans e) (x.ext (h₁.1.trans e)) hl) (by simpa using hf) h
    rw[q2] at this;exact this
  |_=>exact nf hf
theorem XP.after(e:Mv K KG C s C1 s₁)(x:XP env C1 K KG s₁ o aq f s'):XP env C K KG s o aq f s':=
 let ⟨C',y,r⟩:=x;(aW C' (e.trans y) r)
theorem Wp.cont(h:Wp A m (XP env C K KG s .next aq) s)(k:∀C' s',Mv K KG C s C' s'->FA env aq C' K KG s'->Q .next s'):wpAny (model V.prog V.w) A m Q E s:=
 tmo h (λf s' ⟨C',y,q,fa⟩=>q▸k C' s' y fa) λZ Z f=>f.elim
def SX(A:Around)(S:Sp)(n:Nat):Prop:=∀(η:ME) (st:Stmt) (env:Env) (C K:AP) (KG:NP) (s:Shared) (o:Out) (aq:ME),FA env η C K KG s->bh S n η st=some (o,aq)->Wp A (exec st env) (XP env C K KG s o aq) s
theorem yL(h:SX A S n):∀(b:List Stmt) (η:ME) (env:Env) (C K:AP) (KG:NP) (s:Shared) (o:Out) (aq:ME),FA env η C K KG s->dK (bh S n) η b=some (o,aq)->Wp A (execs b env) (XP env C K KG s o aq) s:=λb=>b.rec
  (λη env C K KG s o aq x hb=>by
  cases hb;exact qg (cG C .refl rfl x))
  λst r ih η env C K KG s o aq x hb=>by
  refine aH (bx hb) λbC h1 hb=>?_;obtain⟨o₁,aD⟩:=bC;cases o₁ with
  |next=>exact dI (Wp.cont (h η st env C K KG s .next aD x h1) λC1 s₁ y fa=>Wp.mono (ih aD env C1 K KG s₁ o aq fa hb) λf s₂ q=>q.after y)
  |ret v=>
   cases hb;exact dI (Wp.mono (h η st env C K KG s _ aD x h1) λf s₁ ⟨C1,y,u,hf,hv⟩=>by subst hf;exact Bd C1 y u rfl hv)
theorem XP.store(x:FA env η C K KG s)(e:aA s s₁)(ev:aC (f9 env η) no s₁ s')(fa:FA env aq C' K KG s')(h1:∀b,C b->b<s.heap.objs.size->C' b)(h2:∀b,C' b->C b\/¬K b)(hf:f=.next):XP env C K KG s .next aq f s':=
 (cG C' ⟨aC.trans e.cC (aC.mono ev (λb Z w=>(x.hot w).2.1) λZ Z g=>False.elim g),h1,h2⟩ hf fa)
theorem XP.one(x:FA env η C K KG s)(e:aA s s₁)(ev:aC (f9 env η) no s₁ s')(fa:FA env aq C K KG s')(hf:f=.next):XP env C K KG s .next aq f s':=
 .store x e ev fa (λZ c Z=>c) (λZ c=>.inl c) hf
theorem jlA{y:Str}{p:PV}:∀{η:ME},η.length=1->look y (tB η)=some p->(∃l,p=.lst l/\look y η=some (.own l))\/(look y η=some p/\p.isOwn=false)
 |[f],_,h=>by
  have key:∀(ns:List (Str×NameKind)) (vs:List (OV)) (q:PV),valAt y ns (vs.map Ft)=some q->(∃l,q=.lst l/\valAt y ns vs=some (.own l))\/(valAt y ns vs=some q/\q.isOwn=false):=by
   intro ns;induction ns with
   |nil=>intro vs q h;cases vs<;>exact nn h
   |cons n ns ih=>
    intro vs q h;cases vs with
    |nil=>exact nn h
    |cons v vs=>
     have h:(if y==n.1 then Ft v else valAt y ns (vs.map Ft))=some q:=h;show(∃l,q=.lst l/\(if y==n.1 then v else valAt y ns vs)=some (.own l))\/((if y==n.1 then v else valAt y ns vs)=some q/\q.isOwn=false);by_cases e:(y==n.1)=true
     ·rw[aX e] at h;simp only[aX e];cases v with
      |none=>exact nn h
      |some v=>cases v<;>first|(cases h;exact .inl (aW _ rfl rfl))|(cases h;exact .inr ⟨rfl,rfl⟩)
     ·rw[aZ e] at h;simp only[aZ e];exact ih vs q h
  unfold tB look at h;unfold look;cases hk:f.names.lookup y with
  |none=>simp[hk] at h
  |some k=>cases k<;>simp only[hk] at h⊢<;>first|exact key _ _ _ h|(simp[look] at h)
theorem jrk(η:ME)(x:Str):cZ (tB η) x=cZ η x:=by
 match η with|[]=>rfl|[_]=>rfl|_::_::_=>rfl
theorem FA.frz{η:ME}{s:Shared}(x:FA env η C K KG s):∃C',FA env (tB η) C' K KG s:=by
 by_cases h1:η.length=1
 ·refine dZ x.sees λm f hn h2 h3 h4=>?_;have hc:∀b,C b->C b\/∃z l,look z η=some (.own l)/\f z=.ref b:=λb c=>.inl c;have own:∀{b z l},look z η=some (.own l)->f z=.ref b->∃vs,cj s.heap b (List.toArray vs):=λ{b z l} hz e=>by
   refine dZ ((h2 z _ hz).2.2) λa vs ea Z ho Z=>?_;cases ea.symm.trans e;exact⟨vs,ho⟩
  have Wb:∀z l,look z (tB η)≠some (.own l):=λz l h=>by
   obtain⟨l',e,_⟩|⟨_,e⟩:=jlA h1 h
   ·cases e
   ·exact nt e
  refine⟨λb=>C b\/∃z l,look z η=some (.own l)/\f z=.ref b,x.fn,x.gl,x.bi,λz k hz=>x.kinds z k (jrk η z▸hz),fW m f hn (λz p hz=>?_) (λz l a hz=>absurd hz (Wb z l)) (λz z' l l' hz=>absurd hz (Wb z l)),x.cells,x.oK,λa ha=>.inl (x.cJ a ha),⟨?_,x.dY.2⟩,λz c hk hc'=>⟨?_,(x.gP z c hk hc').2⟩,x.kept,?_,x.base,x.bare,x.hk⟩
  ·obtain⟨l,rfl,hy⟩|⟨hy,hno⟩:=jlA h1 hz
   ·refine Qp (h2 z _ hy) λhg hb a vs ea hca ho hvs=>?_;refine⟨rfl,hb,?_⟩;rw[ea];exact VX.of (.lst (.inr (fP z l hy ea)) ho (hvs.mono λb o c g=>⟨.inl c,g⟩))
   ·refine cD (h2 z _ hy) λhg hb hv=>?_;exact⟨hg,hb,hv.Ie hg (λa o c g=>⟨.inl c,g⟩) λl a o ep=>by rw[ep] at hno;exact nt hno⟩
  ·rintro(c|⟨z,l,hz,e⟩)
   ·exact x.dY.1 c
   ·refine kE (own hz e) λvs ho=>?_;exact BR ho.isList hn
  ·rintro(c'|⟨z',l,hz,e⟩)
   ·exact(x.gP z c hk hc').1 c'
   ·refine kE (own hz e) λvs ho=>?_;refine eV (x.cells z hk) λc2 v0 h5 h6=>?_;cases h5.symm.trans hc';exact RW ho.isList h6
  ·cases η with
   |nil=>cases h1
   |cons g r=>
    cases r with
    |nil=>
     intro f' hf';cases oG.mp hf';show(g.vals.map Ft).length=_;rw[bH];exact x.wf g (.head _)
    |cons=>cases h1
 ·exact⟨C,by
   match η,h1 with
   |[],_=>exact x|[_],h=>exact absurd rfl h
   |_::_::_,_=>exact x⟩
theorem jsn(hA:aR A D)(O:Ops D S)(h:SX A S n)(x:FA env η C K KG s)(hc:(bI S n η t).or (bI S n (tB η) t)=some c)(hb:dK (bh S n) η (if c then b else ob)=some (o,aq)):
  Wp A (exec (.If t b ob pos) env) (XP env C K KG s o aq) s:=by
 have ht:Wp A (isTrue t env (eval t env)) (λr s'=>r=c/\aA s s') s:=by
  rcases Option.or_eq_some_iff.mp hc with hc|⟨_,hc⟩
  ·exact(sound hA O n).2.1 η t env C K KG s c x hc
  ·refine kE x.frz λC' x'=>?_;exact(sound hA O n).2.1 _ t env C' K KG s c x' hc
 refine Ac (Wp.mono ht λr s₁ q=>?_);refine kA q λeq1 e=>?_;subst eq1;cases r
 ·exact Wp.mono (yL h _ η env C K KG s₁ o aq (x.ext e) hb) λf s₂ q=>q.after (.ext e)
 ·exact Wp.mono (yL h _ η env C K KG s₁ o aq (x.ext e) hb) λf s₂ q=>q.after (.ext e)
theorem jpS(hA:aR A D)(O:Ops D S)(x:FA env η C K KG s)(hv:aG S n η e=some v)(hp:v.plain=true):
  Wp A (exec (.Return (some e) pos) env) (XP env C K KG s (.ret v) η) s:=
 IK (Wp.mono ((sound hA O n).1 η e env C K KG s v x hv) λu s₁ q=>Bd C (.ext q.1) u rfl (q.2.plain hp))
theorem jjw(x:FA env η C K KG s)(hl:ownName e η=some l):
  Wp A (exec (.Return (some e) pos) env) (XP env C K KG s (.ret (.lst l)) η) s:=by
 refine aH (bx hl) λy hy hl=>?_;refine cR e (oX hy) λpy=>?_;refine kA (Bg hl) λhd hl=>?_;refine Bb (x.Wf (Xx hl)) λa vs h1 h2 h3 h4 h5 Z=>?_;refine IK (qW (Wp.mono (h5 A) λu s₁ q=>?_) hd);refine kA q λeq1 eq2=>?_;subst eq1;subst eq2;exact Bd (λb=>C b\/b=a) ⟨aC.refl,λZ c Z=>.inl c,λb (c:C b\/b=a)=>c.imp_right λ(q:b=a)=>q▸h4⟩ _ rfl (.lst (.inr rfl) h1 (h2.mono λb o c g=>⟨.inl c,g⟩))
theorem jpM(hA:aR A D)(O:Ops D S)(x:FA env η C K KG s)
  (hi:look y η=some (.int i))(hj:aG S n η e=some (.int j))(hop:op=.Add\/op=.Sub)(hb:iR op (.int i) (.int j)=some (.int k))(hs:bM y (.int k) η=some aq):
  Wp A (exec (.AugAssign (.Name y py) op e pos) env) (XP env C K KG s .next aq) s:=by
 refine wpAny_AugAssign_Name (Wp.mono (x.load hi) λu s₁ q=>?_);refine cD q λeq1 hu Z=>?_;subst eq1;refine kE hu.iv λt₁ bB=>?_;subst bB;refine Wp.mono ((sound hA O n).1 η e env C K KG s₁ _ x hj) λu s₂ q=>?_;refine kA q λe₂ hu=>?_;refine cR u hu.iv λt₂=>?_;refine Wp.mono (O.Xd A s₂ op i j _ _ k hA hb hop) λu s₃ q=>?_;refine kA q λbC cu=>?_;obtain⟨t,rfl⟩:=bC;refine Wp.mono ((x.ext (e₂.trans cu)).store hs rfl (VX.of (.int k t)) λl el=>by cases el) λZ s4 q=>?_;exact XP.one x (e₂.trans cu) q.1 q.2.2.2 rfl
end
section
variable{A:Around}{S:Sp}{D:Nat}{env:Env}{C K:AP}{KG:NP}
theorem jll(hX:SX A S n)(hh:A.handled=none)(gb:FA env aD C1 K1 qQ s4)(hob:s4.heap.get? I=some ob)(hq:BL ob)
  (ha:d8 tgt y aD=some cN)(hb:dK (bh S n) cN body=some (o₁,gG))(hv:VR C1 s4.heap y v)(hQ:∀f s6,XP env C1 K1 qQ s4 o₁ gG f s6->Q f s6):
  wpAny (model V.prog V.w) A (letOwnedTupleGo tgt (.ref I) v) (λZ s=>wpAny (model V.prog V.w) A (assign tgt env v) (λZ s=>wpAny (model V.prog V.w) A (execs body env) Q E3 s) E2 s) E1 s4:=by
 refine tmo (R6 hob hq) (λZ pK q=>?_) λZ Z f=>f.elim;subst q;refine tmo (BX hh gb ha hv) (λZ s5 q=>?_) λZ Z f=>f.elim;exact tmo (yL hX body cN env C1 _ _ s5 o₁ gG q.2 hb) (λf s6 r=>hQ f s6 (r.after (.of (aC.mono q.1 (λb Z w=>(gb.hot w).2.1) λZ Z g=>False.elim g)))) λZ Z f=>f.elim
structure FS(K:AP)(KG:NP)(wr:AP)(wg:NP):Prop where
 k:∀b,wr b->¬K b
 g:∀i,wg i->¬KG i
 nh:∀b,wr b->V.h₀.get? b=none
theorem FA.old(x:FA env η C K KG s)(h:∀b,wr b->s.heap.objs.size<=b)(hg:∀i,wg i->s.gens.size<=i):FS K KG wr wg:=
 ⟨λb w k=>absurd (x.kept.1 b k) (bw (h b w)),λi w k=>absurd (x.kept.2 i k) (bw (hg i w)),λb w=>by
  cases q:V.h₀.get? b with
  |none=>rfl
  |some o=>exact absurd (hls (x.base b o q)) (bw (h b w))⟩
structure FI(U Kf K:AP)(KG:NP)(s:Shared)(N:Nat)(C1:AP)(s':Shared):Prop where
 ev:aC (λb=>¬K b) (λi=>¬KG i) s s'
 up:∀b,U b->b<N->C1 b
 dn:∀b,C1 b->U b\/¬Kf b
 sz:N<=s'.heap.objs.size
section
variable{U Kf wr K' C1:AP}{wg iG:NP}{s s₃ s4 s6:Shared}{N:Nat}{f:Flow}{gG aq:ME}
theorem FI.step(I:FI U Kf K KG s N C1 s₃)(F:FS K KG wr wg)(e:aC wr wg s₃ s4):FI U Kf K KG s N C1 s4:=
 ⟨I.ev.trans (aC.mono e (λb Z w=>F.k b w) λi Z w=>F.g i w),I.up,I.dn,aF I.sz e.size⟩
theorem FI.cC(I:FI U Kf K KG s N C1 s4)(hk:∀b,K b->K' b)(hg:∀b,KG b->iG b)(e:aC (λb=>¬K' b) (λi=>¬iG i) s4 s6):aC (λb=>¬K b) (λi=>¬KG i) s s6:=
 I.ev.trans (aC.mono e (λb Z w k=>w (hk b k)) λi Z w k=>w (hg i k))
theorem FI.next(I:FI U Kf K KG s N C1 s4)(hk:∀b,K b->K' b)(hg:∀b,KG b->iG b)(hf:∀b,Kf b->K' b)(q:XP env C1 K' iG s4 .next gG f s6):
  f=.next/\∃C2,FA env gG C2 K' iG s6/\FI U Kf K KG s N C2 s6/\(∀b,C2 b->C1 b\/¬K' b)/\aC (λb=>¬K' b) (λi=>¬iG i) s4 s6:=
 q.elim λC2 ⟨y,h,fa⟩=>⟨h,C2,fa,⟨I.cC hk hg y.ev,λb u hb=>y.up b (I.up b u hb) (bJ hb I.sz),λb c=>(y.dn b c).elim (I.dn b) λh=>.inr λk=>h (hf b k),aF I.sz y.ev.size⟩,y.dn,y.ev⟩
theorem FI.ret(I:FI U Kf K KG s N C1 s4)(hk:∀b,K b->K' b)(hg:∀b,KG b->iG b)(h1:∀b,C b->b<s.heap.objs.size->C1 b)(h2:∀b,C1 b->C b\/¬K b)(q:XP env C1 K' iG s4 (.ret v) gG f s6):XP env C K KG s (.ret v) aq f s6:=
 q.elim λC2 ⟨y,h⟩=>aW C2 ⟨I.cC hk hg y.ev,λb c hb=>y.up b (h1 b c hb) (bJ hb I.ev.size),λb c=>(y.dn b c).elim (h2 b) λh=>.inr λk=>h (hk b k)⟩ h
end
def FJ(env:Env)(U K:AP)(KG:NP)(s:Shared)(fp:AP)(wg:NP)(St:Nat->Shared->Prop)(N:Nat)(L:ME->LV->Prop)(items:LV)(k:Nat)(s':Shared):Prop:=
 ∃i aD C1,k=items.length+1-i/\i<=items.length/\L aD (items.drop i)/\FA env aD C1 (λb=>K b\/fp b) (λi=>KG i\/wg i) s'/\St i s'/\FI U (λb=>K b\/fp b) K KG s N C1 s'
section
variable{U wr fp C1:AP}{wg:NP}{St:Nat->Shared->Prop}{s s₃ s4 s6:Shared}{N hi i:Nat}{η aD gG aq:ME}{I:Addr}{items:LV}{y:PV}{L:ME->LV->Prop}{o o₁:Out}
theorem FJ.fa(F:FS K KG wr wg)(hwf:∀b,wr b->fp b)(fa:FA env aD C1 (λb=>K b\/fp b) (λi=>KG i\/wg i) s₃)(J:FI (λb=>C b/\¬wr b) (λb=>K b\/fp b) K KG s N C1 s₃)(e:aC wr wg s₃ s4):FA env aD C1 (λb=>K b\/fp b) (λi=>KG i\/wg i) s4:=
 fa.cC e (λb w c=>(J.dn b c).elim (λq=>q.2 w) λq=>q (.inr (hwf b w))) (λb w=>.inr (hwf b w)) F.nh
theorem FI.cc(J:FI (λb=>C b/\¬wr b) (λb=>K b\/fp b) K KG s N C1 s₃)(hwr:∀b,wr b->s.heap.objs.size<=b)(hN:s.heap.objs.size<=N):(∀b,C b->b<s.heap.objs.size->C1 b)/\∀b,C1 b->C b\/¬K b:=
 ⟨λb c hb=>J.up b ⟨c,λw=>absurd hb (bw (hwr b w))⟩ (bJ hb hN),λb c=>(J.dn b c).elim (λq=>.inl q.1) λq=>.inr λk=>q (.inl k)⟩
theorem jt9(zQ:aR A 1)(W:It C hi I items wr fp wg St)(hhi:hi<=N)(F:FS K KG wr wg)(hwf:∀b,wr b->fp b)(fa:FA env aD C1 (λb=>K b\/fp b) (λi=>KG i\/wg i) s₃)(J:FI (λb=>C b/\¬wr b) (λb=>K b\/fp b) K KG s N C1 s₃)(qm:St i s₃)(hx:items[i]?=some y)
  (h:∀v s4 ob,VR C1 s4.heap y v->St (i+1) s4->FA env aD C1 (λb=>K b\/fp b) (λi=>KG i\/wg i) s4->FI (λb=>C b/\¬wr b) (λb=>K b\/fp b) K KG s N C1 s4->s4.heap.get? I=some ob->BL ob->X (some v) s4):
  wpAny (model V.prog V.w) A (pyNext (.ref I)) X E s₃:=
 tmo (W.item A i s₃ y zQ hx qm) (λr s4 q=>by
  refine Fe r q λv hv q7 e=>?_;refine aH (W.quiet _ _ q7) λob hob hqo=>?_;exact h v s4 ob (hv.mono λb ob c g=>⟨c.2.2.elim (λh=>J.up b ⟨c.1,c.2.1⟩ (bJ h hhi)) (fa.cJ b),g⟩) q7 (FJ.fa F hwf fa J e) (J.step F e) hob hqo) λZ Z f=>f.elim
theorem jt8(zQ:aR A 1)(W:It C hi I items wr fp wg St)(F:FS K KG wr wg)(hwf:∀b,wr b->fp b)(fa:FA env aD C1 (λb=>K b\/fp b) (λi=>KG i\/wg i) s₃)(J:FI (λb=>C b/\¬wr b) (λb=>K b\/fp b) K KG s N C1 s₃)(qm:St i s₃)(hle:i<=items.length)(hx:items.length<=i)
  (h:∀s4,FA env aD C1 (λb=>K b\/fp b) (λi=>KG i\/wg i) s4->FI (λb=>C b/\¬wr b) (λb=>K b\/fp b) K KG s N C1 s4->X none s4):
  wpAny (model V.prog V.w) A (pyNext (.ref I)) X E s₃:=
 tmo (W.done A s₃ zQ (DW hle hx▸qm)) (λr s4 q=>by
  cases q.1;exact h s4 (FJ.fa F hwf fa J q.2) (J.step F q.2)) λZ Z f=>f.elim
theorem jwy(W:It C hi I items wr fp wg St)(J:FI U (λb=>K b\/fp b) K KG s N C1 s4)(q7:St (i+1) s4)(hlt:i<items.length)(c1:∀b,C b->b<s.heap.objs.size->C1 b)(c2:∀b,C1 b->C b\/¬K b)
  (hl:match (generalizing:=false) o₁ with| .next=>L gG (items.drop (i+1))| .ret v=>o=.ret v/\aq=gG)
  {Q:Flow->Shared->Prop}(hn:∀s6,FJ env U K KG s fp wg St N L items (items.length+1-(i+1)) s6->Q .next s6)(hr:∀f s6,XP env C K KG s o aq f s6->(∃v,f=.ret v)->Q f s6)(f:Flow)(s6:Shared)
  (q:XP env C1 (λb=>K b\/fp b) (λi=>KG i\/wg i) s4 o₁ gG f s6):Q f s6:=by
 cases o₁ with
 |next=>
  obtain⟨rfl,C2,xn,J6,-,e6⟩:=J.next (λZ=>.inl) (λZ=>.inl) (λZ=>id) q
  exact hn s6 (Qz (i+1) gG C2 rfl hlt hl xn (W.frame _ _ _ q7 (λb ob f g=>e6.heap b ob (λw=>w (.inr f)) g) (λj z w g=>e6.gens j z (λh=>h (.inr w)) g)) J6)
 |ret v'=>
  cases hl.1;have x:=J.ret (aq:=aq) (λZ=>.inl) (λZ=>.inl) c1 c2 q;exact hr f s6 x (x.elim λ_ ⟨_,u,h,_⟩=>⟨u,h⟩)
end
theorem ji8{P:Prop}{run:ME->Option (Out×ME)}{tgt:PE}{aD aq:ME}{y:PV}{l:LV}{o:Out}(hl:dD run tgt aD (y::l)=some (o,aq))
  (h:∀cN o₁ gG,d8 tgt y aD=some cN->run cN=some (o₁,gG)->(match (generalizing:=false) o₁ with| .next=>dD run tgt gG l=some (o,aq)| .ret v=>o=.ret v/\aq=gG)->P):P:=by
 refine aH (bx hl) λcN ha hl=>?_;refine aH (bx hl) λbC hb hl=>?_;obtain⟨o₁,gG⟩:=bC;refine h cN o₁ gG ha hb ?_;cases o₁
 ·exact hl
 ·cases hl;exact⟨rfl,rfl⟩
theorem jpP{n:Nat}(hA:aR A D)(O:Ops D S)(hX:SX A S n){η aq:ME}{tgt it:PE}{body:List Stmt}{pos:Pos}{s:Shared}{o:Out}{pa:PV}{items:LV}(x:FA env η C K KG s)
  (hf:∀x,foldedSetIterable it env x=pure x)(hi:aG S n η it=some pa)(hit:fQ pa=some items)(hl:dD (λη=>dK (bh S n) η body) tgt η items=some (o,aq)):
  Wp A (exec (.For tgt it body [] pos) env) (XP env C K KG s o aq) s:=by
 refine wpAny_For (hs:=hf) (Wp.mono ((sound hA O n).1 η it env C K KG s pa x hi) λva s₁ h₁=>Wp.mono (O.iter A s s₁ C pa va items hA (x.here.ext h₁.1) h₁.1 h₁.2 hit) λitv s₂ h₂=>?_);refine JH h₂ λe₂ hi2 I wr fp wg St eq1 W hst hhi hwr hfp hwf j9=>?_;subst eq1;refine O5 (FJ env (λb=>C b/\¬wr b) K KG s fp wg St s₂.heap.objs.size (λη l=>dD (λη=>dK (bh S n) η body) tgt η l=some (o,aq)) items) (λk s₃ h=>?_) (items.length+1)
  ⟨0,η,_,rfl,jq _,hl,x.narrow (X:=wr) (Y:=fp) (YG:=wg) e₂ hwr hfp λi w=>(j9 i w).2,hst,e₂.cC,λb c Z=>c,λb c=>.inl c,aN _⟩
 refine JG h λi aD C1 eq1 hle hl₁ fa qm J=>?_;subst eq1;have F:=x.old (λb w=>(hwr b w).1) λi w=>(j9 i w).1;have c:=J.cc (λb w=>(hwr b w).1) e₂.size;refine(uZ i items.length).elim (λhlt=>?_) λhge=>?_
 ·rw[Ak hlt] at hl₁;exact ji8 hl₁ λcN o₁ gG ha hb hl₂=>jt9 (hA.mono O.room) W hhi F hwf fa J qm (iy hlt) λv s4 ob hv q7 gb J4 hob hqo=>jll hX hA.handled gb hob hqo ha hb hv
   (jwy W J4 q7 hlt c.1 c.2 hl₂ (λs6 q=>aW _ (Ox (rZ hlt) (jo i)) q) λf s6 q ⟨v,hv⟩=>by cases hv;exact q)
 ·rw[List.drop_eq_nil_of_le hge] at hl₁;cases hl₁;exact jt8 (hA.mono O.room) W F hwf fa J qm hle hge λs4 gb J4=>qg (cG C1 ⟨J4.ev,c.1,c.2⟩ rfl (gb.regrow (λZ c=>c) (λZ c=>.inl c) (λb k=>.inl k) (λi k=>.inl k) x.hk))
end
section
variable{A:Around}{S:Sp}{D:Nat}{env:Env}{η aD gG aq:ME}{C K C1 C2 wr:AP}{KG:NP}{s s₃ s4 s6:Shared}{I:Addr}{g:Nat}{y:PV}{rest:LV}{o o₁:Out}{L:ME->LV->Prop}
theorem FA.jIc(x:FA env η C K KG s){W X K':AP}{G:NP}(e:aC W G s s')(hC:∀b,W b->¬C b)(hK:∀b,W b->K b)(hB:∀b,W b->V.h₀.get? b=none)
  (hX:∀b,X b->s.heap.objs.size<=b/\b<s'.heap.objs.size)(hk:∀b,K' b->K b\/X b)(h0:∀b o,V.h₀.get? b=some o->K' b):FA env η (λb=>C b/\¬X b) K' KG s':=by
 have old:∀{a o},s.heap.get? a=some o->¬X a:=λg h=>absurd (hls g) (bw (hX _ h).1);exact x.move (λa o c g=>⟨⟨c,old g⟩,e.heap a o (λw=>hC a w c) g⟩) (λa o hc h g=>⟨λq=>hc q.1,λq=>(hk a q).elim h (old g),e.heap a o (λw=>h (hK a w)) g⟩) (λa ha=>⟨x.cJ a (aF e.size ha),λh=>absurd (hX a h).2 (bw ha)⟩)
  ⟨λb hb=>(hk b hb).elim (λh=>bJ (x.kept.1 b h) e.size) λh=>(hX b h).2,λi hi=>bJ (x.kept.2 i hi) e.cV⟩ (λb o hb=>e.heap b o (λw=>by rw[hB b w] at hb;exact nn hb) (x.base b o hb)) (e.bare x.bare) h0
structure pq(I:Addr)(g:Nat)(s:Shared)(wr C1:AP)(rest:LV)(s':Shared):Prop where
 run:mK I g rest wr s'
 ni:¬wr I
 q:∃o,s'.heap.get? I=some o/\BL o
 pl:∀b,(wr b\/b=I)->s.heap.objs.size<=b/\b<s'.heap.objs.size/\¬C1 b
def GJv(env:Env)(C K:AP)(KG:NP)(s:Shared)(I:Addr)(g:Nat)(L:ME->LV->Prop)(k:Nat)(s':Shared):Prop:=
 ∃rest aD C1 wr,k=rest.length+1/\L aD rest/\FA env aD C1 (λb=>K b\/(wr b\/b=I)) (λi=>KG i\/i=g) s'/\pq I g s wr C1 rest s'/\FI C K K KG s s.heap.objs.size C1 s'
theorem pq.fs(G:pq I g s wr C1 rest s₃)(x:FA env η C K KG s)(hg:s.gens.size<=g):FS K KG wr (λi=>i=g):=x.old (λb w=>(G.pl b (.inl w)).1) λi w=>w▸hg
theorem pq.next(G:pq I g s wr C1 rest s4)(e:aC (λb=>¬(K b\/(wr b\/b=I))) (λi=>¬(KG i\/i=g)) s4 s6)(r2:∀b,C2 b->C1 b\/¬(K b\/(wr b\/b=I))):pq I g s wr C2 rest s6:=
 ⟨G.run.keep ⟨λb o w h=>e.heap b o (λq=>q (.inr w)) h,e.size,λz h=>e.gens g z (λq=>q (.inr rfl)) h,e.cV⟩,G.ni,G.q.elim λo h=>aW o (e.heap I o (λq=>q (.inr (.inr rfl))) h.1) h.2,
  λb w=>⟨(G.pl b w).1,bJ (G.pl b w).2.1 e.size,λc=>(r2 b c).elim (G.pl b w).2.2 λq=>q (.inr w)⟩⟩
theorem jwB(zQ:aR A 4)(x:FA env η C K KG s)(hg:s.gens.size<=g)(fa:FA env aD C1 (λb=>K b\/(wr b\/b=I)) (λi=>KG i\/i=g) s₃)(G:pq I g s wr C1 [] s₃)(J:FI C K K KG s s.heap.objs.size C1 s₃)
  (h:∀s4,FA env aD C1 K KG s4->FI C K K KG s s.heap.objs.size C1 s4->X none s4):
  wpAny (model V.prog V.w) A (pyNext (.ref I)) X E s₃:=
 tmo (G.run A s₃ zQ ⟨fa.base,fa.bare⟩ lN.refl) (λr s4 q=>by
  cases q.1;exact h s4 ((fa.cC q.2 (λb w=>(G.pl b (.inl w)).2.2) (λb w=>.inr (.inl w)) (G.fs x hg).nh).regrow (λZ c=>c) (λZ c=>.inl c) (λb k=>.inl k) (λi k=>.inl k) x.hk) (J.step (G.fs x hg) q.2)) λZ Z f=>f.elim
theorem pq.some(G:pq I g s wr C1 (y::rest) s₃)(h3:s.heap.objs.size<=s₃.heap.objs.size)(e:aC wr (λi=>i=g) s₃ s4)(hw2:∀b,wr' b->wr b\/(s₃.heap.objs.size<=b/\b<s4.heap.objs.size))(hr2:mK I g rest wr' s4):
  pq I g s wr' (λb=>C1 b/\¬(wr' b/\s₃.heap.objs.size<=b)) rest s4:=by
 refine aH G.q λoI hoI hqI=>?_;have hI:=hls hoI;refine⟨hr2,λw=>(hw2 I w).elim G.ni λq=>absurd hI (bw q.1),aW oI (e.heap I oI G.ni hoI) hqI,λb w=>?_⟩;have old:(wr b\/b=I)->s.heap.objs.size<=b/\b<s4.heap.objs.size/\¬(C1 b/\¬(wr' b/\s₃.heap.objs.size<=b)):=λq=>⟨(G.pl b q).1,bJ (G.pl b q).2.1 e.size,λc=>(G.pl b q).2.2 c.1⟩;exact w.elim (λw=>(hw2 b w).elim (λq=>old (.inl q)) λq=>⟨aF h3 q.1,q.2,λc=>c.2 ⟨w,q.1⟩⟩) λq=>old (.inr q)
theorem jwC(zQ:aR A 4)(x:FA env η C K KG s)(hg:s.gens.size<=g)(fa:FA env aD C1 (λb=>K b\/(wr b\/b=I)) (λi=>KG i\/i=g) s₃)(G:pq I g s wr C1 (y::rest) s₃)(J:FI C K K KG s s.heap.objs.size C1 s₃)
  (h:∀v s4 oE C2,VR C2 s4.heap y v->FA env aD C2 (λb=>K b\/(oE b\/b=I)) (λi=>KG i\/i=g) s4->pq I g s oE C2 rest s4->FI C K K KG s s.heap.objs.size C2 s4->X (some v) s4):
  wpAny (model V.prog V.w) A (pyNext (.ref I)) X E s₃:=
 tmo (G.run A s₃ zQ ⟨fa.base,fa.bare⟩ lN.refl) (λr s4 q=>by
  refine Bb q λv oE eq1 hv e hw1 hw2 hr2=>?_;subst eq1;have J4:=J.step (G.fs x hg) e;refine h v s4 oE _ (hv.mono λb ob c g=>⟨⟨fa.cJ b c.1,λq=>c.2 q.1⟩,g⟩)
   (fa.jIc (X:=λb=>oE b/\s₃.heap.objs.size<=b) e (λb w=>(G.pl b (.inl w)).2.2) (λb w=>.inr (.inl w)) (G.fs x hg).nh (λb w=>⟨w.2,(hw2 b w.1).elim (λq=>absurd (G.pl b (.inl q)).2.1 (bw w.2)) λq=>q.2⟩)
    (λb k=>k.elim (λk=>.inl (.inl k)) λk=>k.elim (λk=>(hw2 b k).elim (λq=>.inl (.inr (.inl q))) λq=>.inr ⟨k,q.1⟩) λq=>.inl (.inr (.inr q))) λb o h=>.inl (x.hk b o h))
   (G.some J.sz e hw2 hr2) ⟨J4.ev,λb c hb=>⟨J.up b c hb,λq=>absurd (bJ hb J.sz) (bw q.2)⟩,λb c=>J.dn b c.1,J4.sz⟩) λZ Z f=>f.elim
theorem jy1(G:pq I g s wr C1 rest s4)(J:FI C K K KG s s.heap.objs.size C1 s4)(hl:match (generalizing:=false) o₁ with| .next=>L gG rest| .ret v=>o=.ret v/\aq=gG)
  {Q:Flow->Shared->Prop}(hn:∀s6,GJv env C K KG s I g L (rest.length+1) s6->Q .next s6)(hr:∀f s6,XP env C K KG s o aq f s6->(∃v,f=.ret v)->Q f s6)(f:Flow)(s6:Shared)
  (q:XP env C1 (λb=>K b\/(wr b\/b=I)) (λi=>KG i\/i=g) s4 o₁ gG f s6):Q f s6:=by
 cases o₁ with
 |next=>
  refine JF (J.next (λZ=>.inl) (λZ=>.inl) (λZ=>.inl) q) λeq1 C2 xn J6 r2 e6=>?_;subst eq1;exact hn s6 ⟨rest,gG,C2,wr,rfl,hl,xn,G.next e6 r2,J6⟩
 |ret v'=>
  cases hl.1;have x:=J.ret (C:=C) (aq:=aq) (λZ=>.inl) (λZ=>.inl) J.up J.dn q;exact hr f s6 x (x.elim λ_ ⟨_,u,h,_⟩=>⟨u,h⟩)
theorem jmV(hA:aR A D)(O:Ops D S)(hgn:S.gens=true)(hX:SX A S n)(x:FA env η C K KG s)
  (hf:∀x,foldedSetIterable it env x=pure x)(hi:aG S n η it=some (.gen items))(hl:dD (λη=>dK (bh S n) η body) tgt η items=some (o,aq)):
  Wp A (exec (.For tgt it body [] pos) env) (XP env C K KG s o aq) s:=by
 refine wpAny_For (hs:=hf) (Wp.mono ((sound hA O n).1 η it env C K KG s (.gen items) x hi) λva s₁ h₁=>?_);refine kA h₁ λe₂ zz=>vH zz λI g wr eq1 hwI hgen hwr vA hgs hrun=>?_;subst eq1;refine wpAny_pyIter_gen (g:=g) hgen ?_;obtain⟨oI,nm,qn,ho,hc,-⟩:=hgen;have hp:∀b,(wr b\/b=I)->s.heap.objs.size<=b/\b<s₁.heap.objs.size:=λb w=>w.elim (hwr b) λq=>q▸⟨hwI.2.1,hls ho⟩;refine O5 (GJv env C K KG s I g (λη l=>dD (λη=>dK (bh S n) η body) tgt η l=some (o,aq))) (λk s₃ h=>?_) (items.length+1)
  ⟨items,η,_,wr,rfl,hl,x.narrow (X:=λb=>wr b\/b=I) (Y:=λb=>wr b\/b=I) (YG:=λi=>i=g) e₂ hp (λb w=>⟨.inl w,(hp b w).2⟩) λi w=>w▸hgs,
   ⟨hrun,hwI.1,aW oI ho (λn hn=>by rw[hc] at hn;cases hn;decide),λb w=>⟨(hp b w).1,(hp b w).2,λc=>c.2 w⟩⟩,e₂.cC,λb c hb=>⟨c,λw=>absurd hb (bw (hp b w).1)⟩,λb c=>.inl c.1,e₂.size⟩
 refine rn h λrest aD C1 wr1 eq1 zz=>cW zz λhl₁ fa G J=>?_;subst eq1;cases rest with
 |nil=>
  cases hl₁;exact jwB (hA.mono (O.Qc hgn)) x vA fa G J λs4 gb J4=>qg (cG C1 ⟨J4.ev,J.up,J.dn⟩ rfl gb)
 |cons y rest=>
  exact ji8 hl₁ λcN o₁ gG ha hb hl₂=>jwC (hA.mono (O.Qc hgn)) x vA fa G J λv s4 oE C2 hv gb G4 J4=>G4.q.elim λob hq=>jll hX hA.handled gb hq.1 hq.2 ha hb hv
   (jy1 (L:=λη l=>dD (λη=>dK (bh S n) η body) tgt η l=some (o,aq)) G4 J4 hl₂ (λs6 q=>aW _ (jo _) q) λf s6 q ⟨v,hv⟩=>by cases hv;exact q)
end
set_option tactic.hygienic true
section
variable{A:Around}{S:Sp}{D:Nat}{env:Env}{C K:AP}{KG:NP}
theorem FA.wY(x:FA env η C K KG s):interactive env=false:=by
 unfold interactive;rw[x.fn];rfl
theorem yM:swapsWith (.Call f args k p) t l env=pure false:=by
 cases t<;>rfl
theorem jjv(hA:aR A D)(O:Ops D S)(x:FA env η C K KG s)
  (hline:(ap.endLine==pos.line)=true)(hd:(y==("__debug__":Str))=false)(hy:look y η=some (.own l))(hv:aG S n η e=some v)(hp:v.plain=true)(hlen:aL (l.length+1)=true)(hs:bM y (.own (l++[v])) η=some aq):
  Wp A (exec (.Expr (.Call (.Attribute (.Name y py) ("append":Str) ap) [e] [] pos) spos) env) (XP env C K KG s .next aq) s:=by
 refine Iz (hi:=x.wY) (hs:=yM) ?_;have hst:((backTo pos (starEach [e] env)).all λx=> !x.1)=true:=(noStar (S:=S) (n:=n) (η:=η) (es:=[e]) (l:=[v]) (aK hv aO)).1;refine Bb (x.Wf hy) λa vs h1 h2 h3 h4 h5 h6=>?_;have hne:∀q z,e≠.Starred q z:=by rintro q z rfl;rw[RX] at hv;exact nn hv
 refine Iw (T:="list") (id:="list.append") (mQ rfl) ?_ hline Je Jg Jh (qW (Wp.mono (h5 A) λu s₁ q=>?_) hd)
 ·rw[hst];rfl
 refine kA q λeq1 eq2=>?_;subst eq1;subst eq2;refine⟨h1.isList.typeIs,λb eb=>by cases eb;refine ju h1 λo ho n bB=>?_;subst bB;exact aW _ ho rfl,?_⟩;refine Ei (Gy hst) (vX hst (Wp.mono (lO (sound hA O n).1 [e] s₁ s₁ [v] aC.refl x (aK hv aO)) λus s₂ q=>?_));refine kA q λe₂ hus=>?_;cases hus;rename_i u us hu hus;cases hus;have hvs:vs.length=l.length:=h2.length.symm;have hl2:cj s₂.heap a vs.toArray:=by refine aH h1 λo ho r=>?_;exact aW o (e₂.heap ho) r
 show Wp A (call (.builtin "list.append") [.ref a,u]) _ s₂;refine I5 (hsz:=by
  have:=ph hlen;simp only[my];lia) hl2.plain λh' hl' hs'=>?_
 have PX:(vs++[u]).toArray=vs.toArray.push u:=by simp
 refine kA (h6 s₂ (l++[v]) aq e₂ hs h' (vs++[u]) s₂.toks (by rw[PX];exact .of hl') hs' ((h2.ext e₂).append (.cons (hu.plain hp) .nil))) λfa ev=>?_;exact cG C (.of (aC.trans e₂.cC (aC.mono ev (λb Z w=>by subst w;exact h4) λZ Z g=>False.elim g))) rfl fa
noncomputable def yN(e:PE)(y:Str)(py:Pos)(env:Env):Bool:=match e with
 | .ListComp _ _ sc p=>env.blockKind== .function&&env.kindOf y==some .local&&py.line==p.line&& !(sc.names.any λ(n,k)=>n==y&&(k== .local||k== .cell))| .SetComp _ _ sc p=>env.blockKind== .function&&env.kindOf y==some .local&&py.line==p.line&& !(sc.names.any λ(n,k)=>n==y&&(k== .local||k== .cell))| .DictComp _ _ _ sc p=>env.blockKind== .function&&env.kindOf y==some .local&&py.line==p.line&& !(sc.names.any λ(n,k)=>n==y&&(k== .local||k== .cell))|_=>false
theorem yO:swapsWith e (some (.Name y py)) l env=pure (yN e y py env):=by
 cases e<;>rfl
theorem jig(hA:aR A D)(O:Ops D S)(x:FA env η C K KG s)(hsw:yN e y py env=false)
  (hv:aG S n η e=some v)(hp:v.plain=true)(hs:bM y v η=some aq):Wp A (exec (.Assign [.Name y py] e pos) env) (XP env C K KG s .next aq) s:=by
 refine Ab (hs:=by rw[yO,hsw]) (Wp.mono ((sound hA O n).1 η e env C K KG s v x hv) λu s₁ q=>?_);refine Wp.mono ((x.ext q.1).store hs (lQ hp).1 (VX.of (q.2.plain hp)) λl el=>absurd el ((lQ hp).2 l)) λZ s₂ r=>?_;exact XP.one x q.1 r.1 r.2.2.2 rfl
theorem jih(hA:aR A D)(O:Ops D S)(x:FA env η C K KG s)(hf:JX e=true)
  (hv:aG S n η e=some (.lst l))(hs:bM y (.own l) η=some aq):Wp A (exec (.Assign [.Name y py] e pos) env) (XP env C K KG s .next aq) s:=by
 have hsw:yN e y py env=false:=by cases e<;>first|rfl|exact nf hf
 refine Ab (hs:=by rw[yO,hsw]) (Wp.mono (jgs hA O x hf hv) λu s₁ q=>?_);refine xF q λe₁ a vs eq1 ha hl hvs=>?_;subst eq1;refine Wp.mono (x.jHt e₁ ha hl hvs hs) λZ s₂ r=>?_;exact XP.store x e₁ r.1 r.2 (λb c hb=>⟨c,λq=>absurd hb (bw (q▸ha))⟩) (λZ c=>.inl c.1) rfl
end
set_option tactic.hygienic false
set_option tactic.hygienic true
section
variable{A:Around}{S:Sp}{D:Nat}{env:Env}{C K:AP}{KG:NP}
theorem FA.jHP(x:FA env η C K KG s)(hN:∃m,s.heap.Ns L m)(hC:¬C L)(hL:env.locals≠L)(hB:V.h₀.get? L=none)(e:aC (λb=>b=L) no s s'):FA env η C K KG s':=by
 refine kE hN λmL hN=>?_;refine dZ x.sees λm f h1 h2 h3 h4=>?_;refine⟨x.fn,x.gl,x.bi,x.kinds,fW m f ?_ (λy pv hy=>?_) h3 h4,λy hy=>?_,x.oK,λa ha=>x.cJ a (aF e.size ha),x.dY,x.gP,⟨λb hb=>bJ (x.kept.1 b hb) e.size,λi hi=>bJ (x.kept.2 i hi) e.cV⟩,x.wf,λb o hb=>e.heap b o (λw=>by rw[w,hB] at hb;exact nn hb) (x.base b o hb),e.bare x.bare,x.hk⟩
 ·refine jK h1 λo es ep ho r=>?_;exact jU o es ep (e.heap _ _ hL ho) r
 ·refine cD (h2 y pv hy) λhg hb hv=>?_;refine⟨hg,?_,?_⟩
  ·rcases hb with hb|⟨hk,c,hc,hcell⟩
   ·exact .inl hb
   ·have hne:c≠L:=λq=>Gx hN (q▸hcell);refine aH hcell λo ho r=>?_;exact .inr (kY hk c hc (aW o (e.heap _ _ hne ho) r))
  ·exact hv.kp hg (λa o c g=>⟨c,e.heap a o (λw=>hC (w▸c)) g⟩) λa o its hl hc g=>⟨hc,e.heap _ _ (λq=>BR hl.isList (q▸hN)) g⟩
 ·refine eV (x.cells y hy) λc v0 hc hcell=>?_;have hne:c≠L:=λq=>Gx hN (q▸hcell);refine aH hcell λo ho r=>?_;exact fP c v0 hc (aW o (e.heap _ _ hne ho) r)
theorem FA.jHE(x:FA env η C K KG s)(h:f9 env η b):b<s.heap.objs.size:=by
 rcases h with rfl|⟨y,hk,hc⟩
 ·refine eV x.sees λm f h1 Z=>?_;exact h1.lt
 ·refine kE (x.jHz hk hc) λu hu=>?_;exact hu.lt
theorem LC.used(x:FA env η C K KG s)(hsc:gw sc η=true)(hcl:clausesOf e=gens)(h:LC A a newAcc e sc gens env C s out)
  (hp:∀Dc L s' h',Made C s a out Dc L s'->Heap.SameBut L s'.heap h'->VR C h' p (.ref Dc))(hp':∀Dc L s',Made C s a out Dc L s'->VR (λb=>C b/\b≠L) s'.heap p (.ref Dc))(hpl:p.plain=true)(hs:bM y p η=some aq):
  Wp A (comprehension e sc env pos newAcc false (firstIter gens env) (some (assign (.Name y py) env))) (λZ s'=>XP env C K KG s .next aq .next s') s:=by
 refine dZ h λbC gs eq2 hga hf hrun=>?_;obtain⟨WK,Wk,WL,as0⟩:=bC;subst eq2;have hn:=(vY hsc).2;refine O8 (use:=some (assign (.Name y py) env)) hcl hf (R3 (x.Ad hsc)) (vY hsc).1 (λy hy hl=>by obtain⟨y,k⟩:=y;cases hl;exact(hn y _ hy).1) ?_;refine hrun (λacc L=>compPost (model V.prog V.w) A iW (some (assign (.Name y py) env)) (λZ s'=>XP env C K KG s .next aq .next s') acc L) λDc L s' m=>?_;show wpAny (model V.prog V.w) A (assign (.Name y py) env (.ref Dc)) (λZ s''=>∃m,s''.heap.Ns L m/\∀h',Heap.SameBut L s''.heap h'->XP env C K KG s .next aq .next {s'' with heap:=h'}) iW s';have fa:FA env η (λb=>C b/\b≠L) K KG s':=x.ext' m.ext (λb hb c=>⟨c,λq=>absurd hb (bw (q▸m.hL.1))⟩) (λb c=>c.1) λb hb=>⟨x.cJ b (aF m.ext.size hb),λq=>absurd m.hL.2 (bw (q▸hb))⟩;refine Em (Wp.mono (fa.store hs (lQ hpl).1 (VX.of (hp' Dc L s' m)) λl el=>absurd el ((lQ hpl).2 l)) λZ s₂ q=>?_);refine cW q λe₂ Z Z cO=>?_;refine kE m.ns λns hns=>?_;have WM:¬f9 env η L:=λh=>absurd (x.jHE h) (bw m.hL.1);have WN:s₂.heap.Ns L ns:=by refine jK hns λo es ep ho r=>?_;exact jU o es ep (e₂.heap _ _ WM ho) r
 refine aW ns WN (λh' sb=>?_);have cu:aC (λb=>b=L) no s₂ {s₂ with heap:=h'}:=⟨λb o nb g=>sb.extBut b o nb g,by show _<=h'.objs.size;rw[sb.1];exact aN _,λZ Z Z g=>g,aN _,id,rfl⟩;have nB:V.h₀.get? L=none:=by
  cases hq:V.h₀.get? L with|none=>rfl|some o=>exact absurd (hls (x.base L o hq)) (bw m.hL.1)
 have gH:=cO.jHP ⟨ns,WN⟩ (λc=>c.2 rfl) (λq=>WM (.inl q.symm)) nB cu;refine cG _ ⟨?_,λb c hb=>⟨c,λq=>absurd hb (bw (q▸m.hL.1))⟩,λb c=>.inl c.1⟩ rfl gH;exact aC.trans m.ext.cC (aC.trans (aC.mono e₂ (λb Z w=>(fa.hot w).2.1) λZ Z g=>False.elim g) (aC.mono cu (λb Z w k=>absurd (x.kept.1 b k) (bw (w▸m.hL.1))) λZ Z g=>False.elim g))
theorem jmD:∀Dc L s',Made C s (mU) out Dc L s'->VR (λb=>C b/\b≠L) s'.heap (.lst out) (.ref Dc):=λDc L s' m=>by
 refine aH m.acc λvs hl hv=>?_;exact .lst ⟨m.hD.2.1,m.hD.2.2⟩ hl (hv.mono λb o c g=>⟨⟨c.1,c.2.1⟩,g⟩)
theorem jmC(hd:putAll out []=some d):∀Dc L s',Made C s (vZ) out Dc L s'->VR (λb=>C b/\b≠L) s'.heap (.dct d) (.ref Dc):=λDc L s' m=>by
 refine dZ m.acc λl kvs hl sm hdo hv=>?_;rw[hd] at hl;cases hl;exact .dct ⟨m.hD.2.1,m.hD.2.2⟩ sm hdo (hv.mono λb o c g=>⟨⟨c.1,c.2.1⟩,g⟩)
theorem jii(hA:aR A D)(O:Ops D S)(x:FA env η C K KG s)(hsw:yN e y py env=true)
  (hv:aG S n η e=some v)(hs:bM y v η=some aq):Wp A (exec (.Assign [.Name y py] e pos) env) (XP env C K KG s .next aq) s:=by
 rw[exec_Assign_Name_used _ _ _ _ (by rw[yO,hsw])];refine tbn (gr ?_);cases n with
 |zero=>exact nn hv
 |succ n=>
  refine cD (sound hA O n) λhE hT Z=>?_;cases e<;>try (exact nf hsw;done)
  ·rename_i elt gens sc p;refine Fb (Sd (pos:=p) hA O hE hT x hv) λout eq1 hsc ha uW=>?_;subst eq1;show Wp A ((do let _ ←comprehension (.ListComp elt gens sc p) sc env (firstIterPos gens p) (newList []) (firstAsync gens) (firstIter gens env) (some (assign (.Name y py) env)):Sem Unit)>>=λZ=>pure Flow.next) (XP env C K KG s .next aq) s;rw[ha];exact tbn (tbn (Wp.mono (uW.used x hsc rfl Z5 jmD rfl hs) λZ s' q=>bc (bc q)))
  ·exact nn hv
  ·rename_i ke ve gens sc p;refine Qn (jwm (pos:=p) hA O hE hT x hv) λout d eq1 hd hsc ha uW=>?_;subst eq1;show Wp A ((do let _ ←comprehension (.DictComp ke ve gens sc p) sc env (firstIterPos gens p) newDict (firstAsync gens) (firstIter gens env) (some (assign (.Name y py) env)):Sem Unit)>>=λZ=>pure Flow.next) (XP env C K KG s .next aq) s;rw[ha];exact tbn (tbn (Wp.mono (uW.used x hsc rfl (Z6 hd) (jmC hd) rfl hs) λZ s' q=>bc (bc q)))
end
set_option tactic.hygienic false
def ids(ts:List PySem.Expr):List Str:=ts.filterMap nmE
theorem jhJ{α β:Type}{f g:α->Option β}:∀{l:List α},(l.filterMap f).length=l.length->(∀a b,f a=some b->g a=some b)->l.filterMap f=l.filterMap g:=by
 intro l;induction l with
 |nil=>exact λZ Z=>rfl
 |cons a l ih=>
  intro h hg;cases hf:f a with
  |none=>
   rw[List.filterMap_cons_none hf] at h;exact absurd (aF (fH h.symm) (List.length_filterMap_le f l)) (Nat.not_succ_le_self _)
  |some b=>
   rw[Px hf] at h⊢;rw[Px (hg a b hf),ih (wU h) hg]
theorem jlj{α β:Type}{f g:α->Option β}:∀{l:List α},(∀a∈l,f a=g a)->l.filterMap f=l.filterMap g:=by
 intro l;induction l with
 |nil=>exact λZ=>rfl
 |cons a l ih=>
  intro h;rw[Jo,Jo,h a nA,ih λb hb=>h b (pO _ hb)]
theorem jm5{α:Type}{c1 c2 c3 c4 c5 sw:Bool}{x y z:α}(h:(if c1 then some false else if c2 then some false else if c3 then some false else if c4 then some false else if c5 then none else some true)=some sw):
  (if c1 then x else if c2 then x else if c3 then x else if c4 then x else if c5 then y else z)=(if sw then z else x)/\(sw=true->c3=false):=by
 cases c1
 ·cases c2
  ·cases c3
   ·cases c4
    ·cases c5
     ·cases h;exact⟨rfl,λZ=>rfl⟩
     ·exact nn h
    ·cases h;exact⟨rfl,nofun⟩
   ·cases h;exact⟨rfl,nofun⟩
  ·cases h;exact⟨rfl,nofun⟩
 ·cases h;exact⟨rfl,nofun⟩
section
variable{A:Around}{S:Sp}{D:Nat}{env:Env}{C K:AP}{KG:NP}
theorem jp6{η:ME}{s:Shared}(x:FA env η C K KG s){ts:List PySem.Expr}(hk:qC ts η=true):xP (cZ η) ts=xP env.kindOf ts:=
 jlj λt ht=>by
  have hk:=cU.mp hk t ht;cases hn:nmE t with
  |none=>rfl
  |some y=>
   rw[hn] at hk;have hk:(cZ η y==some .local||cZ η y==some .cell)=true:=hk;have e:(cZ η y==some .local)=(env.kindOf y==some .local):=by
    rcases(ug _ _).mp hk with q|q
    ·rw[bO.mp q,x.kinds y _ (bO.mp q)];rfl
    ·rw[bO.mp q,x.kinds y _ (bO.mp q)];rfl
   rw[nD,nD,e]
set_option backward.match.sparseCases true in
theorem jm6{ts:List PySem.Expr}{k:Str->Option NameKind}:(ts.filterMap λ| .Name id pos=>if k id==some .local&&pos.line==(ts.head?.map (·.pos.line)).getD 0 then some id else none|_=>none)=xP k ts:=
 jlj λt Z=>by cases t<;>rfl
set_option backward.match.sparseCases true in
theorem jhj{η:ME}{s:Shared}(x:FA env η C K KG s){ts es:List PySem.Expr}{k1:Nat}{p1:Pos}{k2:Nat}{p2:Pos}{sw:Bool}(hk:qC ts η=true)(h:qz ts es η=some sw):
  swappedStores [.Tuple ts k1 p1] (.Tuple es k2 p2) env=pure (if sw then some (ids ts) else none)/\(sw=true->(ids ts).length=ts.length):=by
 have hb:env.blockKind=.function:=by unfold Env.blockKind;rw[x.fn];rfl
 have g:swappedStores [.Tuple ts k1 p1] (.Tuple es k2 p2) env=(if (!(ts.length==2||ts.length==3)||es.length !=ts.length||env.blockKind != .function)=true then pure none else if (es.any isStar)=true then pure none else
   if Xw ts (ts.filterMap λ| .Name id pos=>if env.kindOf id==some .local&&pos.line==(ts.head?.map (·.pos.line)).getD 0 then some id else none|_=>none)=true then pure none
   else if es.all (foldedForSure 8)=true then pure none else if es.all (constantsAlone 8)=true then unsupported "assign.tuple-of-constant-expressions:order-of-the-stores" else pure (some (ts.filterMap λ| .Name id pos=>if env.kindOf id==some .local&&pos.line==(ts.head?.map (·.pos.line)).getD 0 then some id else none|_=>none))):=by
  first|rfl|(unfold swappedStores;rfl)
 rw[g,hb,jm6,show(ScopeKind.function !=ScopeKind.function)=false from rfl,Jb];unfold qz at h;rw[jp6 x hk] at h;refine kA (jm5 (x:=(pure none:Sem (Option (List Str)))) (y:=unsupported "assign.tuple-of-constant-expressions:order-of-the-stores") (z:=pure (some (xP env.kindOf ts))) h) λe h3=>?_;rw[e];cases sw with
 |false=>exact⟨rfl,nofun⟩
 |true=>
  have hl:=((Ag).mp (h3 rfl)).1;have hl:(xP env.kindOf ts).length=ts.length:=by simpa using hl
  have hi:xP env.kindOf ts=ids ts:=jhJ hl λa b hab=>by
   refine aH (bx hab) λy hy hab=>?_;cases (dq hab).2;exact hy
  exact⟨by rw[hi];rfl,λZ=>hi▸hl⟩
end
section
variable{A:Around}{S:Sp}{D:Nat}{env:Env}{C K:AP}{KG:NP}
theorem FA.adopt(x:FA env η C K1 KG s)(hk:K1 a)(hc:¬C a)(hK:∀b,K b->K1 b)(hKa:¬K a)(h5:∀b o,V.h₀.get? b=some o->K b)
  (hl:cj s.heap a vs.toArray)(hv:aV C s.heap l vs)(hs:bM y (.own l) η=some aq):Wp A (storeName env y (.ref a)) (λZ s'=>aC (f9 env η) no s s'/\FA env aq C K KG s') s:=
 Wp.mono ((x.regrow (λZ c=>c) (λZ c=>.inl c) hK (λZ g=>g) h5).store hs rfl (fW a vs rfl hc hl hv) λl' el a' ea=>⟨λk=>hKa (Value.ref.inj ea▸k),λm f hn hf z l'' hz hlk q=>by
  refine dZ x.sees λm₀ f₀ h1 h2 h3 Z=>?_;have ef:f₀ z=f z:=jz.unique (h2 z _ hlk).2.1 (hf z _ hlk) (Ns.unique h1 hn λo h=>h) λc o h=>h;exact h3 z l'' a hlk (ef.trans q) hk⟩) λZ s' q=>⟨q.1,q.2.2.2⟩
theorem FA.jHG(x:FA env η C K KG s)(e:aA s s₁)(ha:s.heap.objs.size<=a)(hl:cj s₁.heap a #[])(hp:v.plain=true)(hv:VR (λb=>C b/\b≠a) s₁.heap v u)
  (h1:bM y v η=some aD)(h2:bM z (.own []) aD=some cN)(g1:∀(Q:Shared->Prop) s',Wp A (storeName env y u) (λZ=>Q) s'->Wp A E₁ (λZ=>Q) s')(g2:∀(Q:Shared->Prop) s',Wp A (storeName env z (.ref a)) (λZ=>Q) s'->Wp A E₂ (λZ=>Q) s'):
  Wp A E₁ (λZ s₂=>Wp A E₂ (λZ s₃=>aC (f9 env η) no s₁ s₃/\FA env cN (λb=>C b/\b≠a) K KG s₃) s₂) s₁:=by
 have hlt:a<s₁.heap.objs.size:=by refine aH hl λo ho Z=>?_;exact hls ho
 have x₁:=x.narrow (X:=λb=>b=a) (Y:=λb=>b=a) (YG:=no) e (λb q=>q▸⟨ha,hlt⟩) (λb q=>⟨.inl q,q▸hlt⟩) λi h=>h.elim;have oA:=lQ hp;refine g1 (λs₂=>Wp A E₂ (λZ s₃=>aC (f9 env η) no s₁ s₃/\FA env cN (λb=>C b/\b≠a) K KG s₃) s₂) _ (Wp.mono (x₁.store h1 oA.1 (VX.of hv) λl' e=>absurd e (oA.2 l')) λZ s₂ q=>g2 (λs₃=>aC (f9 env η) no s₁ s₃/\FA env cN (λb=>C b/\b≠a) K KG s₃) _ ?_);have hla:cj s₂.heap a (List.toArray []):=hl.up λo ho=>q.1.heap a o (λw=>(x₁.hot w).2.1 (.inr rfl)) ho;refine Wp.mono (FA.adopt (K:=K) (q.2.2.2.regrow (λZ c=>c) (λZ c=>.inl c) (λZ c=>c) (λi g=>.inl g) q.2.2.2.hk) (.inr rfl) (λc=>c.2 rfl) (λb k=>.inl k) (λk=>absurd (x.kept.1 a k) (bw ha)) x.hk hla .nil h2) λZ s₃ r=>⟨q.1.trans (aC.mono r.1 (λb Z w=>(GD (λt=>(mO (y:=t) h1 x.wf).2.2.1 t) b).mp w) λZ Z g=>g),r.2⟩
end
section
variable{A:Around}{S:Sp}{D:Nat}{env:Env}{C K:AP}{KG:NP}
def jvj(C:AP)(s:Shared)(v:PV)(f:Value->Value->List Value)(vs:List Value)(s':Shared):Prop:=
 aA s s'/\∃a u,vs=f (.ref a) u/\s.heap.objs.size<=a/\cj s'.heap a #[]/\VR (λb=>C b/\b≠a) s'.heap v u
theorem jiQ(h:vM e=true):∃p,e=.List [] p:=by
 cases e<;>first|(exact nf h;done)|skip
 cases qj.mp h;exact⟨_,rfl⟩
theorem jha{n:Nat}(hA:aR A D)(O:Ops D S){η:ME}{s:Shared}(x:FA env η C K KG s){p:Pos}:Wp A (eval (.List [] p) env) (λv s'=>aA s s'/\∃a,v=.ref a/\s.heap.objs.size<=a/\cj s'.heap a #[]) s:=
 Wp.mono (jgs (n:=1) hA O x (e:=.List [] p) rfl rfl) λv s' q=>by
  refine xF q λe a vs eq1 ha ho hvs=>?_;subst eq1;cases hvs.jg;exact Qt e a rfl ha ho
theorem jmL{n:Nat}(hA:aR A D)(O:Ops D S){η:ME}{s:Shared}(x:FA env η C K KG s){p pos:Pos}{e:PE}{v:PV}(hv:aG S n η e=some v)(hp:v.plain=true):
  Wp A (spliced (backTo pos (starEach [.List [] p,e] env))) (jvj C s v λa u=>[a,u]) s:=by
 rw[yI (by rintro y q h;cases h),yJ];refine wX (Wp.mono (jha (n:=n) hA O x) λw s₁ q=>?_);refine vD q λe₁ a eq1 ha ho=>?_;subst eq1;have hlt:=ho;refine aH hlt λob hob Z=>?_;have x₁:=x.ext' (C':=λb=>C b/\b≠a) e₁ (λb hb c=>⟨c,λq=>absurd hb (bw (q▸ha))⟩) (λb q=>q.1) λb hb=>⟨x.cJ b (aF e₁.size hb),λq=>absurd (hls hob) (bw (q▸hb))⟩;rw[yI (by rintro y q rfl;cases n<;>exact nn hv),yJ];refine wX (Wp.mono ((sound hA O n).1 η e env _ K KG s₁ v x₁ hv) λu s₂ q=>El ?_);exact Fg (e₁.trans q.1) a u rfl ha (ho.up λo h=>q.1.heap h) (q.2.plain hp)
theorem jmM{n:Nat}(hA:aR A D)(O:Ops D S){η:ME}{s:Shared}(x:FA env η C K KG s){p pos:Pos}{e:PE}{v:PV}(hv:aG S n η e=some v)(hp:v.plain=true):
  Wp A (spliced (backTo pos (starEach [e,.List [] p] env))) (jvj C s v λa u=>[u,a]) s:=by
 rw[yI (by rintro y q rfl;cases n<;>exact nn hv),yJ];refine wX (Wp.mono ((sound hA O n).1 η e env _ K KG s v x hv) λu s₁ q=>?_);rw[yI (by rintro y q h;cases h),yJ];refine wX (Wp.mono (jha (n:=n) hA O (x.ext q.1)) λw s₂ r=>El ?_);refine vD r λe₂ a eq1 ha ho=>?_;subst eq1;exact Fg (q.1.trans e₂) a u rfl (aF q.1.size ha) ho ((q.2.plain hp).mono λb o c g=>⟨⟨c,λq=>absurd (hls g) (bw (q▸ha))⟩,e₂.heap g⟩)
theorem jji(x:FA env η C K KG s)(e:aA s s₁)(ha:s.heap.objs.size<=a)(hl:cj s₁.heap a #[])(hp:v.plain=true)(hv:VR (λb=>C b/\b≠a) s₁.heap v u)
  (h1:bM y v η=some aD)(h2:bM z (.own []) aD=some cN)(hg:∀w (Q:Shared->Prop) s',Wp A (storeName env y w) (λZ=>Q) s'->Wp A (g w) (λZ=>Q) s')(hg':∀w (Q:Shared->Prop) s',Wp A (storeName env z w) (λZ=>Q) s'->Wp A (g' w) (λZ=>Q) s'):
  Wp A (assignInOrder [g,g'] [u,.ref a]) (λZ s'=>XP env C K KG s .next cN .next s') s₁:=
 tbn (dJ (Wp.mono (x.jHG e ha hl hp hv h1 h2 (hg u) (hg' (.ref a))) λZ s₂ q=>tbn (dJ (Wp.mono q λZ s₃ r=>bc
  (XP.store x e r.1 r.2 (λb c hb=>⟨c,λq=>absurd hb (bw (q▸ha))⟩) (λb c=>.inl c.1) rfl)))))
theorem jlR{s s₁:Shared}{vs:List Value}(e:aA s s₁):aA s {s₁ with heap:=s₁.heap.push {cls:=.type "tuple",data:=.seq vs.toArray}}:=e.trans aA.jt
theorem jxW(hA:aR A D)(O:Ops D S)(x:FA env η C K KG s)(h:Fv S (aG S n) η ts es=some (o,aq)):
  Wp A (exec (.Assign [.Tuple ts k1 p1] (.Tuple es k2 p2) pos) env) (XP env C K KG s o aq) s:=by
 refine aM h ?_;clear h;intro t ht h;refine aM h ?_;clear h;intro e he h;refine aM h ?_;clear h;intro y hy h;refine aM h ?_;clear h;intro z hz h;refine aM h ?_;clear h;intro sw hsw h;refine cY h ?_;clear h;intro hc h;refine kA (bD hc) λhnk Z=>?_;refine kA (jhj (k1:=k1) (p1:=p1) (k2:=k2) (p2:=p2) x hnk hsw) λg1 g2=>?_;obtain⟨e1,e2⟩:=e;obtain⟨t1,t2⟩:=t;cases qx ht;cases qx he;refine kE (oX hy) λpy bB=>?_;subst bB;refine kE (oX hz) λpz bB=>?_;subst bB;cases sw with
 |true=>
  refine cY (show(if (vM e1&&S.dX.contains y)=true then _ else none)=some (o,aq) from h) ?_;clear h;intro hc h;refine aM h ?_;clear h;intro v hv h;refine cY h ?_;clear h;intro hp h;refine mH h ?_;clear h;intro cN h e;cases e;refine aM h ?_;clear h;intro aD h1 h2;refine kE (jiQ (bD hc).1) λp bB=>?_;subst bB;refine Assign_Tuple_swapped (names:=[y,z]) (hw:=g1) (IV (Wp.mono (jmL hA O x hv hp) λvs s₁ q=>⟨?_,?_⟩))
  ·refine JC q λZ a u eq1 Z=>?_;subst eq1;show 2<=sizeLine;rw[qU];decide
  ·refine xF q λe a u eq1 ha ho hu=>?_;subst eq1;refine Wp.mono (K9 (vs:=[.ref a,u]) hA.handled (nJ _ (iJ _ rfl) _ rfl)) λr s₂ q'=>?_;refine gJ r q' λe'=>?_;exact Wp.mono (jji x ((jlR e).trans e') ha (ho.up λo h=>e'.heap (fO _ h)) hp (hu.mono λb o c g=>⟨c,e'.heap (fO _ g)⟩) h1 h2 (λw Q s' h=>O7 h) λw Q s' h=>O7 h) λZ s₃ r=>r
 |false=>
  refine cY (show(if (vM e2&&S.dX.contains z)=true then _ else none)=some (o,aq) from h) ?_;clear h;intro hc h;refine aM h ?_;clear h;intro v hv h;refine cY h ?_;clear h;intro hp h;refine mH h ?_;clear h;intro cN h e;cases e;refine aM h ?_;clear h;intro aD h1 h2;refine kE (jiQ (bD hc).1) λp bB=>?_;subst bB;refine Assign_Tuple (hw:=g1) (IV (Wp.mono (jmM hA O x hv hp) λvs s₁ q=>⟨?_,?_⟩))
  ·refine JC q λZ a u eq1 Z=>?_;subst eq1;show 2<=sizeLine;rw[qU];decide
  ·refine xF q λe a u eq1 ha ho hu=>?_;subst eq1;rw[R5];refine tbn (gr ?_);unfold unpack;refine Wp.bind (dJ (K9 (vs:=[u,.ref a]) hA.handled (nJ _ (iJ _ rfl) _ rfl))) λr s₂ q'=>?_;refine gJ r q' λe'=>?_;exact Wp.mono (jji x ((jlR e).trans e') ha (ho.up λo h=>e'.heap (fO _ h)) hp (hu.mono λb o c g=>⟨c,e'.heap (fO _ g)⟩) h1 h2 (λw Q s' h=>Em h) λw Q s' h=>Em h) λZ s₃ r=>r
end
section
variable{A:Around}{S:Sp}{D:Nat}{env:Env}{C K:AP}{KG:NP}
theorem jkI:∀(ts:List PySem.Expr) (l:LV) (us:List Value) (η aq:ME) (s:Shared),cH ts l η=some aq->aV C s.heap l us->FA env η C K KG s->
  Wp A (assignInOrder ((ids ts).map λn=>bindName env n) us) (λZ s'=>aC (f9 env η) no s s'/\FA env aq C K KG s') s:=by
 intro ts;induction ts with
 |nil=>
  intro l us η aq s h hv x;refine kA (xJ h) λeq1 eq2=>?_;subst eq1;subst eq2;rw[hv.jg];exact bc ⟨aC.refl,x⟩
 |cons t ts ih=>
  intro l us η aq s h hv x;obtain⟨y,py,p,r,aD,rfl,rfl,hp,h1,h⟩:=xK h;obtain⟨v,us,rfl,hv,hvs⟩:=hv.gh;have oA:=lQ hp;refine tbn (dJ (O7 (Wp.mono (x.store h1 oA.1 (VX.of hv) λl' e=>absurd e (oA.2 l')) λZ s₁ q=>?_)));exact Wp.mono (ih r us aD aq s₁ h (x.PT q.1 hvs) q.2.2.2) λZ s₂ r=>⟨q.1.trans (aC.mono r.1 (λb Z w=>(GD (λz=>(mO (y:=z) h1 x.wf).2.2.1 z) b).mp w) λZ Z g=>g),r.2⟩
theorem aV.reverse{h:Heap}{l:LV}:∀{us:List Value},aV C h l us->aV C h l.reverse us.reverse:=by
 induction l with
 |nil=>intro us x;rw[x.jg];exact .nil
 |cons a l ih=>
  intro us x;refine eX x.gh λu us eq1 y r=>?_;subst eq1;rw[Oh,Oh];exact(ih r).append (.cons y .nil)
theorem jkj(ts:List PySem.Expr):ids ts.reverse=(ids ts).reverse:=by unfold ids;exact List.filterMap_reverse
theorem jij{n:Nat}(hA:aR A D)(O:Ops D S){η aq:ME}{ts es:List PySem.Expr}{k1 k2:Nat}{p1 p2 pos:Pos}{s:Shared}{l:LV}{sw:Bool}(x:FA env η C K KG s)
  (hl:cF (aG S n η) es=some l)(hnk:qC ts η=true)(hlen:l.length=ts.length)(hok:(aL l.length&&l.all PV.plain)=true)(hsw:qz ts es η=some sw)
  (hs:(if sw then cH ts.reverse l.reverse η else cH ts l η)=some aq):
  Wp A (exec (.Assign [.Tuple ts k1 p1] (.Tuple es k2 p2) pos) env) (XP env C K KG s .next aq) s:=by
 refine kA (jhj (k1:=k1) (p1:=p1) (k2:=k2) (p2:=p2) x hnk hsw) λg1 g2=>?_;have hE:=(sound hA O n).1;cases sw with
 |false=>
  refine Assign_Tuple (hw:=g1) (Wp.mono ((K7 hE x hl hok).1 k2) λu s₁ q=>?_);have hv:VR C s₁.heap (.tup l) u:=q.2;have hs:d8 (.Tuple ts k1 p1) (.tup l) η=some aq:=hs;exact Wp.mono (BX (tgt:=.Tuple ts k1 p1) hA.handled (x.ext q.1) hs hv) λZ s₂ r=>XP.one x q.1 r.1 r.2 rfl
 |true=>
  have g2:=g2 rfl;simp only[gZ] at hs g1;refine Assign_Tuple_swapped (names:=ids ts) (hw:=g1) (Wp.mono ((K7 hE x hl hok).1 k2) λu s₁ q=>?_);refine cP u q.2.iv λa vs ht hvs=>?_;have hn:(ids ts).length=vs.toArray.size:=by rw[g2,←hlen,hvs.length];rfl
  rw[hn];refine Wp.mono (K9 hA.handled ht) λr s₂ q'=>?_;refine kA q' λeq1 e=>?_;subst eq1;rw[←jkj];exact Wp.mono (jkI ts.reverse l.reverse r.reverse η aq _ hs (aV.reverse (hvs.ext e)) ((x.ext q.1).ext e)) λZ s₃ r=>XP.one x (q.1.trans e) r.1 r.2 rfl
theorem jik(hA:aR A D)(O:Ops D S)(x:FA env η C K KG s)(hne:∀es k p,e≠.Tuple es k p)
  (hv:aG S n η e=some v)(hvl:v=.tup l\/v=.lst l)(hs:cH ts l η=some aq):
  Wp A (exec (.Assign [.Tuple ts k1 p1] e pos) env) (XP env C K KG s .next aq) s:=by
 refine Assign_Tuple (hs:=by cases e<;>rfl) (hw:=by cases e<;>first|rfl|exact absurd rfl (hne _ _ _)) (Wp.mono ((sound hA O n).1 η e env C K KG s v x hv) λu s₁ q=>?_);rcases hvl with rfl|rfl
 ·have hv:VR C s₁.heap (.tup l) u:=q.2;have hs:d8 (.Tuple ts k1 p1) (.tup l) η=some aq:=hs;exact Wp.mono (BX (tgt:=.Tuple ts k1 p1) hA.handled (x.ext q.1) hs hv) λZ s₂ r=>XP.one x q.1 r.1 r.2 rfl
 ·have hv:VR C s₁.heap (.lst l) u:=q.2;rw[R5];refine tbn (gr ?_);unfold unpack;have key:∀(vs:List Value) (s₂:Shared),aA s₁ s₂->aV C s₂.heap l vs->Wp A (assignInOrder ((assignEach ts env).map (·.2)) vs) (λZ s'=>aC (f9 env η) no s₂ s'/\FA env aq C K KG s') s₂/\(assignEach ts env).length=vs.length/\(assignEach ts env).findIdx? (·.1)=none:=λvs s₂ e h=>by
   refine cW (jkL (A:=A) ts l vs η aq s₂ hs h ((x.ext q.1).ext e)) λa b c Z=>?_;exact⟨a,b,c⟩
  refine eX hv.iv λa vs eq1 Z hvs=>?_;subst eq1;refine cD (key vs s₁ aC.refl hvs) λZ q2 q3=>?_;rw[q2,q3,←hvs.length];refine Wp.bind (dJ (O.zU A s₁ C l (.ref a) hA hv)) λus s₂ r=>?_;exact Wp.mono (key us s₂ r.1 r.2).1 λZ s₃ r'=>XP.one x (q.1.trans r.1) r'.1 r'.2 rfl
theorem jDm{v:PV}{l:LV}:v.zU=some l->v=.tup l\/v=.lst l:=by
 cases v<;>first|exact nn|(intro h;cases h;first|exact .inl rfl|exact .inr rfl)
theorem jo7(ts:List PySem.Expr):∀(l:LV) (η aq:ME),cH ts l η=some aq->ts.length=l.length:=by
 induction ts with
 |nil=>intro l η aq h;rw[(xJ h).1];rfl
 |cons t ts ih=>
  intro l η aq h;obtain⟨y,py,p,r,aD,rfl,rfl,_,_,h⟩:=xK h;exact aU (·+1) (ih r aD aq h)
section
variable{n:Nat}{η aq:ME}{s:Shared}{o:Out}{pos:Pos}
theorem BZ(h:q.map iT=some (o,aq)):o=.next/\q=some aq:=by
 refine mH h ?_;clear h;intro aD h1 h2;cases h2;exact⟨rfl,h1⟩
theorem jqj(hA:aR A D)(O:Ops D S)(x:FA env η C K KG s)(h:((aG S n η e).bind λv=>(store S y e v η).map iT)=some (o,aq)):
  Wp A (exec (.Assign [.Name y py] e pos) env) (XP env C K KG s o aq) s:=by
 refine aM h ?_;clear h;intro v hv h;refine gJ o (BZ h) λhs=>?_;by_cases hm:S.dX.contains y=true
 ·refine aM ((aX hm).symm.trans hs) ?_;intro l hl hs;refine cY hs ?_;clear hs;intro hf hs;exact jih hA O x hf (PV.sy hl▸hv) hs
 ·refine cY ((aZ hm).symm.trans hs) ?_;intro hp hs;cases hsw:yN e y py env with|true=>exact jii hA O x hsw hv hs|false=>exact jig hA O x hsw hv hp hs
theorem jqk(hA:aR A D)(O:Ops D S)(x:FA env η C K KG s)
  (h:((cF (aG S n η) es).bind λvs=>if qC ts η&&vs.length==ts.length&&es.length==ts.length&&aL vs.length&&vs.all PV.plain then(qz ts es η).bind λsw=>(Bo S ts es vs η sw).map iT else .none)=some (o,aq)):
  Wp A (exec (.Assign [.Tuple ts k1 p1] (.Tuple es k2 p2) pos) env) (XP env C K KG s o aq) s:=by
 refine aM h ?_;clear h;intro l hl h;refine cY h ?_;clear h;intro hc h;refine fM hc ?_;clear hc;intro hc h5;refine fM hc ?_;clear hc;intro hc h4;refine kA (bD hc) λhc Z=>?_;refine fM hc ?_;clear hc;intro h1 h2;refine aM h ?_;clear h;intro sw hsw h;refine gJ o (BZ h) λhs=>?_;exact jij hA O x hl h1 (bO.mp h2) (by rw[h4,h5];rfl) hsw hs
theorem jsF(hA:aR A D)(O:Ops D S)(x:FA env η C K KG s)(h:Xz S (aG S n) η ts e=some (o,aq)):Wp A (exec (.Assign ts e pos) env) (XP env C K KG s o aq) s:=by
 refine aM h ?_;clear h;intro t ht h;rw[gQ ht];cases hn:nmE t with
 |some y=>
  rw[hn] at h;refine kE (oX hn) λpy e'=>?_;rw[e'];exact jqj hA O x h
 |none=>
  rw[hn] at h;refine aM h ?_;clear h;intro ts h1 h;refine kO (JR h1) λk1 p1 e'=>?_;rw[e'];cases he:uy e with
  |some es=>
   rw[he] at h;refine kO (JR he) λk2 p2 e'=>?_;rw[e'];have h:(if ts.any (vL S)=true then Fv S (aG S n) η ts es else(cF (aG S n η) es).bind λvs=>if qC ts η&&vs.length==ts.length&&es.length==ts.length&&aL vs.length&&vs.all PV.plain then(qz ts es η).bind λsw=>(Bo S ts es vs η sw).map iT else .none)=some (o,aq):=h;by_cases hm:ts.any (vL S)=true
   ·rw[aX hm] at h;exact jxW hA O x h
   ·rw[aZ hm] at h;exact jqk hA O x h
  |none=>
   rw[he] at h;refine aM h ?_;clear h;intro v hv h;refine aM h ?_;clear h;intro l hl h;refine gJ o (BZ h) λhs=>?_;exact jik hA O x (λes k p q=>by rw[q] at he;exact ns he) hv (jDm hl) hs
theorem jAQ:XC op i j=some k->(op=.Add\/op=.Sub)/\iR op (.int i) (.int j)=some (.int k):=by
 cases op<;>first|exact nn|(intro h;cases h;first|exact⟨.inl rfl,rfl⟩|exact⟨.inr rfl,rfl⟩)
theorem jz2(hA:aR A D)(O:Ops D S)(x:FA env η C K KG s)(h:XD (aG S n) η t op e=some (o,aq)):Wp A (exec (.AugAssign t op e pos) env) (XP env C K KG s o aq) s:=by
 refine aM h ?_;clear h;intro y hy h;refine kE (oX hy) λpy e'=>?_;rw[e'];refine aM h ?_;clear h;intro a ha h;refine aM h ?_;clear h;intro b hb h;refine aM h ?_;clear h;intro k hk h;refine gJ o (BZ h) λhs=>?_;refine eX (xM hk) λi j e1 e2 hk=>?_;refine kA (jAQ hk) λho hk=>?_;exact jpM hA O x (e1▸ha) (e2▸hb) ho hk hs
theorem jz4(hA:aR A D)(O:Ops D S)(x:FA env η C K KG s)(h:XF (aG S n) η e=some (o,aq)):Wp A (exec (.Return e pos) env) (XP env C K KG s o aq) s:=by
 cases e with
 |none=>cases h;exact wpAny_Return_none (Bd C .refl _ rfl .none)
 |some e=>
  have h:(match ownName e η with
   |some l=>some (.ret (.lst l),η)
   | .none=>(aG S n η e).bind λv=>if v.plain then some (Out.ret v,η) else .none)=some (o,aq):=h
  cases hl:ownName e η with
  |some l=>rw[hl] at h;cases h;exact jjw x hl
  |none=>
   rw[hl] at h;refine aM h ?_;clear h;intro v hv h;refine cY h ?_;clear h;intro hp h;cases h;exact jpS hA O x hv hp
theorem jxV(hA:aR A D)(O:Ops D S)(x:FA env η C K KG s)(hline:(ap.endLine==p.line)=true)(hd:(y==("__debug__":Str))=false)(hy:look y η=some (.own l))(h:XH (aG S n) η y m args l=some (o,aq)):
  Wp A (exec (.Expr (.Call (.Attribute (.Name y py) m ap) args [] p) pos) env) (XP env C K KG s o aq) s:=by
 by_cases hm:(m==("append":Str))=true
 ·refine aM ((aX hm).symm.trans h) ?_;intro a ha h;refine aM h ?_;clear h;intro v hv h;refine cY h ?_;clear h;intro hq h;refine fM hq ?_;clear hq;intro q1 q2;refine gJ o (BZ h) λhs=>?_;rw[bO.mp hm,gQ ha];exact jjv hA O x hline hd hy hv q1 q2 hs
 ·exact nn ((aZ hm).symm.trans h)
theorem jxU(hA:aR A D)(O:Ops D S)(x:FA env η C K KG s)(h:XJ (aG S n) η e=some (o,aq)):Wp A (exec (.Expr e pos) env) (XP env C K KG s o aq) s:=by
 refine aM h ?_;clear h;intro c hc h;refine aM h ?_;clear h;intro q hq h;have ec:=Xy hc;have eq:=JS hq;by_cases hk:c.2.2.1.isEmpty=true
 ·refine aM ((aX hk).symm.trans h) ?_;intro y hy h;refine kA (Ld h) λhd h=>?_;refine fM hd ?_;clear hd;intro h1 h2;refine aM h ?_;clear h;intro l hl h;refine kE (oX hy) λpy ey=>?_;rw[ec,eq,ey,qj.mp hk];exact jxV hA O x h1 (by simpa using h2) (Xx hl) h
 ·refine mH ((aZ hk).symm.trans h) ?_;intro v hv h;cases h;rw[ec] at hv⊢;exact O6 (Wp.mono ((sound hA O n).1 η _ env C K KG s v x hv) λu s₁ q=>cG C (.ext q.1) rfl (x.ext q.1)) x.wY yM
theorem jz3(hA:aR A D)(O:Ops D S)(hX:SX A S n)(x:FA env η C K KG s)
  (h:(if ob.isEmpty&&JZ it then((aG S n η it).bind (Bk S.gens)).bind λitems=>dD (λη=>dK (bh S n) η body) tgt η items else .none)=some (o,aq)):Wp A (exec (.For tgt it body ob pos) env) (XP env C K KG s o aq) s:=by
 refine cY h ?_;clear h;intro hc h;refine fM hc ?_;clear hc;intro h1 hc;refine aM h ?_;clear h;intro items hi h;refine aM hi ?_;clear hi;intro pa hpa hi;rw[qj.mp h1];have Wl:∀env x,foldedSetIterable it env x=pure x:=λenv x=>by cases it<;>first|exact rfl|exact absurd hc Af
 cases pa with
 |gen l=>
  refine cY (show(if S.gens then some l else .none)=some items from hi) ?_;intro hg hi;cases hi;exact jmV hA O hg hX x (Wl env) hpa h
 |_=>exact jpP hA O hX x (Wl env) hpa hi h
end
theorem mV(hA:aR A D)(O:Ops D S)(n:Nat):SX A S n:=by
 induction n with
 |zero=>intro η st env C K KG s o aq x h;exact nn h
 |succ n hX=>
  intro η st env C K KG s o aq x h;cases st with
  |Assign jVd e pos=>exact jsF hA O x h|AugAssign t op e pos=>exact jz2 hA O x h
  |If t b ob pos=>
   refine aM h ?_;clear h;intro c hc h;exact jsn hA O hX x hc h
  |Return e pos=>exact jz4 hA O x h|Expr e pos=>exact jxU hA O x h|For tgt it body ob pos=>exact jz3 hA O hX x h
  |Try b hs ob fb pos=>
   refine gJ o (BZ h) λhs=>?_;exact O.hand A env C K KG s _ η _ hA x hs
  |_=>exact nn h
end
noncomputable def Cd(sc:Scope):Bool:=sc.names.all λx=>sc.names.lookup x.1==some x.2&&x.2 != .free
section
theorem jq2(h:Cd sc=true):∀y k,(y,k)∈sc.names->sc.names.lookup y=some k/\k≠.free:=λy k hm=>by
 simp only[Cd,cU,eN,bO,Iu,ne_eq] at h;exact h (y,k) hm
theorem FA.entry(x:Here C s)(hd:Cd sc=true)(hfn:sc.kind=.function)(hs₁:s₁={s with heap:=pushCells (s.heap.push {cls:=.type "frame",data:=.dict #[]}) sc.names})
  (he:env.scope=sc/\env.locals=s.heap.objs.size/\env.globals=mainGlobals/\env.builtins=builtinsNs/\env.cells=cellsFrom (s.heap.objs.size+1) sc.names []):
  FA env [bQ sc] (λb=>C b/\¬(s.heap.objs.size<=b/\b<s₁.heap.objs.size)) (λb=>b<s.heap.objs.size) (λi=>i<s.gens.size) s₁/\aA s s₁:=by
 refine rm he λc1 c2 c3 c4 c5=>?_;have hn:=jq2 hd;have hsz:(s.heap.push {cls:=.type "frame",data:=.dict #[]}).objs.size=s.heap.objs.size+1:=fK ..;have hlt:s.heap.objs.size<s₁.heap.objs.size:=by
  have:=Gz sc.names (s.heap.push {cls:=.type "frame",data:=.dict #[]});rw[hs₁];show s.heap.objs.size<(pushCells _ _).objs.size;lia
 have e:aA s s₁:=by rw[hs₁];exact aA.of (s:=s) (t:=s.toks) (λb o g=>Ek _ _ b o (fO _ g)) (by have:=Gz sc.names (s.heap.push {cls:=.type "frame",data:=.dict #[]});lia)
 have ca:CellsAre (s.heap.push {cls:=.type "frame",data:=.dict #[]}) s₁.heap sc.names [] env.cells:=by
  have:=ZX sc.names (s.heap.push {cls:=.type "frame",data:=.dict #[]}) [] (λy c hc=>by simp at hc) (λy z c hy=>by simp at hy);rw[hsz,←c5] at this;rw[hs₁];exact this
 have nh:∀b,s.heap.objs.size<=b->V.h₀.get? b=none:=λb hb=>by
  cases hq:V.h₀.get? b with|none=>rfl|some o=>exact absurd (hls (x.base b o hq)) (bw hb)
 have PN:∀y p,look y [bQ sc]=some p->False:=λy p hy=>by
  have:=(BW hy).2;simp[look] at this
 refine⟨⟨by rw[c1];exact hfn,c3,c4,λy k hy=>?_,fW (λZ=>none) (λZ=>.none) ?_ (λy p hy=>(PN y p hy).elim) (λy l a hy=>(PN y _ hy).elim) (λy z l l' hy=>(PN y _ hy).elim),λy hy=>?_,ca.apart,λb hb=>⟨x.cJ b (aF (fL hlt) hb),λq=>absurd q.2 (bw hb)⟩,?_,λy c hk hc=>?_,⟨λb hb=>qT hb hlt,λi hi=>bJ hi e.cV⟩,λg hg=>?_,λb o hb=>e.heap (x.base b o hb),e.bare x.bare,λb o hb=>hls (x.base b o hb)⟩,e⟩
 ·have hy':sc.names.lookup y=some k:=hy;show env.scope.names.lookup y=_;rw[c1,hy'];have:=(hn y k (mem_of_lookup hy')).2;cases k<;>first|rfl|exact absurd rfl this
 ·rw[c2,hs₁];exact(Heap.Ns.new s.heap (.type "frame")).keeps (Ek _ _)
 ·have hy':sc.names.lookup y=some .cell:=by rw[←c1];exact hy
  refine eO (ca.own y (mem_of_lookup hy')) λc q1 Z q3=>?_;exact fP c none q1 q3
 ·rw[c2];exact⟨λq=>q.2 ⟨aN _,hlt⟩,pQ _,nh _ (aN _)⟩
 ·rcases ca.high y c hc with q|q
  ·rw[hsz] at q;have q':s.heap.objs.size<=c:=pP q;exact⟨λr=>r.2 ⟨q',ca.lt y c hc⟩,bw q',nh _ q'⟩
  ·simp at q
 ·simp only[oG] at hg;subst hg;simp[bQ]
end
section
theorem jff{C K:AP}{KG:NP}(f:Str×Value->PUnit->Sem (ForInStep PUnit))(hf:∀n v u,f (n,v) u=(do storeName env n v;pure (.yield ⟨⟩))):∀(params:List Str) (l:LV) (us:List Value) (η aq:ME) (s:Shared),cH (params.map λx=>PySem.Expr.Name x default) l η=some aq->aV C s.heap l us->FA env η C K KG s->
  Wp A (forIn (params.zip us) PUnit.unit f) (λZ s'=>aC (f9 env η) no s s'/\FA env aq C K KG s') s:=by
 intro params;induction params with
 |nil=>
  intro l us η aq s h hv x;refine kA (xJ h) λeq1 eq2=>?_;subst eq1;subst eq2;rw[hv.jg];exact bc ⟨aC.refl,x⟩
 |cons t ts ih=>
  intro l us η aq s h hv x;obtain⟨y,py,p,r,aD,e',rfl,hp,h1,h⟩:=xK h;cases e';obtain⟨v,us,rfl,hv,hvs⟩:=hv.gh;have oA:=lQ hp;rw[Ol,An,hf];refine tbn (tbn (Wp.mono (x.store h1 oA.1 (VX.of hv) λl' e=>absurd e (oA.2 l')) λZ s₁ q=>bc ?_));exact Wp.mono (ih r us aD aq s₁ h (x.PT q.1 hvs) q.2.2.2) λZ s₂ r=>⟨q.1.trans (aC.mono r.1 (λb Z w=>(GD (λz=>(mO (y:=z) h1 x.wf).2.2.1 z) b).mp w) λZ Z g=>g),r.2⟩
theorem aR.deeper(x:aR A (d+1)):aR (A.deeper env) d:=by
 obtain⟨h1,h2,h3⟩:=x;refine⟨h1,?_,?_⟩
 ·show A.depth+1+d<_;lia
 ·show A.units+3+12*d+60<_;lia
theorem jg9(params:List Str)(l:LV)(η aq:ME)(h:cH (params.map λx=>PySem.Expr.Name x default) l η=some aq):params.length=l.length:=by
 have:=jo7 _ _ _ _ h;simpa using this
end
section
theorem jr7(h:cX i=true):Builtin.Int.intBits i<=64:=by
 have ⟨h1,h2⟩:=bD h;have h1:=dB h1;have h2:=dB h2;unfold Builtin.Int.intBits;by_cases h0:i.natAbs=0
 ·simp[h0];split<;>lia
 ·have:i.natAbs.log2<63:=(Nat.log2_lt h0).mpr (by omega)
  first
   |omega
   |(simp;omega)
   |(split<;>lia)
theorem Le(h:sV i=some p):p=.int i:=by
 cases h;rfl
theorem jtF(h:iR op (.int i) (.int j)=some p):Wp A (binaryOp op (.int i ti) (.int j tj)) (λv s'=>∃k t,p=.int k/\v=.int k t/\aA s s') s:=by
 have fin:∀k,p=.int k->(∃k' t,p=.int k'/\Value.int k s.toks=.int k' t/\aA s {s with toks:=s.toks+1}):=λk e=>jT k _ e rfl aA.toks;cases op with
 |Add=>exact add_int (fin _ (Le h))|Sub=>exact sub_int (fin _ (Le h))
 |Mult=>
  refine kA (dq (show(if cX i then sV (i*j) else .none)=some p from h)) λhc h=>?_;exact mul_int (fin _ (Le h)) (IntMulOk.of_left (jr7 hc))
 |Mod=>
  refine kA (Bg (show(if j==0 then .none else some (.int (Int.fmod i j)))=some p from h)) λhc h=>?_;exact mod_int (gD.mp hc) (fin _ (ir h).symm)
 |FloorDiv=>
  refine kA (Bg (show(if j==0 then .none else if decide (j.natAbs<1073741824) then some (.int (Int.fdiv i j)) else .none)=some p from h)) λhc h=>?_;refine kA (dq h) λhb h=>?_;exact floordiv_int (gD.mp hc) (fin _ (ir h).symm) (.inl (PyProof.noPylong_small (dB hb)))
 |Pow=>
  refine kA (dq (show(if decide (0<=j)&&decide (j<=60)&&i==2 then some (.int (2 ^ j.toNat)) else .none)=some p from h)) λhc h=>?_;refine kA (bD hc) λhc h3=>?_;refine kA (bD hc) λh1 h2=>?_;rw[bO.mp h3];have h2:=dB h2;exact pow_int_small (dB h1) (by clear fin h;omega) ∅ (fin _ (ir h).symm)
 |_=>exact nn h
theorem jrx(h:iR op (.int i) (.int j)=some (.int k))(ho:op=.Add\/op=.Sub):Wp A (inplaceOp op (.int i ti) (.int j tj)) (λv s'=>(∃t,v=.int k t)/\aA s s') s:=by
 rcases ho with rfl|rfl<;>cases h
 ·exact iadd_int ⟨⟨_,rfl⟩,aA.toks⟩
 ·exact isub_int ⟨⟨_,rfl⟩,aA.toks⟩
theorem jw3(h:sV (-i)=some (.int k)):Wp A (unaryOp .USub (.int i t)) (λv s'=>(∃t,v=.int k t)/\aA s s') s:=by
 cases Le h;exact neg_int ⟨⟨_,rfl⟩,aA.toks⟩
end
section
theorem jfN(h:lH l=some p):p=.str l/\aL l.length=true:=by
 have ⟨h1,h2⟩:=dq (show(if aL l.length then some (.str l) else .none)=some p from h);exact⟨(ir h2).symm,h1⟩
theorem Sq(x y:List Nat):(⟨x.toArray⟩:Str)++(⟨y.toArray⟩:Str)=⟨(x++y).toArray⟩:=by
 show Str.append _ _=_
 first
  |(simp[Str.append])
  |rfl
theorem jlW(h:iR .Add (.str x) (.str y)=some p):Wp A (binaryOp .Add (.str ⟨x.toArray⟩ t) (.str ⟨y.toArray⟩ u)) (λv s'=>∃k t,p=.str k/\v=.str ⟨k.toArray⟩ t/\aA s s') s:=by
 refine gJ p (jfN (show lH (x++y)=some p from h)) λhl=>?_;refine add_str (λt' tk=>jT (x++y) t' rfl (by rw[Sq]) aA.toks) ?_;rw[bz] at hl;exact ph hl
theorem str_beq(x y:List Nat):((⟨x.toArray⟩:Str)==⟨y.toArray⟩)=(x==y):=by
 rw[qX];simp
end
section
theorem ju0{C:AP}{lo aY:Nat}{p:PV}{v:Value}(x:VX C lo aY s p v):(v== .none)=p.isNone:=by
 have y:=x.iv;cases p with|none=>rw[show v=.none from y];rfl|bool=>rw[show v=.bool _ from y];rfl|typ=>rw[show v=.type _ from y];rfl|int=>refine cR v y λt=>?_;rfl|str=>refine cR v y λt=>?_;rfl|_=>refine kE (x.ref rfl) λt e=>?_;rw[e];rfl
end
section
theorem It.ofList(hne:ax≠I)(hax:C ax/\ax<hi)(hI:hi<=I)(hpl:∀pv∈l,pv.plain=true):
  It C hi I l (λb=>b=I) (λb=>b=I\/(C b/\b<hi)) no
   (λi s=>s.heap.IsListIter I ax i/\s.heap.IsList ax vs.toArray/\aV (λb=>C b/\b<hi) s.heap l vs) where
 item:=λA i s pv hA hx st=>by
  refine aH (st.2.2.get hx) λv hv Vw=>?_;have hv':vs.toArray[i]?=some v:=by simpa using hv
  refine Wp.mono (j4 (wpAny_pyNext_list_item st.1 st.2.1 hv' (Q:=λr s'=>∃h',r=some v/\h'.IsListIter I ax (i+1)/\Heap.SameBut I s.heap h'/\s'={s with heap:=h'}) λh' h1 h2=>⟨h',rfl,h1,h2,rfl⟩)) λr s' q=>?_;refine JF q λqs h' eq1 h1 h2 eq2=>?_;subst eq1;subst eq2;have e:aC (λb=>b=I) no s {s with heap:=h'}:=⟨λb o nb g=>h2.extBut b o nb g,qs.1,λZ Z Z g=>g,qs.2,id,rfl⟩;have nI:∀b,b=I->¬(C b/\b<hi):=λb q r=>absurd r.2 (bw (q▸hI));refine⟨v,rfl,?_,⟨h1,st.2.1.extBut h2.extBut hne,st.2.2.cC e nI⟩,e⟩;exact(Vw.cC e nI).mono λb o c g=>⟨⟨c.1,λq=>nI b q c,.inl c.2⟩,g⟩
 done:=λA s hA st=>by
  have hx:vs.toArray[l.length]?=none:=by simp[st.2.2.length]
  refine Wp.mono (j4 (wpAny_pyNext_list_end hA.handled st.1 st.2.1 hx (Q:=λr s'=>∃h',r=none/\Heap.ExtBut I s.heap h'/\s'={s with heap:=h'}) λh' h1=>⟨h',rfl,h1,rfl⟩)) λr s' q=>?_;refine vD q λqs h' eq1 h1 eq2=>?_;subst eq1;subst eq2;exact⟨rfl,λb o nb g=>h1 b o nb g,qs.1,λZ Z Z g=>g,qs.2,id,rfl⟩
 self:=λA i s hA st=>wpAny_pyIter_listiter st.1 ⟨rfl,st,aC.refl⟩
 quiet:=λi s st=>by
  refine eO st.1 λo ho hc Z=>?_;refine⟨o,ho,λn hn=>?_⟩;rw[hc] at hn;cases hn;decide
 frame:=λi s s' st hk Z=>by
  refine⟨st.1.at λo g=>hk I o (.inl rfl) g,st.2.1.at λo g=>hk ax o (.inr hax) g,st.2.2.mono λb o c g=>⟨c,hk b o (.inr c) g⟩⟩
 plain:=hpl
end
section
theorem VR.isPlain(x:VR C h p v):p.plain=true:=by cases x<;>rfl
theorem aV.isPlain(x:aV C h l vs)(p:PV)(hp:p∈l):p.plain=true:=by
 refine kE (List.mem_iff_getElem?.mp hp) λi hi=>?_;refine aH (x.get hi) λu Z hr=>?_;exact hr.isPlain
theorem VR.jIa(x:VR C h (.lst l) v):∃a vs,v=.ref a/\C a/\cj h a (List.toArray vs)/\aV C h l vs:=by cases x;exact fW _ _ rfl (‹_›) (‹_›) (‹_›)
theorem VR.Xe(x:VR C h (.tup l) v):∃a vs,v=.ref a/\C a/\iV h a (List.toArray vs)/\aV C h l vs:=by cases x;exact fW _ _ rfl (‹_›) (‹_›) (‹_›)
theorem joB(hh:Here C s)(e:aA s0 s)(x:VR C s.heap (.lst l) v):
  Wp A (pyIter v) (λit s'=>aA s0 s'/\Ready C s0.heap.objs.size s0.gens.size s' l it) s:=by
 refine dZ x.jIa λa vs eq1 hc hl hvs=>?_;subst eq1;have hlt:a<s.heap.objs.size:=by refine aH hl λo ho Z=>?_;exact hls ho
 refine wpAny_pyIter_list hl.isList ?_;have e₁:aA s {s with heap:=s.heap.push {cls:=.type "list_iterator",data:=.fields #[.ref a,.int 0 0]}}:=aA.jt;refine JP (e.trans e₁) s.heap.objs.size s.heap.objs.size _ _ _ _ rfl (It.ofList (vs:=vs) (iI hlt) ⟨hc,hlt⟩ (aN _) hvs.isPlain) ⟨(cG _ (iJ _ rfl) rfl rfl),?_,?_⟩ e₁.size (λb q=>?_) (λb q=>?_) (λb q=>.inl q) (λi q=>False.elim q)
 ·refine ju hl λo ho n bB=>?_;subst bB;exact JL _ (e₁.heap ho) rfl n rfl
 ·exact hvs.mono λb o c g=>⟨⟨c,hls g⟩,e₁.heap g⟩
 ·subst q;exact⟨e.size,by show _<(s.heap.push _).objs.size;rw[fK];exact jo _⟩
 ·rcases q with rfl|q
  ·exact⟨.inl rfl,by show _<(s.heap.push _).objs.size;rw[fK];exact jo _⟩
  ·exact⟨.inr q.1,bJ q.2 e₁.size⟩
end
section
theorem It.jHy(hne:ax≠I)(hax:C ax/\ax<hi)(hI:hi<=I)(hpl:∀pv∈l,pv.plain=true):
  It C hi I l (λb=>b=I) (λb=>b=I\/(C b/\b<hi)) no
   (λi s=>s.heap.IsTupleIter I ax i/\s.heap.IsTuple ax vs.toArray/\aV (λb=>C b/\b<hi) s.heap l vs) where
 item:=λA i s pv hA hx st=>by
  refine aH (st.2.2.get hx) λv hv Vw=>?_;have hv':vs.toArray[i]?=some v:=by simpa using hv
  refine Wp.mono (j4 (wpAny_pyNext_tuple_item st.1 st.2.1 hv' (Q:=λr s'=>∃h',r=some v/\h'.IsTupleIter I ax (i+1)/\Heap.SameBut I s.heap h'/\s'={s with heap:=h'}) λh' h1 h2=>⟨h',rfl,h1,h2,rfl⟩)) λr s' q=>?_;refine JF q λqs h' eq1 h1 h2 eq2=>?_;subst eq1;subst eq2;have e:aC (λb=>b=I) no s {s with heap:=h'}:=⟨λb o nb g=>h2.extBut b o nb g,qs.1,λZ Z Z g=>g,qs.2,id,rfl⟩;have nI:∀b,b=I->¬(C b/\b<hi):=λb q r=>absurd r.2 (bw (q▸hI));refine⟨v,rfl,?_,⟨h1,st.2.1.extBut h2.extBut hne,st.2.2.cC e nI⟩,e⟩;exact(Vw.cC e nI).mono λb o c g=>⟨⟨c.1,λq=>nI b q c,.inl c.2⟩,g⟩
 done:=λA s hA st=>by
  have hx:vs.toArray[l.length]?=none:=by simp[st.2.2.length]
  refine Wp.mono (j4 (wpAny_pyNext_tuple_end hA.handled st.1 st.2.1 hx (Q:=λr s'=>∃h',r=none/\Heap.ExtBut I s.heap h'/\s'={s with heap:=h'}) λh' h1=>⟨h',rfl,h1,rfl⟩)) λr s' q=>?_;refine vD q λqs h' eq1 h1 eq2=>?_;subst eq1;subst eq2;exact⟨rfl,λb o nb g=>h1 b o nb g,qs.1,λZ Z Z g=>g,qs.2,id,rfl⟩
 self:=λA i s hA st=>wpAny_pyIter_tupleiter st.1 ⟨rfl,st,aC.refl⟩
 quiet:=λi s st=>by
  refine eO st.1 λo ho hc Z=>?_;refine⟨o,ho,λn hn=>?_⟩;rw[hc] at hn;cases hn;decide
 frame:=λi s s' st hk Z=>by
  refine⟨let ⟨o,ho,r⟩:=st.1;⟨o,hk I o (.inl rfl) ho,r⟩,let ⟨o,ho,r⟩:=st.2.1;⟨o,hk ax o (.inr hax) ho,r⟩,st.2.2.mono λb o c g=>⟨c,hk b o (.inr c) g⟩⟩
 plain:=hpl
theorem jrE(hh:Here C s)(e:aA s0 s)(x:VR C s.heap (.tup l) v):
  Wp A (pyIter v) (λit s'=>aA s0 s'/\Ready C s0.heap.objs.size s0.gens.size s' l it) s:=by
 refine dZ x.Xe λa vs eq1 hc hl hvs=>?_;subst eq1;have hlt:a<s.heap.objs.size:=by refine aH hl λo ho Z=>?_;exact hls ho
 refine wpAny_pyIter_tuple hl.isTuple ?_;have e₁:aA s {s with heap:=s.heap.push {cls:=.type "tuple_iterator",data:=.fields #[.ref a,.int 0 0]}}:=aA.jt;refine JP (e.trans e₁) s.heap.objs.size s.heap.objs.size _ _ _ _ rfl (It.jHy (vs:=vs) (iI hlt) ⟨hc,hlt⟩ (aN _) hvs.isPlain) ⟨(cG _ (iJ _ rfl) rfl rfl),?_,?_⟩ e₁.size (λb q=>?_) (λb q=>?_) (λb q=>.inl q) (λi q=>False.elim q)
 ·refine ju hl λo ho n bB=>?_;subst bB;exact JL _ (e₁.heap ho) rfl n rfl
 ·exact hvs.mono λb o c g=>⟨⟨c,hls g⟩,e₁.heap g⟩
 ·subst q;exact⟨e.size,by show _<(s.heap.push _).objs.size;rw[fK];exact jo _⟩
 ·rcases q with rfl|q
  ·exact⟨.inl rfl,by show _<(s.heap.push _).objs.size;rw[fK];exact jo _⟩
  ·exact⟨.inr q.1,bJ q.2 e₁.size⟩
end
section
theorem It.ofScalar{P:Nat->Value->Prop}{St:Nat->Heap->Prop}(W:∀A:Around,A.handled=none->Walks V.prog V.w A I [I] [I] l.length P St)
  (hP:∀i pv v,l[i]?=some pv->P i v->∀(C:AP) (h:Heap),VR C h pv v)(hq:∀i h,St i h->∃o,h.get? I=some o/\BL o)(hpl:∀pv∈l,pv.plain=true):
  It C hi I l (λb=>b=I) (λb=>b=I) no (λi s=>St i s.heap) where
 item:=λA i s pv hA hx st=>by
  have hlt:i<l.length:=(um.mp hx).1;refine Wp.mono (j4 ((W A hA.handled).item i s (λr s'=>∃v h' tk,r=some v/\P i v/\St (i+1) h'/\(∀b o,b∉[I]->s.heap.get? b=some o->h'.get? b=some o)/\s'={s with heap:=h',toks:=tk}) _ hlt st λv h' tk h1 h2 h3=>Qy v h' tk rfl h1 h2 h3 rfl)) λr s' q=>?_;refine kA q λqs zz=>qt zz λv h' tk eq1 h1 h2 zz=>kA zz λh3 eq2=>?_;subst eq1;subst eq2;exact⟨v,rfl,hP i pv v hx h1 _ _,h2,λb o nb g=>h3 b o (by simpa using nb) g,qs.1,λZ Z Z g=>g,qs.2,id,rfl⟩
 done:=λA s hA st=>by
  refine Wp.mono (j4 ((W A hA.handled).done s (λr s'=>∃h' tk,r=none/\(∀b o,b∉[I]->s.heap.get? b=some o->h'.get? b=some o)/\s'={s with heap:=h',toks:=tk}) _ st λh' tk h3=>jT h' tk rfl h3 rfl)) λr s' q=>?_;refine JC q λqs h' tk eq1 zz=>kA zz λh3 eq2=>?_;subst eq1;subst eq2;exact⟨rfl,λb o nb g=>h3 b o (by simpa using nb) g,qs.1,λZ Z Z g=>g,qs.2,id,rfl⟩
 self:=λA i s hA st=>(W A hA.handled).self i s _ _ st ⟨rfl,st,aC.refl⟩
 quiet:=λi s st=>hq i s.heap st
 frame:=λi s s' st hk Z=>(W {units:=0} rfl).frame i _ _ st λb hb o g=>hk b o (by simpa using hb) g
 plain:=hpl
end
section
theorem rangeSize_one(x y:Int):Builtin.Range.rangeSize x y 1=((y-x).toNat:Int):=by
 unfold Builtin.Range.rangeSize;simp only[show(1:Int)>0 from by decide,gZ,Int.ediv_one];split<;>lia
theorem jrC(e:aA s0 s)(hv:VR C s.heap (.gf x y) v)(hl:fQ (.gf x y)=some l):
  Wp A (pyIter v) (λit s'=>aA s0 s'/\Ready C s0.heap.objs.size s0.gens.size s' l it) s:=by
 refine kA (dq (show(if cX x&&cX y&&aL (y-x).toNat then some (jx x y) else .none)=some l from hl)) λhb hl=>?_
 ·cases hl;simp only[eN,cX,iw] at hb;refine rn hv.iv λa t u w eq1 hr=>?_;subst eq1;refine wpAny_pyIter_range hr (small_one (by omega) (by omega) (by omega) (by omega)) ?_;rw[rangeSize_one];have e₁:aA s {s with heap:=s.heap.push {cls:=.type "range_iterator",data:=.fields #[rawInt x,rawInt ((y-x).toNat:Int),rawInt 1]}}:=aA.jt;have hlen:(jx x y).length=(y-x).toNat:=by simp[jx]
  refine JP (e.trans e₁) s.heap.objs.size s.heap.objs.size _ _ _ _ rfl (It.ofScalar (P:=λi v=>∃t,v=.int (x+i*1) t) (St:=λi h=>IsRangeIter h s.heap.objs.size (x+(i:Nat)*1) (((jx x y).length:Int)-(i:Nat)) 1) (λA hA=>Walks.range hA _ x 1 _) (λi pv v hi hP C h=>?_) (λi h st=>aW _ st (λn hn=>by cases hn;decide)) (λpv hp=>?_)) ?_ e₁.size (λb q=>?_) (λb q=>?_) (λb q=>q) (λi q=>False.elim q)
  ·refine cR v hP λt=>?_;simp only[jx,uo] at hi;cases hi':(List.range (y-x).toNat)[i]? with
   |none=>rw[hi'] at hi;exact nn hi
   |some k=>
    rw[hi'] at hi;have hk:k=i:=by
     have:=um.mp hi';refine kE this λh1 h2=>?_;simpa using h2.symm
    subst hk;cases hi;rw[Int.mul_one];exact .int _ _
  ·simp only[jx,gY] at hp;refine eY pv hp λk Z=>?_;rfl
  ·show IsRangeIter _ _ _ _ _;rw[hlen];have h1:x+((0:Nat):Int)*1=x:=by lia
   have h2:(((y-x).toNat:Nat):Int)-((0:Nat):Int)=((y-x).toNat:Int):=by lia
   rw[h1,h2];exact iJ _ rfl
  ·subst q;exact⟨e.size,by show _<(s.heap.push _).objs.size;rw[fK];exact jo _⟩
  ·subst q;exact⟨.inl rfl,by show _<(s.heap.push _).objs.size;rw[fK];exact jo _⟩
end
section
theorem jrD(e:aA s0 s)(hv:VR C s.heap (.str x) v):
  Wp A (pyIter v) (λit s'=>aA s0 s'/\Ready C s0.heap.objs.size s0.gens.size s' (x.map λc=>.str [c]) it) s:=by
 refine cR v hv.iv λt=>?_;have hlen:(x.map λc=>PV.str [c]).length=(⟨x.toArray⟩:Str).cps.size:=by simp
 have hP:∀i pv v,(x.map λc=>PV.str [c])[i]?=some pv->SignAt ⟨x.toArray⟩ i v->∀(C:AP) (h:Heap),VR C h pv v:=λi pv v hi hs C h=>by
  refine eV hs λc u hc bB=>?_;subst bB;have hc':x[i]?=some c:=by simpa using hc
  simp only[uo,hc'] at hi;cases hi;exact .str [c] u
 have hpl:∀pv∈(x.map λc=>PV.str [c]),pv.plain=true:=λpv hp=>by
  refine eY pv (gY.mp hp) λk Z=>?_;rfl
 have fin:∀ty:String,(ty="str_ascii_iterator"\/ty="str_iterator")->aA s0 {s with heap:=s.heap.push {cls:=.type ty,data:=.fields #[.str ⟨x.toArray⟩ t,.int 0 0]}}/\
   Ready C s0.heap.objs.size s0.gens.size {s with heap:=s.heap.push {cls:=.type ty,data:=.fields #[.str ⟨x.toArray⟩ t,.int 0 0]}} (x.map λc=>.str [c]) (.ref s.heap.objs.size):=λty hty=>by
  have e₁:aA s {s with heap:=s.heap.push {cls:=.type ty,data:=.fields #[.str ⟨x.toArray⟩ t,.int 0 0]}}:=aA.jt;refine JP (e.trans e₁) s.heap.objs.size s.heap.objs.size _ _ _ _ rfl (It.ofScalar (P:=SignAt ⟨x.toArray⟩) (St:=λi h=>h.IsStrIter s.heap.objs.size ty ⟨x.toArray⟩ t i) (λA hA=>?_) hP (λi h st=>?_) hpl) (cG _ (iJ _ rfl) rfl rfl) e₁.size (λb q=>?_) (λb q=>?_) (λb q=>q) (λi q=>False.elim q)
  ·rw[hlen];rcases hty with rfl|rfl
   ·exact Walks.strAscii hA _ _ _
   ·exact Walks.strWide hA _ _ _
  ·refine eO st λo ho hc Z=>?_;refine aW o ho (λn hn=>?_);rw[hc] at hn;cases hn;rcases hty with rfl|rfl<;>decide
  ·subst q;exact⟨e.size,by show _<(s.heap.push _).objs.size;rw[fK];exact jo _⟩
  ·subst q;exact⟨.inl rfl,by show _<(s.heap.push _).objs.size;rw[fK];exact jo _⟩
 cases ha:(⟨x.toArray⟩:Str).cps.all (·<128) with|false=>exact wpAny_pyIter_wide ha (fin _ (.inr rfl))|true=>exact wpAny_pyIter_ascii ha (fin _ (.inl rfl))
end
section
theorem Ss(h:cX y=true): -1000000000000000000<=y/\y<=1000000000000000000:=by
 simpa only[cX,eN,iw] using h
theorem v5(h:aL n=true):n<=1000000:=dB h
theorem VR.newList(hh:Here C s)(h:aV C s.heap l vs)(tk:Nat):VR C ({s with heap:=s.heap.push {cls:=.type "list",data:=.seq vs.toArray},toks:=tk}:Shared).heap (.lst l) (.ref s.heap.objs.size):=
 .lst (hh.cJ _ (aN _)) (cj.new _ _) (aV.ext (s:=s) (s':={s with heap:=s.heap.push {cls:=.type "list",data:=.seq vs.toArray},toks:=tk}) aA.push h)
theorem jjS(hh:Here C s)(ha:VR C s.heap (.lst x) a)(hb:VR C s.heap (.lst y) b)(h:iR .Add (.lst x) (.lst y)=some p):
  Wp A (binaryOp .Add a b) (λv s'=>VR C s'.heap p v/\aA s s') s:=by
 refine gJ p (uD (show gj (x++y)=some p from h)) λhl=>?_;refine eX ha.iv λa vs eq1 nj hvs=>?_;subst eq1;obtain⟨o,ho,n,rfl⟩:=nj;refine eX hb.iv λb us eq1 nj hus=>?_;subst eq1;obtain⟨o',ho',n',rfl⟩:=nj;rw[bz,hvs.length,hus.length] at hl;refine P.add_list ho ho' ⟨?_,aA.jt⟩ (ph hl);have e:vs.toArray++us.toArray=(vs++us).toArray:=by simp
 rw[e];exact VR.newList hh (hvs.append hus) s.toks
end
section
theorem Su(h:rz l i=some x):0<=i/\i<2 ^ 63/\i<l.length/\l[i.toNat]?=some x:=by
 refine kA (Bg (show(if decide (i<0)|| !cX i then .none else l[i.toNat]?)=some x from h)) λhc h=>?_;refine kA (Ag.mp hc) λh1 h2=>?_;have h1:=Ai.mp (of_decide_eq_false h1);have hb:=Ss (by simpa using h2);have hl:i.toNat<l.length:=(um.mp h).1;exact jh h1 (by clear h h2 hc;lia) (by clear h h2 hc hb;lia) h
theorem item_list(ho:cj s.heap a vs.toArray)(hvs:aV C s.heap l vs)(h:rz l i=some p):
  Wp A (getItem (.ref a) (.int i t)) (λv s'=>s'=s/\VR C s.heap p v) s:=by
 refine cW (Su h) λh0 h1 h2 h3=>?_;refine aH (hvs.get h3) λv hv hr=>?_;exact wpAny_getItem_list ho.isList h0 h1 (by simpa using hv) ⟨rfl,hr⟩
theorem item_tup(x:VR C s.heap (.tup l) v)(h:rz l i=some p):
  Wp A (getItem v (.int i t)) (λv s'=>s'=s/\VR C s.heap p v) s:=by
 refine cP v x.iv λa vs ho hvs=>?_;refine cW (Su h) λh0 h1 h2 h3=>?_;refine aH (hvs.get h3) λv hv hr=>?_;refine getItem_tuple (j:=i.toNat) ho.isTuple (by lia) h1 (seqIndex_of h0 ?_) (by simpa using hv) ⟨rfl,hr⟩;rw[hvs.length] at h2;simpa using h2
theorem item_str(h:((rz l i).map λc=>PV.str [c])=some p):
  Wp A (getItem (.str ⟨l.toArray⟩ u) (.int i t)) (λv s'=>aA s s'/\VR C s'.heap p v) s:=by
 refine eY p (iM h) λc hn=>?_;refine cW (Su hn) λh0 h1 h2 h3=>?_;refine P.getItem_str (c:=c) ?_ ?_ ⟨aA.toks,.str [c] _⟩
 ·rw[Ag,wW,wW];clear h2 h3 hn;constructor<;>lia
 ·rw[show(⟨l.toArray⟩:Str).length=l.length from rfl,seqIndex_of h0 h2];simpa using h3
theorem fZ.gh(x:fZ C h (q::l) kvs):∃k v es,q.1=.str k/\kvs=(⟨k.toArray⟩,v)::es/\VR C h q.2 v/\fZ C h l es:=by cases x;exact Be _ _ _ rfl rfl (‹_›) (‹_›)
theorem jnQ{h:Heap}{k:List Nat}{p:PV}{l:List (PV×PV)}:∀{kvs:List (Str×Value)},fZ C h l kvs->gR k l=some p->∃v,valueAt kvs ⟨k.toArray⟩=some v/\VR C h p v:=by
 induction l with
 |nil=>intro _ _ e;exact nn e
 |cons q l ih=>
  intro kvs x e;refine qt x.gh λy v es hy eq1 hp r=>?_;subst eq1;have e:(if q.1.bV==some k then some q.2 else gR k l)=some p:=e;rw[hy] at e;have e:(if y==k then some q.2 else gR k l)=some p:=e;have hs:decide (((⟨y.toArray⟩:Str),v).1=⟨k.toArray⟩)=(y==k):=by rw[←str_beq y k];rfl
  by_cases hx:(y==k)=true
  ·cases (aX hx).symm.trans e;exact aW v (by rw[valueAt,Am,hs,hx];rfl) hp
  ·refine aH (ih r ((aZ hx).symm.trans e)) λu hu hr=>?_;have hx:=Bool.eq_false_iff.mpr hx;exact aW u (by rw[valueAt,Am,hs,hx];exact hu) hr
theorem jrA{l:List (PV×PV)}{v:Value}{k:List Nat}{t:Tok}{p:PV}(x:VR C s.heap (.dct l) v)(h:gR k l=some p):
  Wp A (getItem v (.str ⟨k.toArray⟩ t)) (λv s'=>aA s s'/\VR C s'.heap p v) s:=by
 obtain⟨a,kvs,rfl,hd,hl⟩:∃a kvs,v=.ref a/\s.heap.DictOf (strKind V.prog V.w) a kvs/\fZ C s.heap l kvs:=by cases x;exact jT _ _ rfl (‹_›) (‹_›)
 refine aH (jnQ hl h) λu hu hr=>?_;exact wpAny_getItem_of (knd:=strKind V.prog V.w) (k:=⟨k.toArray⟩) (by show(_==_)=true;simp) hd.mapOf hu ⟨aA.toks,VR.ext aA.toks hr⟩
theorem jwO(e:aA s0 s)(ha:VX C s0.heap.objs.size s0.gens.size s a va)(hk:VX C s0.heap.objs.size s0.gens.size s k vk)(h:iz a k=some p):
  Wp A (getItem va vk) (bK C s0 p) s:=by
 have int:∀{f:Int->OV},k.asInt.bind f=some p->∃i t,vk=.int i t/\f i=some p:=λh=>by
  refine aH (bx h) λi hi h=>?_;obtain⟨t,e⟩:=(PV.nF hi▸hk).iv;exact fP i t e h
 cases a with
 |str x=>
  refine eV (int h) λi t eq1 h=>?_;subst eq1;refine cR va ha.iv λu=>?_;exact Wp.mono (item_str h) λv s' q=>⟨e.trans q.1,VX.of q.2⟩
 |tup x=>
  refine eV (int h) λi t eq1 h=>?_;subst eq1;exact Wp.mono (item_tup ha h) λv s' q=>⟨q.1▸e,VX.of (q.1▸q.2)⟩
 |lst x=>
  refine eV (int h) λi t eq1 h=>?_;subst eq1;refine cP va ha.iv λa vs ho hvs=>?_;exact Wp.mono (item_list ho hvs h) λv s' q=>⟨q.1▸e,VX.of (q.1▸q.2)⟩
 |own x=>
  refine eV (int h) λi t eq1 h=>?_;subst eq1;refine cP va ha.iv λa vs ho hvs=>?_;exact Wp.mono (item_list ho hvs h) λv s' q=>⟨q.1▸e,VX.of (q.1▸q.2)⟩
 |dct x=>
  refine aH (bx h) λi hi h=>?_;obtain⟨t,rfl⟩:=(PV.fJ hi▸hk).iv;exact Wp.mono (jrA ha h) λv s' q=>⟨e.trans q.1,VX.of q.2⟩
 |_=>exact nn h
end
section
theorem jgN(lo up:Option Int)(n:Nat):sliceBounds lo up none n=(((match lo with|some i=>jw i n| .none=>0:Nat):Int),((match up with|some i=>jw i n| .none=>n:Nat):Int),1):=by
 have key:∀i:Int,max 0 (min (if i<0 then i+n else i) (n:Int))=((jw i n:Nat):Int):=λi=>(Jl (Int.le_max_left ..)).symm;cases lo<;>cases up<;>simp only[sliceBounds,Option.getD_none,show(1:Int)>0 from by decide,gZ,key]<;>rfl
theorem jlK(l:List α)(lo up:Option Int)(f:Nat->Option α)(hf:∀i,f i=l[i]?):(sliceRange (sliceBounds lo up none l.length).1 (sliceBounds lo up none l.length).2.1 (sliceBounds lo up none l.length).2.2).filterMap f=fX l lo up:=by
 have e:f=(l.toArray[·]?):=by funext i;rw[hf];simp
 rw[jgN,e];simp only[sliceRange_one,pick_run];unfold fX;rw[List.drop_take];all_goals (cases lo<;>cases up<;>rfl)
theorem jex(vs:List Value)(lo up:Option Int):slicePick vs.toArray lo up none=(fX vs lo up).toArray:=by
 unfold slicePick;rw[show vs.toArray.size=vs.length by simp,jlK vs lo up _ (λi=>by simp)]
theorem aV.cut(x:aV C h l vs)(lo up:Option Int):aV C h (fX l lo up) (fX vs lo up):=by
 unfold fX;rw[x.length];exact(x.take _).drop _
theorem jmZ(hk:1<=k):∀(n cnt:Nat) (l:List α),l.length<=n->l.length<=cnt*k->((List.range cnt).map (k*·)).filterMap (l[·]?)=rA l k n:=λn=>n.recAux
  (λcnt l h Z=>by
  have:l=[]:=Ex.mp (Nat.le_zero.mp h);subst this;show _=[];simp)
  λn ih=>fun
  |cnt,[],_,_=>by show _=[];simp|0,x::r,_,h=>by simp at h
  |cnt+1,x::r,h,hc=>by
    show _=x::rA (r.drop (k-1)) k n;rw[←ih cnt (r.drop (k-1)) (by rw[uq];exact aF (pW ..) (Ik h)) (by rw[uq];exact Nat.sub_le_of_le_add (Ik (aF hc (fH ((Ed ..).trans (aU (cnt*k+·) (Eb hk).symm))))))];rw[List.range_succ_eq_map];simp only[fu,Nat.mul_zero,jn];rw[Px (b:=x) (by simp)];congr 1;rw[Jp,Jp];congr 1;funext i;simp only[Function.comp];rw[List.getElem?_drop];have:k*(i+1)=(k-1+k*i)+1:=by rw[zY,Eb hk,Nat.mul_succ,ud]
    rw[show i.succ=i+1 from rfl,this,List.getElem?_cons_succ]
theorem aV.Ws{h:Heap}(k:Nat):∀(n:Nat) {l:LV} {vs:List Value},aV C h l vs->aV C h (rA l k n) (rA vs k n)
 |0,_,_,_=>.nil|n+1,_,_,.nil=>.nil|n+1,_,_,.cons x r=>.cons x (aV.Ws k n (r.drop _))
theorem jwj(n k:Nat)(hk:1<=k):n<=(n+(k-1)) / k*k:=by
 rw[Il];exact Oo (aF (fH (Nat.div_add_mod (n+(k-1)) k).symm) (oH (Nat.le_sub_one_of_lt (jf _ hk)) _))
theorem juu(vs:List Value)(a k:Nat):((λi=>vs.toArray[i]?)∘λi:Nat=>((a:Int)+(k:Int)*(i:Int)).toNat)=((λi=>(vs.drop a)[i]?)∘λi=>k*i):=funext λi=>by
 show vs.toArray[((a:Int)+(k:Int)*(i:Int)).toNat]?=(vs.drop a)[k*i]?;rw[List.getElem?_drop,List.getElem?_toArray];exact aU (vs[·]?) (aU Int.toNat (show(a:Int)+(k:Int)*(i:Int)=((a+k*i:Nat):Int) by rw[Jk,Int.natCast_mul]))
theorem jgG(vs:List Value)(lo st:Int)(h0:0<=lo)(h1:1<=st):slicePick vs.toArray (some lo) none (some st)=(rA (vs.drop lo.toNat) st.toNat vs.length).toArray:=by
 refine kE (Pj h0) λa bB=>?_;subst bB;refine kE (Pj (jr ∅ h1)) λk bB=>?_;subst bB;have hk:1<=k:=qZ.mp h1;have hp:(k:Int)>0:=Int.natCast_pos.mpr hk;show(List.filterMap (λi=>vs.toArray[i]?) (sliceRange (sliceBounds (some (a:Int)) none (some (k:Int)) vs.toArray.size).1 (sliceBounds (some (a:Int)) none (some (k:Int)) vs.toArray.size).2.1 (sliceBounds (some (a:Int)) none (some (k:Int)) vs.toArray.size).2.2)).toArray=_;have hb:sliceBounds (some (a:Int)) none (some (k:Int)) vs.length=(max 0 (min (a:Int) (vs.length:Int)),(vs.length:Int),(k:Int)):=by
  simp only[sliceBounds,Ef,hp,gZ,Ai.mpr h0,jH]
 rw[show vs.toArray.size=vs.length from rfl,hb];refine aU List.toArray ?_;by_cases hlt:a<vs.length
 ·have hl:(a:Int)<(vs.length:Int):=Int.ofNat_lt.mpr hlt;have e:(vs.length:Int)-a+(k:Int)-1=((vs.length-a+(k-1):Nat):Int):=by
   rw[Jk,xd (fL hlt),xd hk];exact Int.add_sub_assoc ..
  rw[Ji (w6 hl),Et h0];unfold sliceRange;rw[aX hp,aX hl,e,←Pq];have hx:=jmZ hk vs.length ((vs.length-a+(k-1)) / k) (vs.drop a) (uq▸pW ..) (uq▸jwj _ k hk);refine Eq.trans ?_ hx;show List.filterMap _ (List.map _ (List.range _))=List.filterMap _ (List.map _ (List.range _));rw[Jp,Jp];exact aU (λf=>List.filterMap f _) (juu vs a k)
 ·have hl:(vs.length:Int)<=(a:Int):=qZ.mpr (Ot hlt);rw[Int.min_eq_right hl,Et (oJ _)];unfold sliceRange;rw[aX hp,aZ (Int.lt_irrefl _),show((a:Int)).toNat=a from rfl,Ew (Ot hlt)];cases vs.length<;>rfl
theorem Ce(h:kZ o v):IsPart v o:=by
 cases o with
 |none=>cases h;exact .none
 |some i=>refine cR v h λt=>?_;exact .int i t
end
set_option tactic.hygienic true
section
variable{A:Around}{s:Shared}{C:AP}
theorem GF{v:Value}{T id:String}(hT:s.TypeIs v T)(hl:typeLookup (.type T) "__getitem__"=pure (some (.builtin id))):Wp A (getitemInPython v) (λr s'=>r=false/\s'=s) s:=by
 unfold getitemInPython;refine tbn (Eo hT hl ?_);exact bc ⟨rfl,rfl⟩
theorem iV.typ(x:iV s.heap a its):s.TypeIs (.ref a) "tuple":=by
 refine ju x λo ho n bB=>?_;subst bB;exact aW _ ho rfl
theorem cj.typ(x:cj s.heap a its):s.TypeIs (.ref a) "list":=by
 refine ju x λo ho n bB=>?_;subst bB;exact aW _ ho rfl
theorem VR.jId(x:VR C s.heap (.dct l) v):s.TypeIs v "dict":=by
 cases x;rename_i a kvs hc sm hd hl;exact hd.typeIs
noncomputable def subs:PV->Bool
 | .lst _=>true| .own _=>true| .tup _=>true| .str _=>true| .dct _=>true|_=>false
theorem jox{lo aY:Nat}{a:PV}{v:Value}(x:VX C lo aY s a v)(h:subs a=true):Wp A (getitemInPython v) (λr s'=>r=false/\s'=s) s:=by
 cases a with|str=>refine cR v x.iv λt=>?_;exact GF (typeIs_str s _ _) F.slot_str_getitem.lookup|tup=>refine cP v x.iv λa vs ho Z=>?_;exact GF ho.typ slot_tuple_getitem.lookup|lst=>refine cP v x.iv λa vs ho Z=>?_;exact GF ho.typ slot_list_getitem.lookup|own=>refine cP v x.iv λa vs ho Z=>?_;exact GF ho.typ slot_list_getitem.lookup|dct=>exact GF (VR.jId x) slot_dict_getitem.lookup|_=>exact nf h
theorem jru:iz a k=some p->subs a=true:=by cases a<;>first|exact nn|exact λZ=>rfl
theorem juF:gm a l u=some p->subs a=true:=by cases a<;>first|exact nn|exact λZ=>rfl
theorem juL:qy a l u=some p->subs a=true:=by cases a<;>first|exact nn|exact λZ=>rfl
theorem jmq{a k p:PV}{va:Value}{lo aY:Nat}(x:VX C lo aY s a va)(h:iz a k=some p\/(∃l u,gm a l u=some p)\/∃l u,qy a l u=some p):Wp A (getitemInPython va) (λr s'=>r=false/\s'=s) s:=by
 refine jox x ?_;rcases h with h|⟨l,u,h⟩|⟨l,u,h⟩
 ·exact jru h
 ·exact juF h
 ·exact juL h
theorem slice_list{lo up:Option Int}{l:LV}{vs:List Value}{a i:Addr}{vl vu:Value}(hh:Here C s)(ho:cj s.heap a vs.toArray)(hvs:aV C s.heap l vs)(hl:kZ lo vl)(hu:kZ up vu)
  (hi:s.heap.get? i=some {cls:=.type "slice",data:=.fields #[vl,vu,.none]})(hk:aL l.length=true):Wp A (getItem (.ref a) (.ref i)) (λv s'=>aA s s'/\VR C s'.heap (.lst (fX l lo up)) v) s:=by
 refine O9 ho.isList (cG _ hi rfl rfl) (Ce hl) (Ce hu) .none (by simp) ⟨aA.jt,?_⟩ ?_
 ·rw[jex];exact VR.newList hh (hvs.cut lo up) s.toks
 ·rw[hvs.length] at hk;exact ph hk
theorem jgp{lo st:Int}{l:LV}{v:Value}{i:Addr}{vl vt:Value}{p:PV}(hh:Here C s)(x:VR C s.heap (.lst l) v)(hl:kZ (some lo) vl)(hu:kZ (some st) vt)
  (hi:s.heap.get? i=some {cls:=.type "slice",data:=.fields #[vl,.none,vt]})(h:qy (.lst l) lo st=some p):Wp A (getItem v (.ref i)) (λv s'=>aA s s'/\VR C s'.heap p v) s:=by
 refine cP v x.iv λa vs ho hvs=>?_;refine kA (dq (show(if decide (0<=lo)&&decide (lo<=1000)&&decide (0<st)&&decide (st<=100)&&aL l.length then some (.lst (rA (l.drop lo.toNat) st.toNat l.length)) else .none)=some p from h)) λhk h=>?_;cases h;refine kA (bD hk) λhk h5=>?_;refine kA (bD hk) λhk Z=>?_;refine kA (bD hk) λhk h3=>?_;refine kA (bD hk) λh1 Z=>?_;have h3:=dB h3;refine O9 ho.isList (cG _ hi rfl rfl) (Ce hl) .none (Ce hu) (λq=>by cases q;cases h3) ⟨aA.jt,?_⟩ ?_
 ·rw[jgG _ _ _ (dB h1) h3,hvs.length];exact VR.newList hh (aV.Ws _ _ (hvs.drop _)) s.toks
 ·rw[hvs.length] at h5;exact ph h5
theorem jpd(h:kZ o v):∃q:Option (Int×Tok),v=partValue q/\q.map (·.1)=o:=by
 cases o with
 |none=>cases h;exact aW none rfl rfl
 |some i=>refine cR v h λt=>?_;exact aW (some (i,t)) rfl rfl
theorem jnO{α:Type}{l:List α}{a b:Nat}(h:((l.take b).drop a).length=l.length):(l.take b).drop a=l:=
 ((List.drop_sublist a _).trans (List.take_sublist b l)).eq_of_length h
theorem jqY{α:Type}{l:List α}{lo up:Option Int}(h:(fX l lo up).length=l.length):fX l lo up=l:=by
 unfold fX at h⊢;exact jnO h
theorem jnG(i:Int)(n:Nat):jw i n<=n:=Int.toNat_le.mpr (Int.max_le.mpr ⟨oJ n,Int.min_le_right ..⟩)
theorem jtQ(l:List α)(lo up:Option Int):(sliceRange (sliceBounds lo up none l.length).1 (sliceBounds lo up none l.length).2.1 (sliceBounds lo up none l.length).2.2).length=(fX l lo up).length:=by
 rw[jgN];have key:∀a b:Nat,b<=l.length->(sliceRange (a:Int) (b:Int) 1).length=((l.take b).drop a).length:=λa b h=>by
  rw[sliceRange_one,bH,Jr,uq,sH,pR h]
 cases up with|none=>exact key _ _ (aN _)|some j=>exact key _ _ (jnG j _)
theorem jpG{lo up:Option Int}{l:List Nat}{t:Tok}{i:Addr}{vl vu:Value}(hl:kZ lo vl)(hu:kZ up vu)
  (hi:s.heap.get? i=some {cls:=.type "slice",data:=.fields #[vl,vu,.none]})(hk:aL l.length=true):Wp A (getItem (.str ⟨l.toArray⟩ t) (.ref i)) (λv s'=>aA s s'/\VR C s'.heap (.str (fX l lo up)) v) s:=by
 refine aH (jpd hl) λql eq1 hql=>?_;subst eq1;refine aH (jpd hu) λqu eq1 hqu=>?_;subst eq1;refine wpAny_getItem_str_slice (l:=ql) (u:=qu) (st:=none) (cG _ hi rfl rfl) rfl ?_;have hlen:(⟨l.toArray⟩:Str).length=l.length:=rfl;have hp:slicePicked ⟨l.toArray⟩ ql qu none=sliceRange (sliceBounds lo up none l.length).1 (sliceBounds lo up none l.length).2.1 (sliceBounds lo up none l.length).2.2:=by
  unfold slicePicked;rw[hql,hqu,hlen];rfl
 have hc:(slicePicked ⟨l.toArray⟩ ql qu none).filterMap ((⟨l.toArray⟩:Str).cps[·]?)=fX l lo up:=by
  rw[hp];exact jlK l lo up _ λi=>by simp
 unfold sliceMade;rw[hc];split
 ·rename_i jHI;have hcl:(fX l lo up).length=l.length:=by
   rw[←jtQ l lo up,←hp,bO.mp (bD jHI).2,hlen]
  rw[jqY hcl];exact⟨aC.refl,.str l t⟩
 ·refine⟨?_,aA.toks,.str _ _⟩;exact aF ((List.drop_sublist _ _).trans (List.take_sublist _ l)).length_le (ph hk)
theorem jsl{s0:Shared}{a p:PV}{va vl vu:Value}{lo up:Option Int}{i:Addr}(hh:Here C s)(e:aA s0 s)(ha:VX C s0.heap.objs.size s0.gens.size s a va)(hl:kZ lo vl)(hu:kZ up vu)
  (hi:s.heap.get? i=some {cls:=.type "slice",data:=.fields #[vl,vu,.none]})(h:gm a lo up=some p):Wp A (getItem va (.ref i)) (bK C s0 p) s:=by
 cases a with
 |str l=>
  refine kA (dq (show(if aL l.length then some (.str (fX l lo up)) else .none)=some p from h)) λhk h=>?_;cases h;refine cR va ha.iv λt=>?_;exact Wp.mono (jpG (C:=C) hl hu hi hk) λv s' q=>⟨e.trans q.1,VX.of q.2⟩
 |lst l=>
  refine kA (dq (show(if aL l.length then some (.lst (fX l lo up)) else .none)=some p from h)) λhk h=>?_;cases h;refine cP va ha.iv λa vs ho hvs=>?_;exact Wp.mono (slice_list hh ho hvs hl hu hi hk) λv s' q=>⟨e.trans q.1,VX.of q.2⟩
 |own l=>
  refine kA (dq (show(if aL l.length then some (.lst (fX l lo up)) else .none)=some p from h)) λhk h=>?_;cases h;refine cP va ha.iv λa vs ho hvs=>?_;exact Wp.mono (slice_list hh ho hvs hl hu hi hk) λv s' q=>⟨e.trans q.1,VX.of q.2⟩
 |_=>exact nn h
theorem jpE{s0:Shared}{a p:PV}{va vl vt:Value}{lo st:Int}{i:Addr}(hh:Here C s)(e:aA s0 s)(ha:VX C s0.heap.objs.size s0.gens.size s a va)(hl:kZ (some lo) vl)(ht:kZ (some st) vt)
  (hi:s.heap.get? i=some {cls:=.type "slice",data:=.fields #[vl,.none,vt]})(h:qy a lo st=some p):Wp A (getItem va (.ref i)) (bK C s0 p) s:=by
 cases a with|lst l=>exact Wp.mono (jgp hh ha hl ht hi h) λv s' q=>⟨e.trans q.1,VX.of q.2⟩|_=>exact nn h
end
set_option tactic.hygienic false
section
open PySem.SeqAt PySem.MeetsSeq
section
variable{A:Around}{s:Shared}{C:AP}
theorem Lf:∀{l r:LV},l.length≠r.length->PV.iK l r=false:=by
 intro l;induction l with
 |nil=>intro r h;cases r with
  |nil=>exact absurd rfl h|cons=>rfl
 |cons a l ih=>
  intro r h;cases r with
  |nil=>rfl
  |cons b r=>
   show(PV.beq a b&&PV.iK l r)=false;rw[ih λe=>h (aU (·+1) e),xj]
theorem GJ:∀{l r:LV},l.length=r.length->((List.range l.length).all λj=>PV.beq (l.getD j .none) (r.getD j .none))=PV.iK l r:=by
 intro l;induction l with
 |nil=>intro r h;rw[Ex.mp h.symm];rfl
 |cons a l ih=>
  intro r h;cases r with
  |nil=>cases h
  |cons b r=>
   show _=(PV.beq a b&&PV.iK l r);rw[←ih (wU h),dC,List.range_succ_eq_map,jR,List.all_map];rfl
theorem cj.same{h:Heap}{a:Addr}{xs ys:List Value}(x:cj h a xs.toArray)(y:cj h a ys.toArray):xs=ys:=by
 refine ju x λo ho n bB=>?_;subst bB;refine ju y λo' ho' n' bB=>?_;subst bB;cases ho.symm.trans ho';rfl
theorem iV.same{h:Heap}{a:Addr}{xs ys:List Value}(x:iV h a xs.toArray)(y:iV h a ys.toArray):xs=ys:=by
 refine ju x λo ho n bB=>?_;subst bB;refine ju y λo' ho' n' bB=>?_;subst bB;cases ho.symm.trans ho';rfl
theorem VX.q9{lo aY:Nat}{l:LV}{p:PV}{v:Value}(x:VX C lo aY s p v)(hp:p=.lst l\/p=.own l):∃a vs,v=.ref a/\cj s.heap a (List.toArray vs)/\aV C s.heap l vs:=by
 rcases hp with rfl|rfl
 ·exact x.iv
 ·exact x.iv
theorem VX.Xe{lo aY:Nat}{l:LV}{v:Value}(x:VX C lo aY s (.tup l) v):∃a vs,v=.ref a/\iV s.heap a (List.toArray vs)/\aV C s.heap l vs:=x.iv
theorem Sv(h:PV.cQ (n+1) p q=true):(∃i j,p=.int i/\q=.int j)\/(∃i j,p=.str i/\q=.str j)\/(∃l r,p=.tup l/\q=.tup r/\nO (PV.cQ n) l r=true)\/
  (∃l r,(p=.lst l\/p=.own l)/\(q=.lst r\/q=.own r)/\nO (PV.cQ n) l r=true)\/∃i j,p=.bool i/\q=.bool j:=by
 rcases(ug _ _).mp (show((p.asInt.isSome&&q.asInt.isSome)||(p.bV.isSome&&q.bV.isSome)||(p.vy.isSome&&q.vy.isSome)||both (nO (PV.cQ n)) p.sO q.sO||both (nO (PV.cQ n)) p.items? q.items?)=true from h) with h|h
 ·rcases(ug _ _).mp h with h|h
  ·rcases(ug _ _).mp h with h|h
   ·rcases(ug _ _).mp h with h|h
    ·refine kA (bD h) λh1 h2=>?_;refine kE (iQ h1) λi h1=>?_;refine kE (iQ h2) λj h2=>?_;exact .inl (fP i j (PV.nF h1) (PV.nF h2))
    ·refine kA (bD h) λh1 h2=>?_;refine kE (iQ h1) λi h1=>?_;refine kE (iQ h2) λj h2=>?_;exact .inr (.inl (fP i j (PV.fJ h1) (PV.fJ h2)))
   ·refine kA (bD h) λh1 h2=>?_;refine kE (iQ h1) λi h1=>?_;refine kE (iQ h2) λj h2=>?_;exact .inr (.inr (.inr (.inr (fP i j (PV.VV h1) (PV.VV h2)))))
  ·refine eX (Xi h) λl r h1 h2 h3=>?_;exact .inr (.inr (.inl (jT l r (PV.Ae h1) (PV.Ae h2) h3)))
 ·refine eX (Xi h) λl r h1 h2 h3=>?_;exact .inr (.inr (.inr (.inl (jT l r (PV.Ep h1) (PV.Ep h2) h3))))
theorem Cg(hp:p=.lst l\/p=.own l)(hq:q=.lst r\/q=.own r):PV.beq p q=PV.iK l r:=by
 rcases hp with rfl|rfl<;>rcases hq with rfl|rfl<;>rfl
theorem jiD{n:Nat}(ih:∀{p q:PV} {v:Value},VR C s.heap p v->VR C s.heap q v->PV.cQ n p q=true->PV.beq p q=true):
  ∀{l r:LV} {vs:List Value},aV C s.heap l vs->aV C s.heap r vs->nO (PV.cQ n) l r=true->PV.iK l r=true:=by
 intro l;induction l with
 |nil=>intro r vs x y _;cases x.jg;cases y;rfl
 |cons a l ihl=>
  intro r vs x y h;obtain⟨u,us,rfl,x,xs⟩:=x.gh;cases r with
  |nil=>cases y.jg
  |cons b r=>
   refine eX y.gh λZ Z e y ys=>?_;cases e;refine kA (bD (show(PV.cQ n a b&&nO (PV.cQ n) l r)=true from h)) λh1 h2=>?_;show(PV.beq a b&&PV.iK l r)=true;rw[ih x y h1,ihl xs ys h2];rfl
theorem jqH(n:Nat):∀{lo aY:Nat} {p q:PV} {v:Value},VX C lo aY s p v->VX C lo aY s q v->PV.cQ n p q=true->PV.beq p q=true:=by
 induction n with
 |zero=>intro _ _ _ _ _ _ _ h;exact absurd h Af
 |succ n ih=>
  intro lo aY p q v x y h;have ih':∀{p q:PV} {v:Value},VR C s.heap p v->VR C s.heap q v->PV.cQ n p q=true->PV.beq p q=true:=λx y h=>ih (lo:=0) (aY:=0) (VX.of x) (VX.of y) h;rcases Sv h with ⟨i,j,rfl,rfl⟩|⟨i,j,rfl,rfl⟩|⟨l,r,rfl,rfl,hz⟩|⟨l,r,hp,hq,hz⟩|⟨i,j,rfl,rfl⟩
  ·refine kE x.iv λt bB=>?_;subst bB;refine kE y.iv λu e=>?_;cases e;exact kh (some i)
  ·refine kE x.iv λt bB=>?_;subst bB;refine kE y.iv λu e=>?_;cases e;exact kh (some i)
  ·refine eX x.iv λa vs eq1 o1 v1=>?_;subst eq1;refine eX y.iv λb us e o2 v2=>?_;cases e;cases o1.same o2;exact jiD ih' v1 v2 hz
  ·refine eX (x.q9 hp) λa vs eq1 o1 v1=>?_;subst eq1;refine eX (y.q9 hq) λb us e o2 v2=>?_;cases e;cases o1.same o2;rw[Cg hp hq];exact jiD ih' v1 v2 hz
  ·cases (show v=.bool i from x.iv).symm.trans (show v=.bool j from y.iv);exact kh (some i)
theorem jxX(hz:nO (PV.cQ n) l r=true)(h1:j<l.length)(h2:j<r.length):PV.cQ n l[j] r[j]=true:=by
 have:=cU.mp hz (l[j],r[j]) (by
  rw[List.mem_iff_getElem];exact⟨j,by simp;lia,by simp⟩)
 exact this
theorem aV.at(x:aV C h l vs)(h1:j<l.length)(h2:j<vs.length):VR C h l[j] vs[j]:=by
 obtain⟨u,hu,hr⟩:=x.get (iy h1);rw[iy h2] at hu;cases hu;exact hr
section
variable{n:Nat}{l r:LV}{vs us:List Value}
theorem Cj(ih:∀{A:Around} {p q:PV} {u v:Value},VR C s.heap p u->VR C s.heap q v->PV.cQ n p q=true->A.units+n<cLine->EqAt A s u v (PV.beq p q))
  (v1:aV C s.heap l vs)(v2:aV C s.heap r us)(hz:nO (PV.cQ n) l r=true)(hA:A.units+(n+1)<cLine):
  ∀j (h1:j<vs.toArray.size) (h2:j<us.toArray.size),EqAt A.in1 s vs.toArray[j] us.toArray[j] (PV.beq (l.getD j .none) (r.getD j .none)):=λj h1 h2=>by
 simp only[my] at h1 h2;have g1:j<l.length:=by rw[v1.length];exact h1
 have g2:j<r.length:=by rw[v2.length];exact h2
 have:=ih (A:=A.in1) (v1.at g1 h1) (v2.at g2 h2) (jxX hz g1 g2) (by show A.units+1+n<cLine;lia);simpa [g8,iy g1,iy g2] using this
end
theorem jra{n:Nat}(ih:∀{A:Around} {p q:PV} {u v:Value},VR C s.heap p u->VR C s.heap q v->PV.cQ n p q=true->A.units+n<cLine->EqAt A s u v (PV.beq p q))
  {l r:LV}{vs us:List Value}{a b:Addr}(o1:cj s.heap a vs.toArray)(o2:cj s.heap b us.toArray)(v1:aV C s.heap l vs)(v2:aV C s.heap r us)(hz:nO (PV.cQ n) l r=true)(hA:A.units+(n+1)<cLine)(hab:a≠b):
  EqAt A s (.ref a) (.ref b) (PV.iK l r):=by
 refine EqAt.of_refs hab ?_;by_cases hl:l.length=r.length
 ·rw[←GJ hl];have:=RcAt.lists (A:=A) o1.isList o2.isList (by simp only[my];rw[←v1.length,←v2.length];exact hl) (mz (by exact je ..) hA) (Cj ih v1 v2 hz hA);rw[show vs.toArray.size=l.length from v1.length.symm] at this;exact this
 ·rw[Lf hl];refine RcAt.lists_lengths o1.isList o2.isList ?_ (mz (by lia) hA);simp only[my,Iu];rw[←v1.length,←v2.length];exact hl
theorem jrb{n:Nat}(ih:∀{A:Around} {p q:PV} {u v:Value},VR C s.heap p u->VR C s.heap q v->PV.cQ n p q=true->A.units+n<cLine->EqAt A s u v (PV.beq p q))
  {l r:LV}{vs us:List Value}{a b:Addr}(o1:iV s.heap a vs.toArray)(o2:iV s.heap b us.toArray)(v1:aV C s.heap l vs)(v2:aV C s.heap r us)(hz:nO (PV.cQ n) l r=true)(hA:A.units+(n+1)<cLine)(hab:a≠b):
  EqAt A s (.ref a) (.ref b) (PV.iK l r):=by
 refine EqAt.of_refs hab ?_;have:=RcAt.tuples (A:=A) o1.isTuple o2.isTuple (mz (by exact je ..) hA) (Cj ih v1 v2 hz hA);rw[show vs.toArray.size=l.length from v1.length.symm,show us.toArray.size=r.length from v2.length.symm] at this;by_cases hl:l.length=r.length
 ·rw[←GJ hl];rw[bO.mpr hl,mF,←hl,Nat.min_self] at this;exact this
 ·rw[Lf hl];rw[gD.mpr hl,xj] at this;exact this
theorem jAp(n:Nat):∀{A:Around} {lo aY:Nat} {p q:PV} {u v:Value},VX C lo aY s p u->VX C lo aY s q v->PV.cQ n p q=true->A.units+n<cLine->EqAt A s u v (PV.beq p q):=by
 induction n with
 |zero=>intro _ _ _ _ _ _ _ _ _ h;exact absurd h Af
 |succ n ih=>
  intro A lo aY p q u v x y h hA;have ih':∀{A:Around} {p q:PV} {u v:Value},VR C s.heap p u->VR C s.heap q v->PV.cQ n p q=true->A.units+n<cLine->EqAt A s u v (PV.beq p q):=λx y h=>ih (lo:=0) (aY:=0) (VX.of x) (VX.of y) h;by_cases huv:u=v
  ·rw[jqH (n+1) x (huv▸y) h,huv];exact EqAt.same v
  rcases Sv h with ⟨i,j,rfl,rfl⟩|⟨i,j,rfl,rfl⟩|⟨l,r,rfl,rfl,hz⟩|⟨l,r,hp,hq,hz⟩|⟨i,j,rfl,rfl⟩
  ·refine cR u x.iv λt=>?_;refine cR v y.iv λt'=>?_;have:EqAt A s (.int i t) (.int j t') (i==j):=(EqGives.int i j t t').at A s;rw[uf] at this;exact this
  ·refine cR u x.iv λt=>?_;refine cR v y.iv λt'=>?_;have:EqAt A s (.str ⟨i.toArray⟩ t) (.str ⟨j.toArray⟩ t') (i==j):=(SeqRoads2.EqGives.str (⟨i.toArray⟩:Str) ⟨j.toArray⟩ t t').at A s;rw[uf] at this;exact this
  ·refine eX x.iv λa vs eq1 o1 v1=>?_;subst eq1;refine eX y.iv λb us eq1 o2 v2=>?_;subst eq1;exact jrb ih' o1 o2 v1 v2 hz hA λe=>huv (e▸rfl)
  ·refine eX (x.q9 hp) λa vs eq1 o1 v1=>?_;subst eq1;refine eX (y.q9 hq) λb us eq1 o2 v2=>?_;subst eq1;rw[Cg hp hq];exact jra ih' o1 o2 v1 v2 hz hA λe=>huv (e▸rfl)
  ·cases (show u=.bool i from x.iv);cases (show v=.bool j from y.iv);have:EqAt A s (.bool i) (.bool j) (i==j):=EqAt.bool_bool i j;rw[uf] at this;exact this
end
end
section
open PySem.SeqAt PySem.MeetsSeq
section
section
theorem Lg(n:Nat):∀{A:Around} {p q:PV} {u v:Value},VR C s.heap p u->VR C s.heap q v->PV.cQ n p q=true->A.units+n<cLine->EqAt A s u v (PV.beq p q):=
 λx y h=>jAp n (lo:=0) (aY:=0) (VX.of x) (VX.of y) h
theorem jwq(o1:cj s.heap a vs.toArray)(o2:cj s.heap b us.toArray)(v1:aV C s.heap l vs)(v2:aV C s.heap r us)(hz:nO (PV.cQ n) l r=true)(hA:A.units+(n+1)<cLine):
  Wp A (compareOp .Eq (.ref a) (.ref b)) (λv s'=>v=.bool (PV.iK l r)/\s'=s) s/\Wp A (compareOp .NotEq (.ref a) (.ref b)) (λv s'=>v=.bool (!PV.iK l r)/\s'=s) s:=by
 by_cases hl:l.length=r.length
 ·have e1:vs.toArray.size=us.toArray.size:=by simp only[my];rw[←v1.length,←v2.length];exact hl
  have e2:vs.toArray.size=l.length:=by simp[v1.length]
  constructor
  ·refine RcAt.lists (A:=A) o1.isList o2.isList e1 (by lia) (Cj (Lg n) v1 v2 hz hA) V.prog V.w _ _ ⟨?_,rfl⟩;rw[e2,GJ hl]
  ·refine RcNeAt.lists (A:=A) o1.isList o2.isList e1 (by lia) (Cj (Lg n) v1 v2 hz hA) V.prog V.w _ _ ⟨?_,rfl⟩;rw[e2,GJ hl]
 ·have e1:(vs.toArray.size !=us.toArray.size)=true:=by
   simp only[my,Iu];rw[←v1.length,←v2.length];exact hl
  rw[Lf hl];exact⟨RcAt.lists_lengths (A:=A) o1.isList o2.isList e1 (by lia) V.prog V.w _ _ ⟨rfl,rfl⟩,RcNeAt.lists_lengths (A:=A) o1.isList o2.isList e1 (by lia) V.prog V.w _ _ ⟨rfl,rfl⟩⟩
theorem jwr(o1:iV s.heap a vs.toArray)(o2:iV s.heap b us.toArray)(v1:aV C s.heap l vs)(v2:aV C s.heap r us)(hz:nO (PV.cQ n) l r=true)(hA:A.units+(n+1)<cLine):
  Wp A (compareOp .Eq (.ref a) (.ref b)) (λv s'=>v=.bool (PV.iK l r)/\s'=s) s/\Wp A (compareOp .NotEq (.ref a) (.ref b)) (λv s'=>v=.bool (!PV.iK l r)/\s'=s) s:=by
 have key:((List.range (min vs.toArray.size us.toArray.size)).all (λj=>PV.beq (l.getD j .none) (r.getD j .none))&&vs.toArray.size==us.toArray.size)=PV.iK l r:=by
  rw[show vs.toArray.size=l.length by simp[v1.length],show us.toArray.size=r.length by simp[v2.length]];by_cases hl:l.length=r.length
  ·rw[←GJ hl,show min l.length r.length=l.length by lia];simp[hl]
  ·rw[Lf hl];have e:(l.length==r.length)=false:=by simpa using hl
   rw[e,xj]
 constructor
 ·exact RcAt.tuples (A:=A) o1.isTuple o2.isTuple (by lia) (Cj (Lg n) v1 v2 hz hA) V.prog V.w _ _ ⟨by rw[key],rfl⟩
 ·exact RcNeAt.tuples (A:=A) o1.isTuple o2.isTuple (by lia) (Cj (Lg n) v1 v2 hz hA) V.prog V.w _ _ ⟨by rw[key],rfl⟩
end
theorem js0{n:Nat}{lo aY:Nat}{p q:PV}{u v:Value}(x:VX C lo aY s p u)(y:VX C lo aY s q v)(h:PV.cQ n p q=true)(hA:A.units+n<cLine):
  Wp A (compareOp .Eq u v) (λv s'=>v=.bool (PV.beq p q)/\s'=s) s/\Wp A (compareOp .NotEq u v) (λv s'=>v=.bool (!PV.beq p q)/\s'=s) s:=by
 cases n with
 |zero=>exact absurd h Af
 |succ n=>
  rcases Sv h with ⟨i,j,rfl,rfl⟩|⟨i,j,rfl,rfl⟩|⟨l,r,rfl,rfl,hz⟩|⟨l,r,hp,hq,hz⟩|⟨i,j,rfl,rfl⟩
  ·refine cR u x.iv λt=>?_;refine cR v y.iv λt'=>?_;rw[show PV.beq (.int i) (.int j)=(i==j) from uf];exact⟨eq_int ⟨rfl,rfl⟩,ne_int ⟨rfl,rfl⟩⟩
  ·refine cR u x.iv λt=>?_;refine cR v y.iv λt'=>?_;rw[show PV.beq (.str i) (.str j)=(i==j) from uf];exact⟨eq_str ⟨by rw[str_beq],rfl⟩,ne_str ⟨by rw[bne,str_beq],rfl⟩⟩
  ·refine cP u x.iv λa vs o1 v1=>?_;refine cP v y.iv λb us o2 v2=>?_;exact jwr o1 o2 v1 v2 hz hA
  ·refine cP u (x.q9 hp) λa vs o1 v1=>?_;refine cP v (y.q9 hq) λb us o2 v2=>?_;rw[Cg hp hq];exact jwq o1 o2 v1 v2 hz hA
  ·cases (show u=.bool i from x.iv);cases (show v=.bool j from y.iv);rw[show PV.beq (.bool i) (.bool j)=(i==j) from uf];exact⟨RcAt.bool_bool (A:=A) (s:=s) i j V.prog V.w _ _ ⟨rfl,rfl⟩,RcNeAt.bool_bool (A:=A) (s:=s) i j V.prog V.w _ _ ⟨rfl,rfl⟩⟩
theorem jqM:(Value.bool z== .bool y)=(some z==some y):=by cases y<;>cases z<;>rfl
theorem juZ{lo aY:Nat}{p:PV}{v:Value}(y:Bool)(x:VX C lo aY s p v):isSame v (.bool y)=pure (p.vy==some y):=by
 have z:=x.iv;cases p with|bool=>rw[show v=.bool _ from z];exact aU pure jqM|none=>rw[show v=.none from z];rfl|typ=>rw[show v=.type _ from z];rfl|int=>refine cR v z λt=>?_;rfl|str=>refine cR v z λt=>?_;rfl|_=>refine kE (x.ref rfl) λt e=>?_;rw[e];rfl
theorem Sw(hs:isSame u v=pure b)(hb:b=r):
  Wp A (compareOp .Is u v) (λw s'=>w=.bool r/\s'=s) s/\Wp A (compareOp .IsNot u v) (λw s'=>w=.bool (!r)/\s'=s) s:=by
 subst hb;constructor
 ·show Wp A (isSame u v>>=λb=>pure (Value.bool b)) _ s;rw[hs];exact tbn (bc (bc ⟨rfl,rfl⟩))
 ·show Wp A (isSame u v>>=λb=>pure (Value.bool (!b))) _ s;rw[hs];exact tbn (bc (bc ⟨rfl,rfl⟩))
theorem same_none:isSame u .none=pure (u== .none):=by cases u<;>rfl
theorem jpA:isSame (.type T) (.type U)=pure (Value.type T== .type U):=rfl
theorem jsy:(Value.type T==Value.type U)=(T==U):=by
 rw[qX,bO,bO];exact⟨λq=>by cases q;rfl,λq=>by rw[q]⟩
theorem jwU{lo aY:Nat}{p q:PV}{u v:Value}{r:Bool}(x:VX C lo aY s p u)(y:VX C lo aY s q v)(h:QF p q=some r):
  Wp A (compareOp .Is u v) (λw s'=>w=.bool r/\s'=s) s/\Wp A (compareOp .IsNot u v) (λw s'=>w=.bool (!r)/\s'=s) s:=by
 cases q with
 |none=>
  rw[show v=.none from y.iv];exact Sw same_none ((ju0 x).trans (ir h))
 |bool b=>
  rw[show v=.bool b from y.iv];exact Sw (juZ b x) (ir h)
 |typ T=>
  rw[show v=.type T from y.iv];refine mH h ?_;clear h;intro U hU h;rw[PV.jHw hU] at x;rw[show u=.type U from x.iv];exact Sw jpA (jsy.trans h)
 |_=>exact nn h
theorem jiZ{c:Nat}{y:List Nat}{t u:Tok}:Wp A (compareOp .In (.str ⟨#[c]⟩ t) (.str ⟨y.toArray⟩ u)) (λw s'=>w=.bool (y.contains c)/\s'=s) s/\Wp A (compareOp .NotIn (.str ⟨#[c]⟩ t) (.str ⟨y.toArray⟩ u)) (λw s'=>w=.bool (!y.contains c)/\s'=s) s:=by
 have e:(!(Builtin.Str.occurrences ⟨y.toArray⟩ ⟨#[c]⟩ 0 (⟨y.toArray⟩:Str).length 1).isEmpty)=y.contains c:=by
  rw[StrLaws.found_one];simp
 exact⟨P.in_str ⟨by rw[e],rfl⟩,P.notIn_str ⟨by rw[e],rfl⟩⟩
theorem jiN{h:Heap}{k:List Nat}{l:List (PV×PV)}:∀{kvs:List (Str×Value)},fZ C h l kvs->(valueAt kvs ⟨k.toArray⟩).isSome=(gR k l).isSome:=by
 induction l with
 |nil=>intro kvs x;cases x;rfl
 |cons q l ih=>
  intro kvs x;refine qt x.gh λy v es hy eq1 Z r=>?_;subst eq1;show _=(if q.1.bV==some k then some q.2 else gR k l).isSome;rw[hy];show _=(if y==k then some q.2 else gR k l).isSome;have hs:decide (((⟨y.toArray⟩:Str),v).1=⟨k.toArray⟩)=(y==k):=by rw[←str_beq y k];rfl
  rw[valueAt,Am,hs];cases y==k with|true=>rfl|false=>exact ih r
theorem jwQ{l:List (PV×PV)}{v:Value}{k:List Nat}{t:Tok}(x:VR C s.heap (.dct l) v):
  Wp A (compareOp .In (.str ⟨k.toArray⟩ t) v) (λw s'=>w=.bool (gR k l).isSome/\aA s s') s/\Wp A (compareOp .NotIn (.str ⟨k.toArray⟩ t) v) (λw s'=>w=.bool (!(gR k l).isSome)/\aA s s') s:=by
 obtain⟨a,kvs,rfl,hs,hd,hl⟩:∃a kvs,v=.ref a/\(a==sysModules)=false/\s.heap.DictOf (strKind V.prog V.w) a kvs/\fZ C s.heap l kvs:=by cases x;exact fW _ _ rfl (‹_›) (‹_›) (‹_›)
 have hk:(strKind V.prog V.w).is ⟨k.toArray⟩ (.str ⟨k.toArray⟩ t)=true:=by show(_==_)=true;simp
 exact⟨wpAny_in_of hk hs hd.mapOf ⟨aU Value.bool (jiN hl),aA.toks⟩,wpAny_notIn_of hk hs hd.mapOf ⟨aU (λb=>Value.bool (!b)) (jiN hl),aA.toks⟩⟩
theorem joy{X:Sem Value}{b:Bool}(h:Wp A X (λw s'=>w=.bool b/\s'=s) s):Wp A X (λw s'=>w=.bool b/\aA s s') s:=Wp.mono h λZ Z q=>⟨q.1,q.2▸aC.refl⟩
theorem jwR{p q:PV}{u v:Value}{lo aY:Nat}{r:Bool}(x:VX C lo aY s p u)(y:VX C lo aY s q v)(h:QG p q=some r):
  Wp A (compareOp .In u v) (λw s'=>w=.bool r/\aA s s') s/\Wp A (compareOp .NotIn u v) (λw s'=>w=.bool (!r)/\aA s s') s:=by
 cases q with
 |dct l=>
  refine mH h ?_;clear h;intro a ha h;rw[PV.fJ ha] at x;refine cR u x.iv λt=>?_;exact h▸jwQ y
 |str z=>
  refine cR v y.iv λt=>?_;refine aM h ?_;clear h;intro a ha h;refine eY r (iM h) λc hc=>?_;rw[PV.fJ ha,gQ hc] at x;refine cR u x.iv λt=>?_;exact⟨joy jiZ.1,joy jiZ.2⟩
 |_=>exact nn h
theorem jwi(hA:aR A D)(e:aA s0 s)(x:VX C s0.heap.objs.size s0.gens.size s a va)(y:VX C s0.heap.objs.size s0.gens.size s b vb)(h:gk op a b=some r):
  Wp A (compareOp op va vb) (λv s'=>v=.bool r/\aA s0 s') s:=by
 have hu:A.units+8<cLine:=by have:=hA.units;lia
 have fin:∀{X:Sem Value} {r':Bool},Wp A X (λv s'=>v=.bool r'/\s'=s) s->r'=r->Wp A X (λv s'=>v=.bool r/\aA s0 s') s:=λw e'=>
  Wp.mono w λv s' q=>⟨e'▸q.1,q.2▸e⟩
 have ord:∀{f:Int->Int->Option Bool},lJ f a b=some r->∃i j t u,va=.int i t/\vb=.int j u/\f i j=some r:=λh=>by
  refine eX (xM h) λi j eq1 eq2 h=>?_;subst eq1;subst eq2;refine kE x.iv λt h1=>?_;refine kE y.iv λu h2=>?_;exact Qw i j t u h1 h2 h
 cases op with
 |Eq=>
  refine cY (show(if PV.cQ 8 a b then some (a.beq b) else .none)=some r from h) ?_;intro h1 h;exact fin (js0 x y h1 hu).1 (ir h)
 |NotEq=>
  refine cY (show(if PV.cQ 8 a b then some (!a.beq b) else .none)=some r from h) ?_;intro h1 h;exact fin (js0 x y h1 hu).2 (ir h)
 |Lt=>
  refine rn (ord h) λi j t u eq1 zz=>kA zz λeq2 h=>?_;subst eq1;subst eq2;exact lt_int ⟨by rw[ir h],e⟩
 |Is=>exact fin (jwU x y h).1 rfl
 |IsNot=>
  refine mH h ?_;clear h;intro r' hi h;exact fin (jwU x y hi).2 h
 |In=>exact Wp.mono (jwR x y h).1 λv s' q=>⟨q.1,e.trans q.2⟩
 |NotIn=>
  refine mH h ?_;clear h;intro r' hi h;exact Wp.mono (jwR x y hi).2 λv s' q=>⟨h▸q.1,e.trans q.2⟩
 |_=>exact nn h
end
end
section
theorem jiO(hne:t≠it):∀(n i:Nat) (s:Shared) (Q:List Value->Shared->Prop),s.heap.IsListIter it t i->s.heap.IsList t items->i+n<=items.size->
  (∀h',h'.IsListIter it t (i+n)->Heap.SameBut it s.heap h'->Q ((items.toList.drop i).take n) {s with heap:=h'})->Wp A (draw (.ref it) n) Q s
 |0,i,s,Q,hit,_,_,hQ=>by
  show wpAny _ _ (pure []) Q _ s;exact bc (by simpa using hQ s.heap hit (Heap.SameBut.refl ..))
 |n+1,i,s,Q,hit,ht,hle,hQ=>by
  have hlt:i<items.size:=by lia
  show wpAny _ _ (pyNext (.ref it)>>=_) Q _ s;refine tbn (wpAny_pyNext_list_item hit ht (x:=items[i]) (by simp[hlt]) λh₁ hit1 hs₁=>?_);refine tbn (dJ (jiO hne n (i+1) _ _ hit1 (ht.extBut hs₁.extBut hne) (by lia) λh₂ hit2 hs₂=>bc ?_));have hd:items.toList.drop i=items[i]::items.toList.drop (i+1):=by simp[Ak,hlt]
  have:=hQ h₂ (by rw[show i+(n+1)=i+1+n by lia];exact hit2) (hs₁.trans hs₂);rw[hd,List.take_succ_cons] at this;exact this
theorem jkT(hh:A.handled=none)(ht:s.heap.IsList t items)
  (hQ:∀h',Heap.ExtBut s.heap.objs.size s.heap h'->Q items.toList {s with heap:=h'}):Wp A (unpackItems (.ref t) items.size none) Q s:=by
 have hlt:t≠s.heap.objs.size:=by refine aH ht λo ho Z=>?_;exact iI (hls ho)
 unfold unpackItems;refine tbn ?_
 ·unfold notIterableAtAll;refine tbn (Eo ht.typeIs F.slot_list_iter.lookup ?_);refine bc ?_;simp only[kj,jH];refine tbn (dJ (wpAny_pyIter_list ht ?_));refine tbn (dJ (jiO hlt items.size 0 _ _ (cG _ (iJ _ rfl) rfl rfl) (ht.push _) (by lia) λh₁ hit1 hs₁=>?_));have hall:List.take items.size (List.drop 0 items.toList)=items.toList:=by
   rw[Al];exact Oj (by simp)
  rw[hall];rw[aZ (by simp)];have ht1:h₁.IsList t items:=(ht.push _).extBut hs₁.extBut hlt;refine tbn (dJ (wpAny_pyNext_list_end hh hit1 ht1 (by simp) λh₂ he2=>?_));simp only[Eg,kj,jH];refine bc (hQ h₂ λb o hb e=>he2 b o hb (hs₁.extBut b o hb (fO _ e)))
theorem jxP(hA:A.handled=none)(x:VR C s.heap (.lst l) v):Wp A (unpackItems v l.length none) (λus s'=>aA s s'/\aV C s'.heap l us) s:=by
 refine cP v x.iv λa vs ho hvs=>?_;have hn:l.length=vs.toArray.size:=hvs.length;rw[hn];refine Wp.mono (j4 (jkT hA ho.isList (Q:=λus s'=>us=vs/\∃h',Heap.ExtBut s.heap.objs.size s.heap h'/\s'={s with heap:=h'}) λh' hs=>kY rfl h' hs rfl)) λus s' q=>?_;refine Az q λqs eq1 h' hs eq2=>?_;subst eq1;subst eq2;have e:aA s {s with heap:=h'}:=aA.of (λb o g=>hs b o (iI (hls g)) g) qs.1;exact⟨e,hvs.ext e⟩
theorem jzP(k:List Nat)(t:Tok):(strKind V.prog V.w).is ⟨k.toArray⟩ (.str ⟨k.toArray⟩ t)=true:=by
 show(_==_)=true;simp
theorem jxf{h:Heap}{k:List Nat}{v:PV}{pv:Value}(hv:VR C h v pv){l:List (PV×PV)}:∀{kvs:List (Str×Value)},fZ C h l kvs->(kvs.map (·.1)).Nodup->fZ C h (oY k v l) (stored kvs ⟨k.toArray⟩ pv):=by
 induction l with
 |nil=>intro kvs x _;cases x;exact .cons hv .nil
 |cons q l ih=>
  intro kvs y hn;obtain⟨q1,q2⟩:=q;refine qt y.gh λx u es e eq1 hp r=>?_;subst eq1;cases e;rw[fu,List.nodup_cons] at hn;show fZ C h (if x==k then(PV.str x,v)::l else(PV.str x,q2)::oY k v l) _;by_cases hx:x=k
  ·subst hx;rw[aX (kh _)];have:stored ((⟨x.toArray⟩,u)::es) ⟨x.toArray⟩ pv=(⟨x.toArray⟩,pv)::es:=by
    unfold stored;simp only[List.any_cons,decide_true,Bool.true_or,gZ,fu];exact aU (List.cons _) (map_store_of_not_mem es _ pv hn.1)
   rw[this];exact .cons hv r
  ·rw[aZ (by simpa using hx)];have hne:¬(⟨x.toArray⟩:Str)=⟨k.toArray⟩:=λq=>hx (by simpa using q);have:stored ((⟨x.toArray⟩,u)::es) ⟨k.toArray⟩ pv=(⟨x.toArray⟩,u)::stored es ⟨k.toArray⟩ pv:=by
    unfold stored;simp only[List.any_cons,hne,decide_false,Bool.false_or,fu,jH];split<;>rfl
   rw[this];exact .cons hp (ih r hn.2)
theorem fZ.length{h:Heap}{l:List (PV×PV)}:∀{kvs:List (Str×Value)},fZ C h l kvs->l.length=kvs.length:=by
 induction l with
 |nil=>intro kvs x;cases x;rfl
 |cons q l ih=>
  intro kvs x;refine qt x.gh λZ Z es Z eq1 Z r=>?_;subst eq1;exact aU (·+1) (ih r)
theorem jtS{d:Addr}{l:List (PV×PV)}{kvs:List (Str×Value)}{k:List Nat}{v:PV}{pk pv:Value}(hd:s.heap.DictOf (strKind V.prog V.w) d kvs)(hl:fZ C s.heap l kvs)(nc:¬C d)(hk:VR C s.heap (.str k) pk)(hv:VR C s.heap v pv)(hlen:aL l.length=true):
  Wp A (dictSet d pk pv) (λZ s'=>aC (λb=>b=d) no s s'/\∃kvs',s'.heap.DictOf (strKind V.prog V.w) d kvs'/\fZ C s'.heap (oY k v l) kvs') s:=by
 refine cR pk hk.iv λt=>?_;have hsz:=ph hlen;rw[hl.length] at hsz;refine wpAny_dictSet_pairs (knd:=strKind V.prog V.w) (k:=⟨k.toArray⟩) (jzP _ _) hd (λh' hd' sb=>?_) hsz;have e:aC (λb=>b=d) no s {s with heap:=h',toks:=s.toks+1}:=⟨λb o nb g=>sb.extBut b o nb g,by show _<=h'.objs.size;rw[sb.1];exact aN _,λZ Z Z g=>g,aN _,id,rfl⟩;have hn:(kvs.map (·.1)).Nodup:=by refine JG hd λZ Z Z Z Z Z Z Z hn=>?_;exact hn
 exact kY e _ hd' ((jxf hv hl hn).mono λa o c g=>⟨c,e.heap a o (λq=>nc (q▸c)) g⟩)
end
set_option tactic.hygienic true
section
variable{A:Around}{s:Shared}{C:AP}{lo aY:Nat}
theorem eH.one(x:eH C lo aY s [p] vs):∃v,vs=[v]/\VX C lo aY s p v:=by
 cases x;rename_i v us hv hr;cases hr;exact aW v rfl hv
theorem eH.two(x:eH C lo aY s [p,q] vs):∃v u,vs=[v,u]/\VX C lo aY s p v/\VX C lo aY s q u:=by
 cases x;rename_i v us hv hr;refine oW us hr.one λu hu=>?_;exact jT v u rfl hv hu
theorem VX.qp(x:VX C lo aY s (.str y) v):∃t,v=.str ⟨y.toArray⟩ t:=x.iv
theorem VX.vB(x:VX C lo aY s (.int i) v):∃t,v=.int i t:=x.iv
theorem VX.jH9(h:VX C lo aY s (.gf x y) v):∃r t u w,v=.ref r/\IsRange s.heap r x y 1 t u w:=h.iv
theorem Ck(id:String):K6 (.builtin id):=λA pos args s Q hp h=>
 Ei hp (Wp.mono h λa s₁ q=>by refine cD q λZ hk q=>?_;rw[hk];exact q)
theorem Lh(T:String):K6 (.type T):=λA pos args s Q hp h=>
 O3 hp (Wp.mono h λa s₁ q=>by refine cD q λZ hk q=>?_;rw[hk];exact q)
theorem jmJ(hl:aL l.length=true)(hv:aV C h l vs):vs.toArray.size<=1000000:=by
 have:=v5 hl;rw[hv.length] at this;simpa using this
theorem v7{f:PV->OV}(hx:eH C lo aY s l vs)(h:(dF l).bind f=some p):∃q v,vs=[v]/\VX C lo aY s q v/\f q=some p:=by
 refine aM h ?_;clear h;intro q hq h;rw[gQ hq] at hx;refine aH hx.one λv e x=>?_;exact jT q v e x h
theorem jqg(hx:eH C lo aY s l vs)(h:((kI l).bind λq=>lJ f q.1 q.2)=some p):∃i j t u,vs=[.int i t,.int j u]/\f i j=some p:=by
 refine aM h ?_;clear h;intro q hq h;rw[qx hq] at hx;refine eX hx.two λv u e x y=>?_;refine eX (xM h) λi j h1 h2 h=>?_;obtain⟨t,e1⟩:=(h1▸x).vB;obtain⟨t',e2⟩:=(h2▸y).vB;exact Ff i j t t' (by rw[e,e1,e2]) h
theorem jwY:Callee D rC (.builtin "len") where
 cw:=Ck _
 ok:=λA s0 s C l vs p hA hh e hx h=>by
  refine cP vs (v7 hx h) λq v x h=>?_;refine aM h ?_;clear h;intro n hn h;refine cY h ?_;clear h;intro hl h;cases h;have hs:=v5 hl;have fin:∀{m k t:Nat},m=n->bK C s0 (PV.int n) (.int m k) {s with toks:=t}:=λe'=>⟨e.trans aA.toks,e'▸VX.of (.int _ _)⟩;have lt:∀{m:Nat},m=n->(m:Int)<2 ^ 63:=λe'=>Pn (qZ.mpr (e'▸hs)) ∅;cases q with
  |str y=>
   cases hn;refine cR v x.qp λt=>?_;exact P.len_str (Int.not_le.mpr (lt rfl)) (fin rfl)
  |tup l=>
   cases hn;refine cP v x.iv λa vs o hvs=>?_;exact len_tuple o.isTuple (lt hvs.length.symm) (fin hvs.length.symm)
  |lst l=>
   cases hn;refine cP v x.iv λa vs o hvs=>?_;exact call_len_list o.isList (lt hvs.length.symm) (fin hvs.length.symm)
  |own l=>
   cases hn;refine cP v x.iv λa vs o hvs=>?_;exact call_len_list o.isList (lt hvs.length.symm) (fin hvs.length.symm)
  |_=>exact nn hn
theorem jwf:Callee D QK (.builtin "chr") where
 cw:=Ck _
 ok:=λA s0 s C l vs p hA hh e hx h=>by
  refine cP vs (v7 hx h) λq v x h=>?_;refine aM h ?_;clear h;intro i hi h;refine cY h ?_;clear h;intro hl h;cases h;refine fM hl ?_;clear hl;intro h1 h2;obtain⟨t,rfl⟩:=(PV.nF hi▸x).vB;refine P.chr_of_int ?_ ⟨e.trans aA.toks,VX.of (.str [_] _)⟩;rw[Ag,wW,wW];exact⟨Ai.mpr (dB h1),Ai.mpr (dB h2)⟩
theorem jw9:Callee D XK (.builtin "ord") where
 cw:=Ck _
 ok:=λA s0 s C l vs p hA hh e hx h=>by
  refine cP vs (v7 hx h) λq v x h=>?_;refine aM h ?_;clear h;intro y hy h;refine eY p (iM h) λc hc=>?_;rw[PV.fJ hy,gQ hc] at x;refine cR v x.qp λt=>?_;exact P.ord_of_char ⟨e.trans aA.toks,VX.of (.int _ _)⟩
theorem jkA(f:Nat->Int):∀n,preSum f (n+1)=f 0+preSum (λi=>f (i+1)) n:=λn=>n.recAux
  (by simp[preSum])
  λn ih=>by
  rw[preSum,ih];simp only[preSum];lia
theorem jkz:∀(xs:List (Int×Tok)),preSum (numAt xs.toArray) xs.length=(xs.map (·.1)).sum:=λxs=>xs.rec
  rfl
  λx xs ih=>by
  rw[dC,jkA];have e:(λi=>numAt (x::xs).toArray (i+1))=numAt xs.toArray:=by
   funext i;simp[numAt]
  rw[e,ih];simp[numAt]
theorem jjk(f:Nat->Int)(hf:∀i,-1000000000<=f i/\f i<=1000000000):∀n:Nat,-(1000000000*(n:Int))<=preSum f n/\preSum f n<=1000000000*(n:Int):=λn=>n.recAux
  ⟨Es 0,Es 0⟩
  λn ih=>by
  rw[Jk,Int.mul_add,Int.neg_add];exact⟨Int.add_le_add ih.1 (hf n).1,Int.add_le_add ih.2 (hf n).2⟩
theorem jmr{h:Heap}{l:LV}:∀{vs:List Value},aV C h l vs->l.all Bp=true->∃xs:List (Int×Tok),vs=xs.map (λp=>.int p.1 p.2)/\sW l=some (xs.map (·.1)).sum/\l.length=xs.length/\∀p∈xs,-1000000000<=p.1/\p.1<=1000000000:=by
 induction l with
 |nil=>intro vs x _;exact ru ([]) x.jg rfl rfl (λZ h=>nomatch h)
 |cons a l ih=>
  intro vs x h;refine cP vs x.gh λu us z r=>?_;refine fM (show(Bp a&&l.all Bp)=true from h) ?_;intro h1 h2;refine Fe us (ih r h2) λxs g2 g3 g4=>?_;refine aH (ux h1) λi hi h1=>?_;rw[PV.nF hi] at z;refine cR u z.iv λt=>?_;refine fM h1 ?_;clear h1;intro k1 k2;refine ru ((i,t)::xs) rfl ?_ (aU (·+1) g3) (λp hp=>?_)
  ·show(a.asInt.bind λi=>(sW l).map (i+·))=_;rw[hi,g2];rfl
  ·rcases gO.mp hp with rfl|hp
   ·exact⟨dB k1,dB k2⟩
   ·exact g4 p hp
theorem jxD{D:Nat}:Callee D xQ (.builtin "sum") where
 cw:=Ck _
 ok:=λA s0 s C l vs p hA hh e hx h=>by
  refine cP vs (v7 hx h) λq v x h=>?_;refine aM h ?_;clear h;intro l hl h;refine cY h ?_;clear h;intro hk h;refine fM hk ?_;clear hk;intro hk1 hk2;have hlen:=v5 hk1;refine cP v (x.q9 (.inl (PV.sy hl))) λa vs ho hvs=>?_;refine Fb (jmr hvs hk2) λxs eq1 h2 h3 h4=>?_;subst eq1;rw[h2] at h;cases h;have hn:∀i,-1000000000<=numAt xs.toArray i/\numAt xs.toArray i<=1000000000:=λi=>by
   unfold numAt;cases hi:xs.toArray[i]? with|none=>decide|some p=>exact h4 p (by have:=Array.mem_of_getElem? hi;simpa using this)
  have hi:(List.map (λ(p:Int×Tok)=>Value.int p.1 p.2) xs).toArray=intItems xs.toArray:=by simp[intItems]
  rw[hi] at ho;refine Wp.mono (j4 (sum_intList hA.handled ho.isList (λj hj=>?_) (Q:=λv s'=>∃h' tk t',v=.int (preSum (numAt xs.toArray) xs.toArray.size) t'/\(∀b o,s.heap.get? b=some o->h'.get? b=some o)/\s'={s with heap:=h',toks:=tk}) λh' tk t' hk=>⟨h',tk,t',rfl,hk,rfl⟩)) λv s' q=>?_
  ·have h1:=hn j;have hj':j<xs.length:=hj;have h2:=jjk _ hn (j+1);have hb:=Int.mul_le_mul_of_nonneg_left (qZ.mpr (aF hj' (h3▸hlen))) (show(0:Int)<=1000000000 by decide);exact⟨⟨jr ∅ h1.1,Pn h1.2 ∅⟩,jr ∅ (jr (Int.neg_le_neg hb) h2.1),Pn (jr h2.2 hb) ∅⟩
  ·refine kA q λqs zz=>Ba zz λh' tk t' eq1 hk eq2=>?_;subst eq1;subst eq2;refine⟨e.trans (aA.of hk qs.1),?_⟩;rw[show xs.toArray.size=xs.length from rfl,jkz];exact VX.of (.int _ _)
theorem jsf:Callee D Fw (.type "range") where
 cw:=Lh _
 ok:=λA s0 s C l vs p hA hh e hx h=>by
  unfold Fw at h;cases ho:dF l with
  |some q=>
   rw[ho] at h;refine aM h ?_;clear h;intro i hi h;refine kA (dq h) λZ h=>?_;cases h;rw[gQ ho] at hx;refine oW vs hx.one λv x=>?_;obtain⟨t,rfl⟩:=(PV.nF hi▸x).vB;exact call_range_1 ⟨e.trans aA.push,VX.of (.gf (hh.cJ _ (aN _)) (IsRange.new _ _ _ _ _ _ _))⟩
  |none=>
   rw[ho] at h;refine rn (jqg hx h) λa b t u eq1 h=>?_;subst eq1;refine kA (dq h) λZ h=>?_;cases h;exact call_range_2 ⟨e.trans aA.push,VX.of (.gf (hh.cJ _ (aN _)) (IsRange.new _ _ _ _ _ _ _))⟩
theorem aV.of_get{h:Heap}{l:LV}:∀{vs:List Value},l.length=vs.length->(∀(j:Nat) p v,l[j]?=some p->vs[j]?=some v->VR C h p v)->aV C h l vs:=by
 induction l with
 |nil=>intro vs h _;rw[Ex.mp h.symm];exact .nil
 |cons p l ih=>
  intro vs h k;cases vs with
  |nil=>cases h
  |cons v vs=>exact .cons (k 0 p v rfl rfl) (ih (wU h) λj p v h1 h2=>k (j+1) p v h1 h2)
structure Li(s:Shared)(vs:Array Value)(v:Value)(s':Shared):Prop where
 v:v=.ref s.heap.objs.size
 k:∀b o,s.heap.get? b=some o->s'.heap.get? b=some o
 n:cj s'.heap s.heap.objs.size vs
 e:∃h' tk,s'={s with heap:=h',toks:=tk}
theorem Li.post{s0 s':Shared}{v:Value}{vs:List Value}{l:LV}(x:Li s vs.toArray v s')(hh:Here C s)(e:aA s0 s)(hs:s.heap.objs.size<=s'.heap.objs.size)(hv:aV C s'.heap l vs):bK C s0 (.lst l) v s':=by
 obtain⟨rfl,hk,hn,h',tk,rfl⟩:=x;exact⟨e.trans (aA.of hk hs),VX.of (.lst (hh.cJ _ (aN _)) hn hv)⟩
theorem Sx(hh:Here C s)(e:aA s0 s)(hT:T="list"\/T="tuple")(ho:s.heap.get? a=some o)(hc:o.cls=.type T)(hd:o.data=.seq vs.toArray n)(hv:aV C s.heap l vs)(hg:gj l=some p):
  Wp A (call (.type "list") [.ref a] []) (bK C s0 p) s:=by
 refine gJ p (uD hg) λhl=>?_;exact Wp.mono (j4 (call_list_seq _ hT ho hc hd (Q:=Li s vs.toArray) (λh' c' hk hD=>⟨rfl,hk,nJ _ hD _ rfl,h',_,rfl⟩) (aF (jmJ hl hv) (by rw[qU];decide)))) λv s' q=>q.2.post hh e q.1.1 (hv.mono λa o c g=>⟨c,q.2.k a o g⟩)
theorem jrQ{s0:Shared}{a b:Int}{r:Addr}{t u w:Tok}(hA:A.handled=none)(hh:Here C s)(e:aA s0 s)(h1:cX a=true)(h2:cX b=true)(hl:aL (jx a b).length=true)(hr:IsRange s.heap r a b 1 t u w):
  Wp A (call (.type "list") [.ref r] []) (bK C s0 (.lst (jx a b))) s:=by
 have hlen:(jx a b).length=(b-a).toNat:=by unfold jx;rw[bH,Jr]
 have hb:=v5 hl;rw[hlen] at hb;have h1:=Ss h1;have h2:=Ss h2;refine Wp.mono (j4 (call_list_range hA hr (small_one (by clear hb hlen hl;lia) (by clear hb hlen hl;lia) (by clear hb hlen hl;lia) (by clear hb hlen hl;lia)) (rangeSize_one a b) (aF hb ∅) (Q:=λv s'=>∃acc:Array Value,Li s acc.toList.toArray v s'/\ItemsOf (λi v=>∃t,v=.int (a+i*1) t) acc (b-a).toNat) λh' tk acc c' hk hD hI=>aW acc ⟨rfl,hk,nJ _ hD _ rfl,h',tk,rfl⟩ hI)) λv s' q=>?_;refine JB q λqs acc N hI=>?_;refine N.post hh e qs.1 (aV.of_get (by rw[hlen,←hI.1];rfl) λj p v h1 h2=>?_);obtain⟨t,rfl⟩:=hI.2 j v (by rw[←h2,Array.getElem?_toList]);have hj:j<(b-a).toNat:=hlen▸(um.mp h1).1;unfold jx at h1;rw[uo,List.getElem?_range hj] at h1;cases h1;rw[Int.mul_one];exact .int _ _
theorem joQ:Callee D J0 (.type "list") where
 cw:=Lh _
 ok:=λA s0 s C l vs p hA hh e hx h=>by
  refine cP vs (v7 hx h) λq v x h=>?_;refine aM h ?_;clear h;intro l hl h;cases q with
  |tup m=>
   cases hl;refine cP v x.iv λa vs nj hv=>?_;obtain⟨o,ho,n,rfl⟩:=nj;exact Sx hh e (.inr rfl) ho rfl rfl hv h
  |lst m=>
   cases hl;refine cP v x.iv λa vs nj hv=>?_;obtain⟨o,ho,n,rfl⟩:=nj;exact Sx hh e (.inl rfl) ho rfl rfl hv h
  |own m=>
   cases hl;refine cP v x.iv λa vs nj hv=>?_;obtain⟨o,ho,n,rfl⟩:=nj;exact Sx hh e (.inl rfl) ho rfl rfl hv h
  |gf a b=>
   refine cY (show(if cX a&&cX b then some (jx a b) else .none)=some l from hl) ?_;intro hsm hl;cases hl;refine gJ p (uD h) λhl=>?_;refine rn x.jH9 λr t u w eq1 hr=>?_;subst eq1;exact jrQ hA.handled hh e (bD hsm).1 (bD hsm).2 hl hr
  |_=>exact nn hl
end
set_option tactic.hygienic false
section
theorem yP{T id:String}{m:Str}{o:PE}{apos pos:Pos}{env:Env}{ov:Value}{trees:List (Bool×Sem Value)}{Q:Value->Shared->Prop}
  (hline:(apos.endLine==pos.line)=true)(hfew:trees.length<20)(hplain:(trees.all λx=> !x.1)=true)
  (hg:wpAny (model V.prog V.w) A (getMethod ov m (do return (←importBound o env).getD true)) (λr s₁=>r=(.builtin id,[ov])/\s₁=s) iW s)
  (h:Wp A (spliced trees) (λvs s₁=>Wp A (call (.builtin id) (ov::vs) []) Q s₁) s):
  Wp A (methodCall o m apos pos env ov trees.length trees []) Q s:=by
 have hform:methodCallForm trees.length trees []=true:=by
  unfold methodCallForm;simp only[hplain,Eu,mF,u9,List.isEmpty_nil,gZ,Nat.add_zero,iw];lia
 have hpos:methodCallPos true o env apos pos=pure pos:=by unfold methodCallPos;simp[hline]
 unfold methodCall;rw[hform];refine tbn (dJ ?_);show wpAny _ _ (getMethod ov m _) _ _ s;refine Wp.mono hg λr s₁ q=>?_;refine kA q λeq1 eq2=>?_;subst eq1;subst eq2;refine tbn (u6 hpos ?_);refine PySem.Calls.callWith_builtin (Gy hplain) (vX hplain (Wp.mono h λvs s₂ h₂=>?_));exact h₂
theorem Sy:gn sep (p::l)=p.bV.bind λs=>if l.isEmpty then some s else(gn sep l).map (s++sep++·):=rfl
theorem juQ{h:Heap}{sep:List Nat}{l:LV}:∀{vs:List Value} {r:List Nat},aV C h l vs->gn sep l=some r->∃ys:List Str,ys.length=l.length/\StrsAre vs ys/\Str.join ⟨sep.toArray⟩ ys=⟨r.toArray⟩/\(ys.map (·.length)).sum+(ys.length-1)*sep.length=r.length:=by
 induction l with
 |nil=>
  intro vs r x e;rw[x.jg];cases e;exact ru ([]) rfl .nil rfl ((mC _).trans (Nat.zero_mul _))
 |cons p l ih=>
  intro vs r x e;obtain⟨u,us,rfl,x,y⟩:=x.gh;rw[Sy] at e;refine aM e ?_;clear e;intro w hw e;rw[PV.fJ hw] at x;refine cR u x.iv λt=>?_;cases l with
  |nil=>
   rw[y.jg];cases e;exact ru ([⟨r.toArray⟩]) rfl (.cons _ _ .nil) rfl (by simp[Str.length])
  |cons q l=>
   refine eY r (iM (show(gn sep (q::l)).map (w++sep++·)=some r from e)) λr' hj=>?_;refine Fb (ih y hj) λys h0 h1 h2 h3=>?_;cases ys with
   |nil=>cases h0
   |cons z ys=>
    refine ru (⟨w.toArray⟩::z::ys) (aU (·+1) h0) (.cons _ _ h1) ?_ ?_
    ·show(⟨w.toArray⟩:Str)++⟨sep.toArray⟩++Str.join _ (z::ys)=_;rw[h2,Sq,Sq]
    ·have ez:(⟨w.toArray⟩:Str).length=w.length:=rfl;rw[fu,List.sum_cons,ez,bz,bz,←h3,dC,dC,DR,DR,Nat.add_mul,Io];clear h3 h2 h1 h0 hj e hw ih;lia
theorem jub{sep:List Nat}{t:Tok}{l:PV}{v:Value}{items:LV}{p:PV}{s0:Shared}(e:aA s0 s)(x:VX C s0.heap.objs.size s0.gens.size s l v)(hl:l.items?=some items)(hs:aL sep.length=true)(h:(gn sep items).bind lH=some p):
  Wp A (call (.builtin "str.join") [.str ⟨sep.toArray⟩ t,v] []) (bK C s0 p) s:=by
 obtain⟨a,vs,rfl,ho,hvs⟩:∃a vs,v=.ref a/\cj s.heap a (List.toArray vs)/\aV C s.heap items vs:=by
  exact x.q9 (PV.Ep hl)
 refine aM h ?_;clear h;intro r hj h
 ·refine gJ p (jfN h) λhr=>?_;refine Fb (juQ hvs hj) λys Z h1 h2 h3=>?_;have b1:=v5 hs;have b2:=v5 hr;refine join_list ho.isList (by simpa using h1) ?_ λt' k=>?_
  ·rw[show(⟨sep.toArray⟩:Str).length=sep.length by simp[Str.length]];have:ys.length*sep.length<=(ys.length-1)*sep.length+sep.length:=by
    rw[←Ed];exact Nat.mul_le_mul_right _ (Nat.le_succ_of_pred_le (aN _))
   clear h2 hj hs hr x;lia
  ·have:Txt.join ⟨sep.toArray⟩ ys=⟨r.toArray⟩:=by
    show Builtin.Str.glued _ _=_;rw[StrLaws.glued_eq_join,h2]
   rw[this];exact⟨e.trans aA.toks,VX.of (.str _ _)⟩
theorem jiz(h:eQ y=true):∀c∈(⟨y.toArray⟩:Str).cps.toList,c<128:=λc hc=>by
 have:=cU.mp h c (by simpa using hc);simpa using this
theorem up_eq:up1=cI:=by
 funext c;unfold up1 cI;simp only[eN,iw]
theorem jzA:lo1=du:=by
 funext c;unfold lo1 du;simp only[eN,iw]
theorem jsB(h:eQ y=true)(hl:aL y.length=true):Wp A (call (.builtin "str.upper") [.str ⟨y.toArray⟩ t] []) (λv s'=>aA s s'/\VR C s'.heap (.str (y.map cI)) v) s:=by
 have e:Txt.upper ⟨y.toArray⟩=⟨(y.map cI).toArray⟩:=by
  rw[upper_ascii (jiz h),up_eq];simp only[List.map_toArray]
 refine SC.upper ?_ ?_
 ·rw[e];have:=v5 hl;simp only[Str.length,my,bH];unfold Builtin.Str.tooLong sizeLine;simp only[wW];lia
 ·rw[e];exact⟨aA.toks,.str _ _⟩
theorem jrW(h:eQ y=true)(hl:aL y.length=true):Wp A (call (.builtin "str.lower") [.str ⟨y.toArray⟩ t] []) (λv s'=>aA s s'/\VR C s'.heap (.str (y.map du)) v) s:=by
 have e:Txt.lower ⟨y.toArray⟩=⟨(y.map du).toArray⟩:=by
  rw[lower_ascii (jiz h),jzA];simp only[List.map_toArray]
 refine SC.lower ?_ ?_
 ·rw[e];have:=v5 hl;simp only[Str.length,my,bH];unfold Builtin.Str.tooLong sizeLine;simp only[wW];lia
 ·rw[e];exact⟨aA.toks,.str _ _⟩
end
section
theorem jv4(hh:Here C s)(e:aA s0 s)(x:VX C s0.heap.objs.size s0.gens.size s a va)(y:VX C s0.heap.objs.size s0.gens.size s b vb)(h:iR op a b=some p):
  Wp A (binaryOp op va vb) (bK C s0 p) s:=by
 have hints:∀i j,a=.int i->b=.int j->Wp A (binaryOp op va vb) (bK C s0 p) s:=λi j ha hb=>by
  subst ha hb;refine cR va x.vB λt=>?_;refine cR vb y.vB λu=>?_;refine Wp.mono (jtF h) λv s' q=>?_;refine eX q λk t eq1 eq2 e'=>?_;subst eq1;subst eq2;exact⟨e.trans e',VX.of (.int _ _)⟩
 have hstrs:∀{v:Value} {s':Shared},(∃k t,p=.str k/\v=.str ⟨k.toArray⟩ t/\aA s s')->bK C s0 p v s':=λq=>by
  refine eX q λk t eq1 eq2 e'=>?_;subst eq1;subst eq2;exact⟨e.trans e',VX.of (.str _ _)⟩
 have two:∀{f:Int->Int->OV},lJ f a b=some p->Wp A (binaryOp op va vb) (bK C s0 p) s:=λh=>by
  refine eX (xM h) λi j h1 h2 Z=>?_;exact hints i j h1 h2
 cases op with
 |Add=>
  cases a with
  |int i=>
   refine aH (bx h) λj hj Z=>?_;exact hints i j rfl (PV.nF hj)
  |str i=>
   refine aH (bx h) λj hj Z=>?_;rw[PV.fJ hj] at h y;refine cR va x.qp λt=>?_;refine cR vb y.qp λu=>?_;exact Wp.mono (jlW h) λv s' q=>hstrs q
  |lst i=>
   refine aH (bx h) λj hj Z=>?_;rw[PV.sy hj] at h y;exact Wp.mono (jjS hh x y h) λv s' q=>⟨e.trans q.2,VX.of q.1⟩
  |_=>exact nn h
 |Mult=>exact two h|Sub=>exact two h|Mod=>exact two h|FloorDiv=>exact two h|Pow=>exact two h|_=>exact nn h
theorem jua(hh:Here C s)(e:aA s0 s)(x:VX C s0.heap.objs.size s0.gens.size s a va)(h:fQ a=some items):
  Wp A (pyIter va) (λit s'=>aA s0 s'/\Ready C s0.heap.objs.size s0.gens.size s' items it) s:=by
 cases a with
 |str=>cases h;exact jrD e x
 |tup=>cases h;exact jrE hh e x
 |lst=>cases h;exact joB hh e x
 |gf=>exact jrC e x h|_=>exact nn h
end
structure fc(a:Addr)(fd:FuncData)(sc:Scope)(body:List Stmt):Prop where
 ob:∃o,V.h₀.get? a=some o/\o.data=.func fd/\o.cls=.type "function"
 VL:fd.scope=sc
 bd:fd.body=.stmts body
 cl:fd.closure=[]
 gl:fd.globals=mainGlobals
 bi:fd.builtins=builtinsNs
 code:V.h₀.CodeRec fd.code fd.qualname
 lim:V.h₀.NoLimit
 ok:Cd sc=true
 kind:sc.kind=.function
 co:sc.isCoroutine=false
 gen:sc.isGenerator=false
section
theorem je3(h:bindArgs fd args=pure b):Wp A (bindArgs fd args) (λb' s'=>b'=b/\s'=s) s:=by
 rw[h];exact bc ⟨rfl,rfl⟩
theorem jiH{A:Around}{a:Addr}{fd:FuncData}{sc:Scope}{body:List Stmt}(d:fc a fd sc body){params:List Str}{vs:List Value}{kw:List (Str×Value)}{pos:List Value}{l:LV}{η:ME}{C:AP}{sb s:Shared}{Q:Value->Shared->Prop}{E:Value->Shared->Prop}(hsb:∀b o,V.h₀.get? b=some o->sb.heap.get? b=some o)
  (hbind:∀A:Around,Wp A (bindArgs fd ⟨pos,kw⟩) (λb s'=>b=params.zip vs/\s'=s) sb)(hA:aR A (D+1))(hh:Here C s)(hvs:aV C s.heap l vs)(cL:cH (params.map λx=>PySem.Expr.Name x default) l [bQ sc]=some η)
  (hb:∀(env:Env) (C':AP) (s':Shared),env.scope=sc->env.frame=some env.locals->s.heap.objs.size<=env.locals->aA s s'->(∀b,C' b->C b)->(∀b,C b->b<s.heap.objs.size->C' b)->FA env η C' (λb=>b<s.heap.objs.size) (λi=>i<s.gens.size) s'->aR (A.deeper env) D->
   wpAny (model V.prog V.w) (A.deeper env) (execs body env) (λf s''=>Q (match f with| .ret v=>v|_=>.none) s'') (λe s''=>wpAny (model V.prog V.w) (A.deeper env) (leaving env e) (λZ s3=>E e s3) (λe' s3=>E e' s3) s'') s'):
  wpAny (model V.prog V.w) A (call (.ref a) pos kw) Q E sb:=by
 refine eO d.ob λo ho hdata Z=>?_;refine I4 (codeAny_call_function (mz (je _ _) hA.depth) (hsb a o ho) hdata (by rw[d.VL];exact d.co) (by rw[d.VL];exact d.gen) d.bd (d.code.keeps hsb) ?_);refine tmo (hbind _) (λbs sc0 qb=>?_) λZ Z f=>f.elim;refine kA qb λhq1 hq2=>?_;rw[hq1,hq2];rw[d.VL,d.cl,d.gl,d.bi];simp only[newFunctionEnv,Eg,kj,jH];refine tbn (IW ?_);refine tbn (Pa _ (λname kind cells=>by cases hkc:kind==NameKind.cell<;>simp) _ _ _ _ ?_);rw[show({s with heap:=s.heap.push {cls:=.type "frame",data:=.dict #[]}}:Shared).heap.objs.size=s.heap.objs.size+1 from fK ..];generalize hs₁:({s with heap:=pushCells (s.heap.push {cls:=.type "frame",data:=.dict #[]}) sc.names}:Shared)=s₁;generalize hen:({scope:=sc,locals:=s.heap.objs.size,globals:=mainGlobals,cells:=cellsFrom (s.heap.objs.size+1) sc.names [],qual:=fd.qualname++".<locals>.",func:=some a,code:=fd.code,frame:=some s.heap.objs.size,builtins:=builtinsNs}:Env)=env;refine kA (FA.entry hh d.ok d.kind (s₁:=s₁) (env:=env) hs₁.symm (by rw[←hen];exact nM rfl rfl rfl rfl rfl)) λfa e₁=>?_;refine tbn (tmo (jff _ (λZ Z Z=>rfl) params l vs _ η s₁ cL (hvs.mono λb ob c g=>⟨⟨c,λq=>absurd (hls g) (bw q.1)⟩,e₁.heap g⟩) fa) (λZ s₂ q=>bc ?_) λZ Z f=>f.elim);refine kA q λe₂ cO=>?_;refine⟨d.lim.keeps cO.base,codeAny_func ?_⟩;have ext2:aA s s₂:=by
  have h12:aC (λb=>¬b<s.heap.objs.size) (λi=>¬i<s.gens.size) s s₂:=aC.trans e₁.cC (aC.mono e₂ (λb Z w=>(fa.hot w).2.1) λZ Z g=>False.elim g);exact aC.mono h12 (λb hb w=>w hb) λi hi w=>w hi
 refine tmo (hb env _ s₂ (by rw[←hen]) (by rw[←hen]) (by rw[←hen];exact aN _) ext2 (λb c=>c.1) (λb c hb=>⟨c,λq=>absurd hb (bw q.1)⟩) cO hA.deeper) (λf s₃ q=>?_) λZ Z q=>q;cases f<;>exact q
theorem SJ{A:Around}{a:Addr}{fd:FuncData}{sc:Scope}{body:List Stmt}(d:fc a fd sc body){params:List Str}{vs:List Value}{kw:List (Str×Value)}{pos:List Value}{l:LV}{η:ME}{C:AP}{s:Shared}{Q:Value->Shared->Prop}{E:Value->Shared->Prop}
  (hbind:∀A:Around,Wp A (bindArgs fd ⟨pos,kw⟩) (λb s'=>b=params.zip vs/\s'=s) s)(hA:aR A (D+1))(hh:Here C s)(hvs:aV C s.heap l vs)(cL:cH (params.map λx=>PySem.Expr.Name x default) l [bQ sc]=some η)
  (hb:∀(env:Env) (C':AP) (s':Shared),env.scope=sc->env.frame=some env.locals->s.heap.objs.size<=env.locals->aA s s'->(∀b,C' b->C b)->(∀b,C b->b<s.heap.objs.size->C' b)->FA env η C' (λb=>b<s.heap.objs.size) (λi=>i<s.gens.size) s'->aR (A.deeper env) D->
   wpAny (model V.prog V.w) (A.deeper env) (execs body env) (λf s''=>Q (match f with| .ret v=>v|_=>.none) s'') (λe s''=>wpAny (model V.prog V.w) (A.deeper env) (leaving env e) (λZ s3=>E e s3) (λe' s3=>E e' s3) s'') s'):
  wpAny (model V.prog V.w) A (call (.ref a) pos kw) Q E s:=
 jiH d hh.base hbind hA hh hvs cL hb
theorem jiI{A:Around}{a:Addr}{fd:FuncData}{sc:Scope}{body:List Stmt}(d:fc a fd sc body){params:List Str}{vs:List Value}{kw:List (Str×Value)}{pos:List Value}{l:LV}{η:ME}{p:PV}{C:AP}{s0 s:Shared}
  (hbind:bindArgs fd ⟨pos,kw⟩=pure (params.zip vs))(hA:aR A (D+1))(hh:Here C s)(e:aA s0 s)(hvs:aV C s.heap l vs)(cL:cH (params.map λx=>PySem.Expr.Name x default) l [bQ sc]=some η)
  (hb:∀(env:Env) (C':AP) (s':Shared),env.scope=sc->aA s s'->(∀b,C' b->C b)->FA env η C' (λb=>b<s.heap.objs.size) (λi=>i<s.gens.size) s'->aR (A.deeper env) D->
   Wp (A.deeper env) (execs body env) (λf s''=>∃out aq,XP env C' (λb=>b<s.heap.objs.size) (λi=>i<s.gens.size) s' out aq f s''/\(match out with| .ret v=>v=p| .next=>p=.none)) s'):
  Wp A (call (.ref a) pos kw) (bK C s0 p) s:=by
 refine SJ d (λZ=>je3 hbind) hA hh hvs cL λenv C' s₂ hsc Z Z ext2 hC Z cO hR=>tmo (hb env C' s₂ hsc ext2 hC cO hR) (λf s₃ q=>?_) λZ Z f=>f.elim;obtain⟨out,aq,⟨C'',⟨cu,c1,c2⟩,q⟩,hp⟩:=q;have ext:aA s s₃:=by
  have h12:aC (λb=>¬b<s.heap.objs.size) (λi=>¬i<s.gens.size) s s₃:=aC.trans ext2.cC cu;exact aC.mono h12 (λb hb w=>w hb) λi hi w=>w hi
 have cc:∀b,C'' b->C b:=λb c=>by
  rcases c2 b c with q|q
  ·exact hC b q
  ·exact hh.cJ b (Ea.mp q)
 cases out with
 |next=>
  subst hp;obtain⟨rfl,_⟩:=q;exact⟨e.trans ext,VX.of .none⟩
 |ret v=>
  subst hp;obtain⟨u,rfl,hu⟩:=q;exact⟨e.trans ext,VX.of (hu.mono λb Z c g=>⟨cc b c,g⟩)⟩
theorem Lj{a:Addr}{fd:FuncData}{sc:Scope}{body:List Stmt}(d:fc a fd sc body){params:List Str}(hbind:∀vals:List Value,vals.length=params.length->bindArgs fd ⟨vals,[]⟩=pure (params.zip vals)){F:LV->OV}
  (hF:∀l p,F l=some p->l.all PV.plain=true/\∃η,cH (params.map λx=>PySem.Expr.Name x default) l [bQ sc]=some η/\∀(A:Around) (env:Env) (C K:AP) (KG:NP) (s:Shared),aR A D->env.scope=sc->FA env η C K KG s->
   Wp A (execs body env) (λf s''=>∃out aq,XP env C K KG s out aq f s''/\(match out with| .ret v=>v=p| .next=>p=.none)) s):Callee (D+1) F (.ref a):=by
 refine eO d.ob λo ho hdata Z=>?_;refine⟨λA pos args s Q hst h=>?_,λA s0 s C l vs p hA hh e hv hp=>?_⟩
 ·refine O4 (o:=o) (fd:=fd) (tmo h (λy s₁ q=>⟨⟨q.1 a o ho,hdata⟩,?_⟩) λZ Z f=>f.elim);rw[q.2.1];exact q.2.2
 ·refine JB (hF l p hp) λhpl η cL hb=>?_;have hvs:=hv.plain hpl;have hlen:vs.length=params.length:=by rw[←hvs.length,jg9 params l _ _ cL]
  exact jiI d (hbind vs hlen) hA hh e hvs cL λenv C' s' hs Z Z fa hR=>hb _ env C' _ _ s' hR hs fa
end
section
variable{A:Around}{S:Sp}{D:Nat}{env:Env}{C K:AP}{KG:NP}{s:Shared}
theorem jnn(x:FA env η C K KG s)(hsw:yN e y py env=false)(he:Wp A (eval e env) (bK C s v) s)(hp:v.plain=true)(hs:bM y v η=some aq):
  Wp A (exec (.Assign [.Name y py] e pos) env) (XP env C K KG s .next aq) s:=by
 refine Ab (hs:=by rw[yO,hsw]) (Wp.mono he λu s₁ q=>?_);refine Wp.mono ((x.ext q.1).store hs (lQ hp).1 (VX.of (q.2.plain hp)) λl el=>absurd el ((lQ hp).2 l)) λZ s₂ r=>?_;exact XP.one x q.1 r.1 r.2.2.2 rfl
theorem jxh(he:Wp A (eval e env) (bK C s v) s)(hp:v.plain=true):Wp A (exec (.Return (some e) pos) env) (XP env C K KG s (.ret v) η) s:=
 IK (Wp.mono he λu s₁ q=>Bd C (.ext q.1) u rfl (q.2.plain hp))
theorem jri{st:Stmt}{r:List Stmt}{aD:ME}{P:Out->ME->Prop}(h1:Wp A (exec st env) (XP env C K KG s .next aD) s)
  (h2:∀(C1:AP) (s₁:Shared),FA env aD C1 K KG s₁->Wp A (execs r env) (λf s₂=>∃o aq,XP env C1 K KG s₁ o aq f s₂/\P o aq) s₁):
  Wp A (execs (st::r) env) (λf s₂=>∃o aq,XP env C K KG s o aq f s₂/\P o aq) s:=by
 exact dI (Wp.cont h1 λC1 s₁ y fa=>Wp.mono (h2 C1 s₁ fa) λf s₂ ⟨o,aq,q,hp⟩=>fP o aq (q.after y) hp)
end
def Lk(T:Sp)(n:Nat)(params:List Str)(sc:Scope)(x:Str)(e:PE)(l:LV):Option (ME×Int):=
 if l.all PV.plain then(cH (params.map λx=>PySem.Expr.Name x default) l [bQ sc]).bind λη=>if lL η x&& !(x==("__debug__":Str)) then((aG T n η e).bind PV.asInt).map λi=>(η,i) else none else none
def jtf(mem:Int->Bool)(T:Sp)(n:Nat)(params:List Str)(sc:Scope)(x:Str)(e:PE)(l:LV):OV:=
 (Lk T n params sc x e l).map λp=>.bool (mem p.2)
noncomputable def jDb:Out->PV
 | .ret v=>v| .next=>.none
noncomputable def strOr:Option Str->PV
 |some s=>.str s.cps.toList|none=>.none
def SM(pL:Int->Option Str)(T:Sp)(n:Nat)(params:List Str)(sc:Scope)(x r:Str)(e:PE)(rest:List Stmt)(l:LV):OV:=
 (Lk T n params sc x e l).bind λp=>(bM r (strOr (pL p.2)) p.1).bind λaD=>(dK (bh T n) aD rest).map λq=>jDb q.1
theorem jfD(h:Lk T n params sc x e l=some (η,i)):
  l.all PV.plain=true/\cH (params.map λx=>PySem.Expr.Name x default) l [bQ sc]=some η/\lL η x=true/\(x==("__debug__":Str))=false/\aG T n η e=some (.int i):=by
 refine cY h ?_;clear h;intro hp h;refine aM h ?_;clear h;intro aq h1 h;refine cY h ?_;clear h;intro hg h;refine mH h ?_;clear h;intro i' hi e';cases e';refine aM hi ?_;clear hi;intro p h3 h4;refine fM hg ?_;clear hg;intro g1 g2;exact nM hp h1 g1 (by simpa using g2) (by rw[h3,PV.nF h4])
section
variable{T:Sp}{D:Nat}
theorem jnD{cp:Pos}(d:fc a fd sc [.Return (some (.Compare e [.In] [.Name x xp] cp)) rp])(O:Ops D T)
  (hbind:∀vals:List Value,vals.length=params.length->bindArgs fd ⟨vals,[]⟩=pure (params.zip vals))(hb:bW x (.ref b))(hS:V.h₀.SetOf (intKind V.prog V.w) b mem m):
  Callee (D+1) (jtf mem T n params sc x e) (.ref a):=by
 refine Lj d hbind λl p h=>?_;refine aH (iM h) λbC ha h=>?_;obtain⟨η,i⟩:=bC
 ·cases h;refine rm (jfD ha) λhp cL hg hd he=>?_;refine kY hp η cL (λA env C K KG s hA Z fa=>?_);have hev:Wp A (eval (.Compare e [.In] [.Name x xp] cp) env) (bK C s (.bool (mem i))) s:=by
   refine wpAny_Compare1 (hm:=rfl) (Wp.mono ((sound hA O n).1 η e env C K KG s _ fa he) λva s₁ q=>Wp.mono (hb.load (fa.ext q.1) hg hd) λvb s₂ Ey=>?_);refine kA Ey λeq1 eq2=>?_;subst eq1;subst eq2;refine kE q.2.vB λt bB=>?_;subst bB;have hS':s₂.heap.SetOf (intKind V.prog V.w) b mem m:=by
    refine rn hS λo es ep t ho r=>?_;exact Ff o es ep t ((fa.ext q.1).base b o ho) r
   exact wpAny_inSet_of (knd:=intKind V.prog V.w) (k:=i) (by show(i==i)=true;simp) rfl hS' ⟨q.1.trans aA.toks,VX.of (.bool _)⟩
  refine dI (Wp.mono (jxh (K:=K) (KG:=KG) (η:=η) hev rfl) λf s₁ q=>?_);refine Xf q λC1 y u eq1 hv=>?_;subst eq1;exact fP (.ret (.bool (mem i))) η (Bd C1 y u rfl hv) rfl
def Ln(b:Addr)(pL:Int->Option Str):Prop:=(b==sysModules)=false/\∃f,V.h₀.MapOf (intKind V.prog V.w) b f/\∀i,(match pL i with|some s=>∃t,f i=some (.str s t)|none=>f i=none)
theorem Ln.at(hT:Ln b pL){s:Shared}(hb:∀b o,V.h₀.get? b=some o->s.heap.get? b=some o):∃f,s.heap.MapOf (intKind V.prog V.w) b f/\∀i,(match pL i with|some s=>∃t,f i=some (.str s t)|none=>f i=none):=by
 refine JB hT λZ f bC hf=>?_;obtain⟨o,es,ep,ho,r⟩:=bC;exact aW f (jU o es ep (hb b o ho) r) hf
theorem jl5{a b:Addr}{fd:FuncData}{sc:Scope}{params:List Str}{n:Nat}{pL:Int->Option Str}{e:PE}{x r:Str}{xp rp ap cp pp:Pos}{rest:List Stmt}(hline:(ap.endLine==cp.line)=true)
  (d:fc a fd sc (.Assign [.Name r rp] (.Call (.Attribute (.Name x xp) "get" ap) [e] [] cp) pp::rest))(O:Ops D T)
  (hbind:∀vals:List Value,vals.length=params.length->bindArgs fd ⟨vals,[]⟩=pure (params.zip vals))(hb:bW x (.ref b))(hT:Ln b pL):
  Callee (D+1) (SM pL T n params sc x r e rest) (.ref a):=by
 refine Lj d hbind λl p h=>?_;refine aH (bx h) λbC ha h=>?_;obtain⟨η,i⟩:=bC;refine aM h ?_;clear h;intro aD hs h;refine aH (iM h) λbC hq h=>?_;obtain⟨out,cN⟩:=bC
 ·cases h;refine rm (jfD ha) λhp cL hg hd he=>?_;refine kY hp η cL (λA env C K KG s hA Z fa=>?_);have hev:Wp A (eval (.Call (.Attribute (.Name x xp) "get" ap) [e] [] cp) env) (bK C s (strOr (pL i))) s:=by
   rw[u0,mQ (by rfl)];refine Wp.bind (hb.load fa hg hd) λov s₁ q=>tbn (gr ?_);refine kA q λeq1 eq2=>?_;subst eq1;subst eq2;refine kA (noStar (S:=T) (n:=n) (η:=η) (env:=env) (pos:=cp) (es:=[e]) (l:=[.int i]) (aK he aO)) λq1 q2=>?_;have hm:=yP (A:=A) (T:="dict") (id:="dict.get") (m:="get") (o:=.Name x xp) (apos:=ap) (pos:=cp) (env:=env) (ov:=.ref b) (trees:=backTo cp (starEach [e] env)) (Q:=bK C s₁ (strOr (pL i))) (s:=s₁) hline (by rw[q2];show 1<20;decide) q1 ?_ ?_
   ·rw[q2] at hm;exact hm
   ·refine aH (hT.at (s:=s₁) fa.base) λf hf Z=>?_;refine Ej hf.typeIs PySem.F.plainAttrs_dict PySem.F.slot_dict_get PySem.F.type_dict_get (λa' ea=>?_) ⟨rfl,rfl⟩;refine Ba hf λo es ep ho hex Z=>?_;cases ea;exact aW o ho hex.2.1
   ·refine Wp.mono (lO (sound hA O n).1 [e] s₁ s₁ [.int i] aC.refl fa (aK he aO)) λvs s₂ q=>?_;refine oW vs q.2.one λv hv=>?_;refine cR v hv.vB λt=>?_;refine aH (hT.at (s:=s₂) (fa.ext q.1).base) λf hf hfi=>?_;refine call_meetsIn PySem.F.slot_dict_get hf.typeIs PySem.F.entry_dict_get (PySem.F.args_dict_get_2 _ _) (meets_dict_get (intKind V.prog V.w) b (k:=i) (by show(i==i)=true;simp) hT.1) (aW f hf ?_);have hi:=hfi i;cases ht:pL i with
    |none=>
     rw[ht] at hi;rw[hi];exact⟨q.1.trans aA.toks,VX.of .none⟩
    |some str=>
     rw[ht] at hi;refine kE hi λt' hi=>?_;rw[hi];refine⟨q.1.trans aA.toks,VX.of ?_⟩;exact VR.str (C:=C) (h:=s₂.heap) str.cps.toList t'
  have hpl:(strOr (pL i)).plain=true:=by cases pL i<;>rfl
  refine jri (jnn fa (by rfl) hev hpl hs) λC1 s₁ dM=>?_;exact Wp.mono (yL (mV hA O n) rest aD env C1 K KG s₁ out cN dM hq) λf s₂ q=>fP out cN q (by cases out<;>rfl)
end
theorem Lp:Slot "re.Pattern" "search" "re.Pattern.search":=
 .of (owner:="re.Pattern") (n:="search") (by rw[qd,pZ];kernel_rfl) (by decide+kernel) (by decide+kernel) (by decide+kernel)
  (by first|exact .inl (by decide+kernel)|exact .inr (by decide+kernel)) (by rw[isSubtype_type];kernel_rfl)
theorem jgB:typeOf (.builtin "re.Pattern.search")=pure (.type "method_descriptor"):=by show builtinType _=_;rw[builtinType_eq_fast];kernel_rfl
theorem jiR:entryFor table "re.Pattern.search"=some Builtin.«re.Pattern.search»:=entryFor_of_tree ⋯
theorem jcu:PlainAttrs "re.Pattern":=
 ⟨(aW ("object.__getattribute__") (by rw[qd,pZ];kernel_rfl) (by decide+kernel)),by rw[qd,pZ];kernel_rfl⟩
theorem jjW(a b:Value):argsOk "re.Pattern.search" ⟨[a,b],[]⟩:=by
 unfold argsOk;kernel_rfl
section
open PySem PySem.W PyProof.Rows PySem.Calls PySem.Builtin PySem.Builtin.Re
theorem jo6(v:Value):reNamed "re.Pattern.search" "search" ["string","pos","endpos"] 1 [v] []=pure [some v,none,none]:=⋯
noncomputable def jA(c:Nat):Bool:=decide (31<c)&&decide (c≠127)
structure mW(code:Array Nat):Prop where
 info:Sre.ops[code.getD 0 0]?=some .INFO
 four:code.getD 2 0=4
 one:code.getD 3 0=1
 set:∀c seen,jA c=true->∃km,Sre.inSet code c code.size 5 true seen=.ok (false,km)
theorem SN:mW #[14,10,4,1,1,22,0,31,16,127,0,13,7,22,0,31,16,127,0,1] where
 info:=rfl
 four:=rfl
 one:=rfl
 set:=λc seen h=>by
  simp only[jA,eN,iw] at h;have h1:(decide (0<=c)&&decide (c<=31))=false:=by simp;lia
  have h2:(c==127)=false:=by simp[h.2]
  refine⟨((seen.add 22).add 16).add 0,?_⟩;show(if (decide (0<=c)&&decide (c<=31))=true then _ else if (c==127)=true then _ else _)=_;rw[h1,h2];rfl
theorem jyO:∀c,c<256->(decide (31<c)&&decide (c≠127))=true->(((#[14,14,4,1,1,9,4294966783,0,0,2147483648,0,0,0,0,0,13,11,9,4294966783,0,0,2147483648,0,0,0,0,0,1]:Array Nat).getD (5+(1+c / 32)) 0).testBit (c % 32))=false:=by decide+kernel
theorem SQ:mW #[14,14,4,1,1,9,4294966783,0,0,2147483648,0,0,0,0,0,13,11,9,4294966783,0,0,2147483648,0,0,0,0,0,1] where
 info:=rfl
 four:=rfl
 one:=rfl
 set:=λc seen h=>by
  have h1:(decide (c<256)&&(((#[14,14,4,1,1,9,4294966783,0,0,2147483648,0,0,0,0,0,13,11,9,4294966783,0,0,2147483648,0,0,0,0,0,1]:Array Nat).getD (5+(1+c / 32)) 0).testBit (c % 32)))=false:=by
   by_cases hc:c<256
   ·rw[jyO c hc h,xj]
   ·simp[hc]
  refine⟨(seen.add 9).add 0,?_⟩;show(if (decide (c<256)&&(((#[14,14,4,1,1,9,4294966783,0,0,2147483648,0,0,0,0,0,13,11,9,4294966783,0,0,2147483648,0,0,0,0,0,1]:Array Nat).getD (5+(1+c / 32)) 0).testBit (c % 32)))=true then _ else _)=_;rw[h1];rfl
theorem jhs(hm:mW m.code)(hl:m.lim<=m.text.size)(ht:∀c∈m.text.toList,jA c=true):∀(fuel s:Nat) (seen:Sre.Seen),∃km,Sre.M.admitted m fuel s seen=.ok (none,km):=λfuel=>fuel.recAux
  (λs seen=>⟨seen,rfl⟩)
  λfuel ih s seen=>by
  unfold Sre.M.admitted;by_cases h:s≥m.lim
  ·rw[aX h];exact⟨seen,rfl⟩
  ·rw[aZ h];have hs:s<m.text.size:=by lia
   have hc:jA (m.text.getD s 0)=true:=by
    have e:m.text.getD s 0=m.text[s]:=by simp[Array.getD,hs]
    rw[e];exact ht _ (by simp)
   refine kE (hm.set (m.text.getD s 0) seen hc) λkm e=>?_;rw[e];exact ih (s+1) km
structure GK(m:Sre.M):Prop where
 answer:m.answer=some false
 frames:m.frames=[]
 outcome:m.outcome=none
theorem joe{m:Sre.M}(hm:mW m.code)(hl:m.lim<=m.text.size)(ht:∀c∈m.text.toList,jA c=true)(hf:m.frames=[])(ho:m.outcome=none)(s:Nat):GK (m.attemptFrom s true):=by
 have h1:m.hasFirstSet=true:=by
  unfold Sre.M.hasFirstSet;rw[hm.info,hm.four];rfl
 unfold Sre.M.attemptFrom;rw[h1];refine kE (jhs hm hl ht (m.lim+1-s) s m.seen) λkm e=>?_;rw[e];exact⟨rfl,hf,ho⟩
theorem jkH{code text:Array Nat}(hm:mW code)(ht:∀c∈text.toList,jA c=true):GK (Sre.forSearch code text 0 0 text.size false):=by
 unfold Sre.forSearch;dsimp only;split
 ·exact⟨rfl,rfl,rfl⟩
 ·exact joe hm (aN _) ht rfl rfl 0
theorem jpV(h:GK m):m.step={m with outcome:=some .failed}:=by
 unfold Sre.M.step;rw[h.outcome,h.answer,h.frames];rfl
section
theorem jme(h:GK m)(hq:Q {m with outcome:=some .failed} s):wpAny M A (reDrive (n+1) m) Q E s:=by
 have e:m.runFor reTurnSteps={m with outcome:=some .failed}:=by
  show Sre.M.runFor (3+1) m=_;show(if m.outcome.isSome then m else Sre.M.runFor 3 m.step)=_;rw[h.outcome,jpV h];rfl
 show wpAny _ _ (if (m.runFor reTurnSteps).outcome.isSome=true then pure (m.runFor reTurnSteps) else _) _ _ s;rw[e];exact bc hq
theorem S5{f:Nat->PUnit->Sem (ForInStep PUnit)}(hf:∀i u (Q:ForInStep PUnit->Shared->Prop),Q (.yield ⟨⟩) s->wpAny M A (f i u) Q E s):∀(l:List Nat) {Q:PUnit->Shared->Prop},Q ⟨⟩ s->wpAny M A (forIn l PUnit.unit f) Q E s
 |[],Q,h=>bc h
 |x::l,Q,h=>by
  rw[An];exact tbn (hf x _ _ (S5 hf l h))
theorem jm8(h:GK m)(hq:Q none s):wpAny M A (reRunToEnd m) Q E s:=by
 unfold reRunToEnd;refine tbn (m:=reDrive (2 ^ 64) m) ?_;show wpAny M A (reDrive ((2 ^ 64-1)+1) m) _ _ s;refine jme h ?_;refine tbn (S5 (λi u Q hq=>?_) _ ?_)
 ·split
  ·exact tbn (En (bc hq))
  ·exact bc hq
 ·exact bc hq
end
structure lg(h:Heap)(p:Addr)(code:Array Nat):Prop where
 ob:∃o q vs oq n,h.get? p=some o/\o.cls=.type "re.Pattern"/\o.dict=none/\(∃f0 f1 f3 f4,o.data=.fields #[f0,f1,.int 0 0,f3,f4,.ref q,.int 0 0])/\h.get? q=some oq/\oq.data=.seq vs n/\(vs.map reRawOf).map (·.toNat)=code
section
theorem jhf{p:Addr}{code:Array Nat}{x:List Nat}{t:Tok}{Q:Value->Shared->Prop}(hp:lg s.heap p code)(hl:x.length<1000000000000)
  (h:∀(T:ReTarget) (A':Around) (E':Value->Shared->Prop) (P:PySem.Fin->Shared->Prop),T.groups=0->(∀r s',Q r s'->P (.done (.ret r)) s')->wpAny (model V.prog V.w) A' (reAnswer T (Sre.forSearch code (⟨x.toArray⟩:Str).cps 0 0 (⟨x.toArray⟩:Str).cps.size false)) P E' s):
  Wp A (call (.builtin "re.Pattern.search") [.ref p,.str ⟨x.toArray⟩ t] []) Q s:=by
 refine qw hp.ob λo q vs oq n ho hc hdn zz=>cW zz λbC hoq hdq hcode=>?_;obtain⟨f0,f1,f3,f4,hd⟩:=bC;refine I4 (codeAny_call_builtin Lp.plain jiR (Lp.check _ _ _ _ _ _ _ _ (aW o ho hc) (jjW _ _) ?_));show wpAny _ _ (reTarget "re.Pattern.search" "search" ⟨[.ref p,.str ⟨x.toArray⟩ t],[]⟩>>=_) _ _ s;refine tbn ?_;unfold reTarget;dsimp only;rw[jo6];refine tbn (bc ?_);dsimp only;refine tbn (bc ?_);refine tbn (bc ?_);refine tbn (wpAny_fieldsOf ho hd ?_);refine tbn (m:=reTextOf _) (bc ?_);refine tbn (m:=reNoCollectionInside _ 0) (bc ?_);refine tbn (m:=reRawItems (.ref q)) ?_
 ·unfold reRawItems;refine tbn (m:=seqItems? (.ref q)) ?_;unfold seqItems?;refine tbn (wpAny_load hoq ?_);rw[hdq];refine bc (bc (bc ?_));have hcode':Array.map (λx=>x.toNat) (Array.map reRawOf ((some vs).getD #[]))=code:=hcode;dsimp only;rw[hcode'];have hlim:min ((2 ^ 63-1:Int)).toNat (⟨x.toArray⟩:Str).cps.size=(⟨x.toArray⟩:Str).cps.size:=by
   simp only[my];have:((2 ^ 63-1:Int)).toNat=9223372036854775807:=by decide
   lia
  show wpAny _ _ (reAnswer _ (Sre.forSearch code (⟨x.toArray⟩:Str).cps 0 0 (min ((2 ^ 63-1:Int)).toNat (⟨x.toArray⟩:Str).cps.size) false)) _ _ s;rw[hlim];exact h _ _ _ _ rfl λr s' q=>q
theorem jpC{p:Addr}{code:Array Nat}{x:List Nat}{t:Tok}(hp:lg s.heap p code)(ha:mW code)(hx:x.all jA=true)(hl:x.length<1000000000000):
  Wp A (call (.builtin "re.Pattern.search") [.ref p,.str ⟨x.toArray⟩ t] []) (λv s'=>v=.none/\s'=s) s:=
 jhf hp hl λZ Z Z Z Z q=>tbn (jm8 (jkH (text:=(⟨x.toArray⟩:Str).cps) ha λc hc=>cU.mp hx c (by simpa using hc)) (bc (q _ _ ⟨rfl,rfl⟩)))
end
end
section
noncomputable def jDl:PV->Option String
 | .str _=>some "str"| .lst _=>some "list"| .own _=>some "list"| .tup _=>some "tuple"|_=>.none
def jxO(l:LV):OV:=(dF l).bind λp=>(jDl p).map PV.typ
theorem juX:Callee D jxO (.type "type") where
 cw:=Lh _
 ok:=λA s0 s C l vs p hA hh e hx h=>by
  refine cP vs (v7 hx h) λq v x h=>?_;refine eY p (iM h) λT hT=>?_;cases q with
  |str=>
   cases hT;refine cR v x.iv λt=>?_;exact Iv (typeIs_str s _ t) ∅ ⟨e,VX.of (.typ _)⟩
  |tup=>
   cases hT;refine cP v x.iv λa vs ho Z=>?_;exact Iv ho.typ ∅ ⟨e,VX.of (.typ _)⟩
  |lst=>
   cases hT;refine cP v x.iv λa vs ho Z=>?_;exact Iv ho.typ ∅ ⟨e,VX.of (.typ _)⟩
  |own=>
   cases hT;refine cP v x.iv λa vs ho Z=>?_;exact Iv ho.typ ∅ ⟨e,VX.of (.typ _)⟩
  |_=>exact nn hT
theorem S6{A:Around}{a:Addr}{fd:FuncData}{sc:Scope}{body:List Stmt}(d:fc a fd sc body){params:List Str}{vs:List Value}{kw:List (Str×Value)}{pos:List Value}{l:LV}{η:ME}{C:AP}{s:Shared}{Q:Value->Shared->Prop}
  (hbind:∀A:Around,Wp A (bindArgs fd ⟨pos,kw⟩) (λb s'=>b=params.zip vs/\s'=s) s)(hA:aR A (D+1))(hh:Here C s)(hvs:aV C s.heap l vs)(cL:cH (params.map λx=>PySem.Expr.Name x default) l [bQ sc]=some η)
  (hb:∀(env:Env) (C':AP) (s':Shared),env.scope=sc->env.frame=some env.locals->aA s s'->(∀b,C' b->C b)->(∀b,C b->b<s.heap.objs.size->C' b)->FA env η C' (λb=>b<s.heap.objs.size) (λi=>i<s.gens.size) s'->aR (A.deeper env) D->
   Wp (A.deeper env) (execs body env) (λf s''=>Q (match f with| .ret v=>v|_=>.none) s'') s'):
  Wp A (call (.ref a) pos kw) Q s:=
 SJ d hbind hA hh hvs cL λenv C' s' h1 h2 Z h4 h5 h6 h7 h8=>tmo (hb env C' s' h1 h2 h4 h5 h6 h7 h8) (λZ Z q=>q) λZ Z f=>f.elim
end
section
variable{A:Around}{S:Sp}{D:Nat}{env:Env}{η:ME}{C K:AP}{KG:NP}{s:Shared}
theorem jmi(hA:aR A D)(O:Ops D S)(x:FA env η C K KG s)(h:aG S (n+1) η (.ListComp elt gens sc pos)=some (.lst l)):
  Wp A (eval (.ListComp elt gens sc pos) env) (jj C s l) s:=by
 obtain⟨out,he,hsc,hga,uW⟩:=Sd hA O (sound hA O n).1 (sound hA O n).2.1 x h;cases he;rw[eval_ListComp,hga];refine dZ uW λbC gs eq2 jVe hf hrun=>?_;obtain⟨WK,Wk,WL,as0⟩:=bC;subst eq2;have hn:=(vY hsc).2;refine O8 (use:=none) rfl hf (R3 (x.Ad hsc)) (vY hsc).1 (λy hy hl=>by obtain⟨y,k⟩:=y;cases hl;exact(hn y _ hy).1) ?_;refine hrun (λacc L=>compPost (model V.prog V.w) A iW none (jj C s l) acc L) λDc L s' m=>?_;refine kE m.ns λns hns=>?_;refine aW ns hns (λh' sb=>?_);have e:aC (λb=>b=L) no s' {s' with heap:=h'}:=⟨λb o nb g=>sb.extBut b o nb g,by show _<=h'.objs.size;rw[sb.1];exact aN _,λZ Z Z g=>g,aN _,id,rfl⟩;refine aH m.acc λvs hl hv=>?_;refine Fg (aC.Aw m.ext e (λb q=>q▸m.hL.1) λZ g=>False.elim g) Dc vs rfl m.hD.1 (hl.extBut sb.extBut m.hD.2.2) ?_;exact hv.mono λb o c g=>⟨⟨c.1,c.2.2⟩,sb.extBut b o c.2.1 g⟩
theorem jj.post(hh:∀a,s0.heap.objs.size<=a->C a)(x:jj C s0 l v s'):bK C s0 (.lst l) v s':=by
 refine xF x λe a vs eq1 ha ho hv=>?_;subst eq1;exact⟨e,VX.of (.lst (hh a ha) ho (hv.mono λb o c g=>⟨c.1,g⟩))⟩
theorem jkb{n:Nat}(O:Ops D S)(hA:aR A D)(x:FA env η C K KG s){l:PE}{lo up:Option PySem.Expr}{i j:Option Int}{pos q:Pos}{rows:LV}
  (ha:aG S n η l=some (.lst rows))(hi:xN (match lo with|some y=>aG S n η y|none=>some .none)=some i)(hj:xN (match up with|some y=>aG S n η y|none=>some .none)=some j)(hk:aL rows.length=true):
  Wp A (eval (.Subscript l (.Slice lo up none q) pos) env) (jj C s (fX rows i j)) s:=by
 have h:=(sound hA O n).1;refine Ir (Wp.mono (h η l env C K KG s _ x ha) λva s₁ h₁=>?_);rw[RZ];refine Wp.bind (BV h (x.ext h₁.1) hi) λvl s₂ h₂=>tbn (dJ (Wp.mono (BV h (x.ext (h₁.1.trans h₂.2)) hj) λvu s₃ h₃=>?_));refine tbn (dJ (bc ?_));have e3:aA s s₃:=h₁.1.trans (h₂.2.trans h₃.2);refine u5 (hd:=by size_fits) ?_;have e4:aA s₃ {s₃ with heap:=s₃.heap.push {cls:=.type "slice",data:=.fields #[vl,vu,.none]}}:=aA.jt;have hv:=((h₁.2.ext (h₂.2.trans h₃.2)).ext e4);refine K8 (jox hv rfl) ?_;refine cP va (hv.q9 (.inl rfl)) λa vs ho hvs=>?_;refine O9 ho.isList (cG _ (iJ _ rfl) rfl rfl) (Ce h₂.1) (Ce h₃.1) .none (by simp) ?_ ?_
 ·refine Fg ((e3.trans e4).trans aA.jt) _ (fX vs i j) rfl ((e3.trans e4).size) ?_ ?_
  ·rw[jex];exact cj.new _ _
  ·exact(hvs.cut i j).mono λb o c g=>⟨⟨c,iI (hls g)⟩,fO _ g⟩
 ·rw[hvs.length] at hk;exact ph hk
end
structure lR(mN:Str->Option Value):Prop where
 cls:∃N,ClsAt V.h₀ V.hc N mN
 ga:mN "__getattribute__"=none
 gt:mN "__getattr__"=none
 hd:mN "_headers"=none
section
theorem S7(x:VR C h (.hdr rows) v):∃a m l,v=.ref a/\h.Inst a V.hc m/\m ("_headers":Str)=some l/\(∃b,l=.ref b)/\(∀n,n≠("_headers":Str)->m n=none)/\VR C h (.lst rows) l:=by
 cases x with|hdr cx cd hx hcls hdat hdict hne hns hm hn hl=>exact Qz _ _ _ rfl (ru _ hx hcls hdat (.inr (cG _ hdict hne hns))) hm ⟨_,rfl⟩ hn hl
theorem S8:typeLookup (.type "object") "_headers"=pure none:=by rw[qd,pZ];kernel_rfl
theorem jqE(X:lR mN)(hb:∀b o,V.h₀.get? b=some o->s.heap.get? b=some o)(x:VR C s.heap (.hdr rows) ov):Wp A (getAttr ov "_headers" true) (λv s'=>aA s s'/\VR C s'.heap (.lst rows) v) s:=by
 refine JG (S7 x) λa m l eq1 I hm nj hn hl=>?_;subst eq1;obtain⟨b,rfl⟩:=nj;refine kE X.cls λN Xc=>?_;refine xG ((Xc.keeps hb).obj) λnm q bs sn sub col dd k0 k1 k2 k3 k5 hC=>?_;obtain⟨h,g,d,t,os⟩:=s;exact load_attr (expr:=true) hC (Xc.keeps hb).ns X.ga X.hd S8 I hm (by rfl) ⟨aA.toks,VR.ext (s:=⟨h,g,d,t,os⟩) (s':=⟨h,g,d,t+1,os⟩) aA.toks hl⟩
theorem jeg(X:lR mN)(hb:∀b o,V.h₀.get? b=some o->s.heap.get? b=some o)(x:VR C s.heap (.hdr rows) ov)
  (hf:mN m=some (.ref f))(F:fc f fd sc body)(hB:typeLookup (.type "object") m=pure y)(hne:m≠"_headers"):Wp A (getMethod ov m pl) (λr s'=>r=(.ref f,[ov])/\s'=s) s:=by
 refine JG (S7 x) λa mA l eq1 I hm nj hn hl=>?_;subst eq1;obtain⟨b,rfl⟩:=nj;refine kE X.cls λN Xc=>?_;refine xG ((Xc.keeps hb).obj) λnm q bs sn sub col dd k0 k1 k2 k3 k5 hC=>?_;refine eO F.ob λo ho Z hoc=>?_;obtain⟨h,g,d,t,os⟩:=s;exact method_of hC (Xc.keeps hb).ns X.ga X.gt hf (hb f o ho) hoc hB I (hn m hne) ⟨rfl,rfl⟩
theorem GP(X:lR mN)(hb:∀b o,V.h₀.get? b=some o->s.heap.get? b=some o)(x:VR C s.heap (.hdr rows) ov)
  (hf:mN m=some (.ref f))(F:fc f fd sc body)(hB:typeLookup (.type "object") m=pure y)(hne:m≠"_headers")
  (hline:(apos.endLine==pos.line)=true)(hfew:trees.length<20)(hplain:(trees.all λx=> !x.1)=true)
  (h:Wp A (spliced trees) (λvs s₁=>aA s s₁/\wpAny (model V.prog V.w) A (call (.ref f) (ov::vs) []) Q E s₁) s):wpAny (model V.prog V.w) A (methodCall o m apos pos env ov trees.length trees []) Q E s:=by
 have hform:methodCallForm trees.length trees []=true:=by
  unfold methodCallForm;simp only[hplain,Eu,mF,u9,List.isEmpty_nil,gZ,Nat.add_zero,iw];lia
 have hpos:methodCallPos true o env apos pos=pure pos:=by unfold methodCallPos;simp[hline]
 refine eO F.ob λob hob hdat Z=>?_;unfold methodCall;rw[hform];refine tbn (dJ ?_);show wpAny _ _ (getMethod ov m _) _ _ s;refine tmo (jeg X hb x hf F hB hne) (λr s₁ q=>?_) λZ Z f=>f.elim;refine kA q λeq1 eq2=>?_;subst eq1;subst eq2;refine tbn (u6 hpos ?_);exact O4 (o:=ob) (fd:=fd) (tmo (vX hplain (Wp.mono h λvs s₂ h₂=>(⟨⟨aA.heap h₂.1 (hb f ob hob),hdat⟩,h₂.2⟩:(s₂.heap.get? f=some ob/\ob.data=.func fd)/\wpAny (model V.prog V.w) A (call (.ref f) (ov::vs) []) Q E s₂))) (λZ Z q=>q) λZ Z f=>f.elim)
theorem js9(X:lR mN)(hb:∀b o,V.h₀.get? b=some o->s.heap.get? b=some o)(x:VR C s.heap (.hdr rows) ov)
  (hf:mN m=some (.ref f))(F:fc f fd sc body)(hB:typeLookup (.type "object") m=pure y)(hne:m≠"_headers")
  (hline:(apos.endLine==pos.line)=true)(hfew:trees.length<20)(hplain:(trees.all λx=> !x.1)=true)(hkt:∀s₁,Wp A kt (λv s₂=>v=.bool b/\s₂=s₁) s₁)
  (h:Wp A (spliced trees) (λvs s₁=>aA s s₁/\wpAny (model V.prog V.w) A (call (.ref f) (ov::vs) [(k,.bool b)]) Q E s₁) s):wpAny (model V.prog V.w) A (methodCall o m apos pos env ov (trees.length+1) trees [(some k,kt)]) Q E s:=by
 have hform:methodCallForm (trees.length+1) trees [(some k,kt)]=true:=by
  unfold methodCallForm;simp only[hplain,jR,Eu,OD,mF,u9,List.isEmpty_cons,kj,jH,iw];lia
 have hpos:methodCallPos true o env apos pos=pure pos:=by unfold methodCallPos;simp[hline]
 refine eO F.ob λob hob hdat Z=>?_;unfold methodCall;rw[hform];refine tbn (dJ ?_);show wpAny _ _ (getMethod ov m _) _ _ s;refine tmo (jeg X hb x hf F hB hne) (λr s₁ q=>?_) λZ Z f=>f.elim;refine kA q λeq1 eq2=>?_;subst eq1;subst eq2;refine tbn (u6 hpos ?_);cases trees with
 |nil=>
  refine callWith_function_kw (o:=ob) (fd:=fd) ?_;unfold evalArgs;show wpAny _ _ (spliced []>>=_) _ _ _;refine tbn (tmo h (λvs s₂ h₂=>?_) λZ Z f=>f.elim);refine tbn (bc ?_);refine dJ ?_;simp only[jR,Eu,OD,mF,gZ];refine tbn (wpAny_evalAll_cons (tmo (hkt s₂) (λv s₃ q=>?_) λZ Z f=>f.elim));refine kA q λeq1 eq2=>?_;subst eq1;subst eq2;exact wpAny_evalAll_nil (tbn (bc (bc ⟨⟨aA.heap h₂.1 (hb f ob hob),hdat⟩,h₂.2⟩)))
 |cons t r=>
  obtain⟨st,tr⟩:=t;simp only[jR,eN,qY] at hplain;refine kA hplain λeq1 Z=>?_;subst eq1;refine callWith_function_kw (o:=ob) (fd:=fd) (evalArgs_kw rfl (tmo h (λvs s₂ h₂=>?_) λZ Z f=>f.elim));refine wpAny_evalAll_cons (tmo (hkt s₂) (λv s₃ q=>?_) λZ Z f=>f.elim);refine kA q λeq1 eq2=>?_;subst eq1;subst eq2;exact wpAny_evalAll_nil ⟨⟨aA.heap h₂.1 (hb f ob hob),hdat⟩,h₂.2⟩
end
set_option tactic.hygienic true
section
theorem jqO(d:fc a fd sc body)(O:Ops D T)
  (hbind:bindArgs fd ⟨pos,kw⟩=pure (params.zip vs))(hA:aR A (D+1))(hh:Here C s)(e:aA s0 s)(hvs:aV C s.heap l vs)(hp:iU T n params sc body l=some p):Wp A (call (.ref a) pos kw) (bK C s0 p) s:=by
 unfold iU at hp;refine aH (bx hp) λη cL hp=>?_;refine aH (bx hp) λbC hb hp=>?_;obtain⟨out,aq⟩:=bC;refine jiI d hbind hA hh e hvs cL λenv C' s' Z Z Z fa hR=>?_;refine Wp.mono (yL (mV hR O n) body η env C' _ _ s' out aq fa hb) λf s'' q=>fP out aq q ?_;cases out<;>cases hp<;>rfl
end
structure jvg(D:Nat)(mN:Str->Option Value)(clean:List Nat->Bool):Prop where
 run:∃f fd sc body T n,mN "_convert_string_type"=some (.ref f)/\fc f fd sc body/\Ops D T/\
  (∀ov v b,bindArgs fd ⟨[ov,v],[("name",.bool b)]⟩=pure ((["self","value","name"]:List Str).zip [ov,v,.bool b]))/\
  (∀rows s b,clean s=true->iU T n ["self","value","name"] sc body [.hdr rows,.str s,.bool b]=some (.str s))
noncomputable def PV.xq:PV->Option (LV)
 | .hdr a=>some a|_=>.none
theorem PV.sE{p:PV}{i:LV}:p.xq=some i->p=.hdr i:=by cases p<;>first|exact nn|(intro h;cases h;rfl)
noncomputable def Cm(clean:List Nat->Bool)(m:Str)(a:PV)(l:LV)(k:Str)(_:Bool):OV:=
 if m==("_convert_string_type":Str)&&k==("name":Str) then(a.xq.bind λZ=>(dF l).bind λq=>q.bV.bind λs=>if clean s then some (.str s) else .none) else .none
noncomputable def GQ(m:Str)(a:PV):OV:=if m==("_headers":Str) then a.xq.bind λrows=>some (.lst rows) else .none
theorem joR:typeLookup (.type "object") "_convert_string_type"=pure none:=by rw[qd,pZ];kernel_rfl
section
theorem S9(X:lR mN)(hh:Here C s)(e:aA s0 s)(x:VX C s0.heap.objs.size s0.gens.size s a ov)(h:GQ m a=some p):Wp A (getAttr ov m true) (bK C s0 p) s:=by
 unfold GQ at h;refine kA (dq h) λhm h=>?_;have hm:=bO.mp hm;subst hm;refine aH (bx h) λrows h1 h=>?_;cases PV.sE h1;cases h;exact Wp.mono (jqE X hh.base (x.plain rfl)) λv s' q=>⟨e.trans q.1,VX.of q.2⟩
theorem jrH(X:lR mN)(K:jvg D mN clean)(hA:aR A (D+1))(hh:Here C s)(e:aA s0 s)(x:VX C s0.heap.objs.size s0.gens.size s a ov)
  (hline:(apos.endLine==pos.line)=true)(hfew:trees.length<20)(hplain:(trees.all λx=> !x.1)=true)(ht:∀s₁,aA s s₁->Wp A (spliced trees) (λvs s₂=>aA s₁ s₂/\eH C s0.heap.objs.size s0.gens.size s₂ l vs) s₁)
  (hkt:∀s₁,Wp A kt (λv s₂=>v=.bool b/\s₂=s₁) s₁)(h:Cm clean m a l k b=some p):Wp A (methodCall o m apos pos env ov (trees.length+1) trees [(some k,kt)]) (bK C s0 p) s:=by
 unfold Cm at h;refine kA (dq h) λhm h=>?_;simp only[eN,bO] at hm;refine vI m k hm ?_;refine aH (bx h) λrows h1 h=>?_;refine aH (bx h) λq h2 h=>?_;refine aH (bx h) λstr h3 h=>?_;refine kA (dq h) λhcl h=>?_;cases h;cases PV.sE h1;cases PV.fJ h3;cases gQ h2;refine Fd K.run λf fd sc body T n hf F O hb hr=>?_;refine js9 X hh.base (x.plain rfl) hf F joR ∅ hline hfew hplain hkt (Wp.mono (ht s aC.refl) λvs s₁ q=>⟨q.1,?_⟩);refine oW vs q.2.one λv hv=>?_;refine jqO F O (hb ov v b) hA (hh.ext q.1) (e.trans q.1) (.cons ((x.plain rfl).ext q.1) (.cons (hv.plain rfl) (.cons (.bool b) .nil))) (hr rows str b hcl)
end
set_option tactic.hygienic false
section
theorem jj.up(x:jj C1 s₁ q v s')(h:∀b,C1 b->C b)(e:aA s0 s₁):jj C s0 q v s':=by
 refine xF x λe' a vs eq1 ha ho hv=>?_;subst eq1;exact Fg (e.trans e') a vs rfl (aF e.size ha) ho (hv.mono λb o c g=>⟨⟨h b c.1,c.2⟩,g⟩)
theorem jjo(he:Wp A (eval e env) (jj C s q) s):Wp A (exec (.Return (some e) pos) env) (λf s'=>∃u,f=.ret u/\jj C s q u s') s:=
 IK (Wp.mono he λu s₁ q=>aW u rfl q)
theorem jgO{a:Addr}{fd:FuncData}{sc:Scope}{body:List Stmt}(d:fc a fd sc body){params:List Str}{vs:List Value}{kw:List (Str×Value)}{pos:List Value}{l:LV}{η:ME}{q:LV}
  (hbind:bindArgs fd ⟨pos,kw⟩=pure (params.zip vs))(hA:aR A (D+1))(hh:Here C s)(e:aA s0 s)(hvs:aV C s.heap l vs)(cL:cH (params.map λx=>PySem.Expr.Name x default) l [bQ sc]=some η)
  (hb:∀(A':Around) (env:Env) (C':AP) (s':Shared),aR A' D->FA env η C' (λb=>b<s.heap.objs.size) (λi=>i<s.gens.size) s'->
   Wp A' (execs body env) (λf s''=>∃u C1 s₁,f=.ret u/\aC (λb=>¬b<s.heap.objs.size) (λi=>¬i<s.gens.size) s' s₁/\(∀b,C1 b->C' b\/¬b<s.heap.objs.size)/\jj C1 s₁ q u s'') s'):
  Wp A (call (.ref a) pos kw) (jj C s0 q) s:=by
 refine S6 d (λZ=>je3 hbind) hA hh hvs cL λenv C' s' Z Z jHT hC Z fa hR=>?_;refine Wp.mono (hb _ env C' s' hR fa) λf s'' x=>?_;refine qt x λu C1 s₁ eq1 hev hc hf=>?_;subst eq1;have e₁:aA s s₁:=aC.mono (aC.trans jHT.cC hev) (λb hb w=>w hb) λi hi w=>w hi;refine hf.up (λb c=>?_) (e.trans e₁);rcases hc b c with c|c
 ·exact hC b c
 ·exact hh.cJ b (Ea.mp c)
theorem jmt(X:lR mN){f:Addr}{fd:FuncData}{sc:Scope}{y:Str}{yp ap sp p rp:Pos}(F:fc f fd sc [.Return (some (.Subscript (.Attribute (.Name y yp) "_headers" ap) (.Slice none none none sp) p)) rp])
  (hb:∀ov,bindArgs fd ⟨[ov],[]⟩=pure ((["self"]:List Str).zip [ov]))(O:Ops D T){rows:LV}{ov:Value}{η:ME}(cL:cH ((["self"]:List Str).map λx=>PySem.Expr.Name x default) [.hdr rows] [bQ sc]=some η){n:Nat}(hev:aG T n η (.Attribute (.Name y yp) "_headers" ap)=some (.lst rows))
  (hA:aR A (D+1))(hh:Here C s)(e:aA s0 s)(x:VR C s.heap (.hdr rows) ov)(hk:aL rows.length=true):Wp A (call (.ref f) [ov] []) (jj C s0 rows) s:=by
 refine jgO F (hb ov) hA hh e (.cons x .nil) cL λA' env C' s' hR fa=>?_;have jHU:fX rows none none=rows:=by simp[fX]
 have:=jkb O hR fa (lo:=none) (up:=none) (i:=none) (j:=none) (pos:=p) (q:=sp) hev rfl rfl hk;rw[jHU] at this;refine dI (Wp.mono (jjo (pos:=rp) this) λg s'' q=>?_);obtain⟨u,rfl,q⟩:=q;exact Be u C' s' rfl aC.refl (λb c=>.inl c) q
theorem jkd{f:Addr}{fd:FuncData}{sc Dv:Scope}{st:Stmt}{elt:PE}{gens:List Comprehension}{p rp:Pos}(F:fc f fd sc [st,.Return (some (.ListComp elt gens Dv p)) rp])
  (hb:∀ov v,bindArgs fd ⟨[ov,v],[]⟩=pure ((["self","name"]:List Str).zip [ov,v]))(O:Ops D T){rows q:LV}{nm:PV}{ov v:Value}{η aD:ME}{n m:Nat}(cL:cH ((["self","name"]:List Str).map λx=>PySem.Expr.Name x default) [.hdr rows,nm] [bQ sc]=some η)
  (h1:bh T n η st=some (.next,aD))(h2:aG T (m+1) aD (.ListComp elt gens Dv p)=some (.lst q))
  (hA:aR A (D+1))(hh:Here C s)(e:aA s0 s)(x:VR C s.heap (.hdr rows) ov)(hv:VR C s.heap nm v):Wp A (call (.ref f) [ov,v] []) (jj C s0 q) s:=by
 refine jgO F (hb ov v) hA hh e (.cons x (.cons hv .nil)) cL λA' env C' s' hR fa=>?_;refine dI (Wp.cont (mV hR O n η st env C' _ _ s' .next aD fa h1) λC1 s₁ y dM=>?_);refine dI (Wp.mono (jjo (pos:=rp) (jmi hR O dM h2)) λg s'' z=>?_);obtain⟨u,rfl,z⟩:=z;exact Be u C1 s₁ rfl y.ev y.dn z
end
section
variable{prog:Program}{w:World}{A:Around}{E:Value->Shared->Prop}{h:Heap}{g:Array GenState}{d:Drawn}{t:Nat}{os:OsState}
variable{nm q:Str}{C N:Addr}{bs:List Value}{sn:List Str}{sub:List Value}{col:Option Bool}{dd:Option Addr}{k0 k1 k2 k3 k5:Option Value}
noncomputable abbrev Cp(h:Heap)(C:Addr):Heap:=(h.push {cls:=.type "dict",data:=.dict #[]}).push {cls:=.ref C,dict:=some h.objs.size,data:=.plain}
theorem jis
  (hC:h.get? C=some (excClassObj nm q C N bs [.type "object"] true sn sub false col dd k0 k1 k2 k3 k5 "object.__new__"))(hn:h.Ns N mN)(hi:mN "__init__"=some (.ref fI))
  (hfI:h.get? fI=some oI)(hfc:oI.cls=.type "function")
  (hq:wpAny (model prog w) A (call (.ref fI) (.ref (h.objs.size+1)::rest)) (λr s'=>r=.none/\Q (.done (.ret (.ref (h.objs.size+1)))) s') E ⟨Cp h C,g,d,t,os⟩):
  wpAny (model prog w) A (Builtin.«type.__call__» ⟨.ref C::rest,[]⟩) Q E ⟨h,g,d,t,os⟩:=by
 have hmro:mroOf (.type "object")=pure [.type "object"]:=⋯
 have hlk:typeLookup (.type "object") "__init__"=pure (some (.builtin "object.__init__")):=by rw[qd,pZ];kernel_rfl
 repeat (first|with_reducible refine I7 hC ?_|with_reducible refine wpAny_madeBy_exc hC ?_|wp_step)
 refine codeAny_call_builtin_code (Code.quiet_builtin _ OJ.quiet) (wpAny_check_obj_new OJ hC ?_);refine codeAny_obj_new OJ hC hn hi ?_;show wpAny _ _ _ _ _ _;have hC₁:=fO {cls:=.ref C,dict:=some h.objs.size,data:=.plain} (fO {cls:=.type "dict",data:=.dict #[]} hC);have jHV:=fO {cls:=.ref C,dict:=some h.objs.size,data:=.plain} (fO {cls:=.type "dict",data:=.dict #[]} hfI);have hn1:(Cp h C).Ns N mN:=let ⟨o,es,ep,e,r⟩:=hn;(jU o es ep (fO _ (fO _ e)) r);have hget:(Cp h C).get? (h.objs.size+1)=some {cls:=.ref C,dict:=some h.objs.size,data:=.plain}:=by heap_get
 have hcC:(Value.ref C::[Value.type "object"]).contains (.ref C)=true:=by simp
 unfold isInstance
 repeat (first|with_reducible refine I7 hget ?_|(with_reducible refine wpAny_isSubtype_exc hC₁ ?_;rw[hcC])|wp_step)
 show wpAny _ _ (typeLookup (.ref C) _) _ _ _;refine wpAny_typeLookup_exc hC₁ hn1 hmro hlk ?_;rw[hi];refine dJ (tbn ?_);unfold bindSpecial;refine tbn (wpAny_typeOf (T:="function") (aW _ jHV hfc) ?_);rw[aX ∅];refine bc (tbn (tmo hq (λr s' hr=>?_) λZ Z x=>x));refine gJ r hr λhQ=>?_
 wp_walk
 exact hQ
theorem jqN
  (hC:h.get? C=some (excClassObj nm q C N bs [.type "object"] true sn sub false col dd k0 k1 k2 k3 k5 "object.__new__"))(hn:h.Ns N mN)(hi:mN "__init__"=some (.ref fI))
  (hfI:h.get? fI=some oI)(hfc:oI.cls=.type "function")
  (hq:wpAny (model prog w) (A.under (.builtin "type.__call__" ⟨.ref C::rest,[]⟩)) (call (.ref fI) (.ref (h.objs.size+1)::rest)) (λr s'=>r=.none/\Q (.ref (h.objs.size+1)) s') E ⟨Cp h C,g,d,t,os⟩):
  wpAny (model prog w) A (call (.ref C) rest) Q E ⟨h,g,d,t,os⟩:=by
 have f1:=tc_lookup;have f2:=tc_bind (.ref C);have hT:(⟨h,g,d,t,os⟩:Shared).TypeIs (.ref C) "type":=aW _ hC rfl;refine I4 (codeAny_of_tree ?_);show wpAny _ _ (callAny (.ref C) _) _ _ _
 repeat (any_goals (first|assumption|with_reducible refine I7 hC ?_|wp_step))
 refine⟨rfl,?_⟩;refine codeAny_call_builtin_at (Code.quiet_builtin _ (by decide+kernel)) entry_typeCall (wpAny_check_type_call_sub hC (jis hC hn hi hfI hfc ?_));exact hq
end
section
theorem jwl(X:lR mN):K6 (.ref V.hc):=λA pos args s Q hst h=>by
 refine kE X.cls λN Xc=>?_;unfold callWith;refine tbn (dJ (tmo h (λx s₁ h₁=>?_) λZ Z x=>x));refine cD h₁ λhk hkw hc=>?_;obtain⟨hh,g,d,t,os⟩:=s₁;refine xG ((Xc.keeps hk).obj) λnm q bs sn sub col dd k0 k1 k2 k3 k5 hC=>?_;have f1:=tc_lookup;have hT:(⟨hh,g,d,t,os⟩:Shared).TypeIs (.ref V.hc) "type":=aW _ hC rfl;refine tbn (gr ?_);show wpAny _ _ (keeperOf (.ref V.hc)>>=_) _ _ _;unfold keeperOf specialOf
 repeat (any_goals (first|assumption|with_reducible refine I7 hC ?_|with_reducible refine wpAny_load' hC ?_|wp_step))
 have hst':(args.any (λx=>x.fst)||([]:List (Option Str×Sem Value)).any λx=>x.fst.isNone)=false:=by rw[hst];rfl
 rw[aX (by rfl),hst',hkw];show wpAny _ _ (call (.ref V.hc) x.pos []>>=λr=>do holding [r] point;pure r) _ _ _;exact tbn (tmo hc (λr s' hr=>tbn (dJ (wpAny_point (bc hr)))) λZ Z x=>x)
end
section
variable{A:Around}{env:Env}{η:ME}{C K:AP}{KG:NP}{s:Shared}
theorem VR.xx(x:VR C h (.obj a) v):v=.ref a:=by cases x;rfl
theorem FA.Wi(x:FA env η C K KG s)(hy:look y η=some (.obj a))(hs:bM y p η=some aq)(hp:p.plain=true)(hv:VR C s.heap p (.ref a)):FA env aq C K KG s:=by
 refine dZ x.sees λm f h1 h2 h3 h4=>?_;have hl:=λz=>mO (y:=z) hs x.wf;have hpl:=lQ hp;refine cD (h2 y _ hy) λZ hb hv0=>?_;have hfy:f y=.ref a:=VR.xx hv0;refine⟨x.fn,x.gl,x.bi,λz k hz=>x.kinds z k ((hl z).2.2.1 z▸hz),fW m f h1 (λz q hz=>?_) (λz l b hz=>?_) (λz z' l l' hz hz'=>?_),x.cells,x.oK,x.cJ,x.dY,x.gP,x.kept,(hl y).2.2.2,x.base,x.bare,x.hk⟩
 ·rw[(hl z).1] at hz;split at hz
  ·rename_i e;cases hz;subst e;exact⟨hpl.1,hb,hfy▸VX.of hv⟩
  ·exact h2 z q hz
 ·rw[(hl z).1] at hz;split at hz
  ·cases hz;exact absurd rfl (hpl.2 l)
  ·exact h3 z l b hz
 ·rw[(hl z).1] at hz;rw[(hl z').1] at hz';split at hz
  ·cases hz;exact absurd rfl (hpl.2 l)
  ·split at hz'
   ·cases hz';exact absurd rfl (hpl.2 l')
   ·exact h4 z z' l l' hz hz'
end
def Tc(env:Env)(b:Addr):Prop:=b=env.locals\/∃x,env.kindOf x=some .cell/\env.cells.lookup x=some b
section
variable{A:Around}{env:Env}{η:ME}{C K:AP}{KG:NP}{s:Shared}
theorem FA.widen(x:FA env η C K KG s)(hno:∀z l,look z η≠some (.own l)):FA env η C (λb=>b<s.heap.objs.size/\¬Tc env b) (λi=>i<s.gens.size) s:=by
 refine dZ x.sees λm f h1 h2 h3 h4=>?_;refine⟨x.fn,x.gl,x.bi,x.kinds,fW m f h1 h2 (λz l a hz=>absurd hz (hno z l)) h4,x.cells,x.oK,x.cJ,⟨x.dY.1,λh=>h.2 (.inl rfl),x.dY.2.2⟩,λy c hk hc=>⟨(x.gP y c hk hc).1,λh=>h.2 (.inr (aW y hk hc)),(x.gP y c hk hc).2.2⟩,⟨λb h=>h.1,λi h=>h⟩,x.wf,x.base,x.bare,λb o hb=>⟨hls (x.base b o hb),λh=>?_⟩⟩;rcases h with rfl|⟨y,hk,hc⟩
 ·rw[x.dY.2.2] at hb;exact nn hb
 ·rw[(x.gP y b hk hc).2.2] at hb;exact nn hb
theorem FA.V1(x:FA env η C K KG s)(h:Tc env b):¬C b/\¬K b:=by
 rcases h with rfl|⟨y,hk,hc⟩
 ·exact⟨x.dY.1,x.dY.2.1⟩
 ·exact⟨(x.gP y b hk hc).1,(x.gP y b hk hc).2.1⟩
end
structure jvh(D:Nat)(mN:Str->Option Value)(tO:LV->Bool):Prop where
 run:∃f fd sc st0 st1 ap yp np pos2 st3 T n,mN "__init__"=some (.ref f)/\fc f fd sc [st0,st1,.Assign [.Attribute (.Name "self" yp) "_headers" ap] (.Name "headers" np) pos2,st3]/\Ops D T/\
  (∀ov v (A:Around) s,(∀b o,V.h₀.get? b=some o->s.heap.get? b=some o)->Wp A (bindArgs fd ⟨[ov,v],[]⟩) (λb s'=>b=(["self","headers"]:List Str).zip [ov,v]/\s'=s) s)/\
  (∀a rows,tO rows=true->∃uX t7 nq qR Dw,cH ((["self","headers"]:List Str).map λx=>PySem.Expr.Name x default) [.obj a,.lst rows] [bQ sc]=some uX/\bh T n uX st0=some (.next,t7)/\bh T n t7 st1=some (.next,nq)/\
   look "self" nq=some (.obj a)/\look "headers" nq=some (.lst rows)/\bM "self" (.hdr rows) nq=some qR/\(∀z l,look z qR≠some (.own l))/\bh T n qR st3=some (.next,Dw))
 sa:mN "__setattr__"=none
section
theorem jnH(X:lR mN)(Vx:mN "__setattr__"=none){C K:AP}{KG:NP}(fa:FA env η C K KG s)(hne:d≠x)
  (hx:s.heap.get? x=some {cls:=.ref V.hc,dict:=some d,data:=.plain})(hd:s.heap.get? d=some {cls:=.type "dict",data:=.dict #[]})(hxC:x≠V.hc)(Av:look "self" η=some (.obj x))(H7:look "headers" η=some (.lst rows)):
  Wp A (exec (.Assign [.Attribute (.Name "self" yp) "_headers" ap] (.Name "headers" np) pos2) env) (λf s₃=>f=.next/\∃u o₁,VR C s.heap (.lst rows) (.ref u)/\aC (λb=>b=x\/b=d) no s s₃/\s₃.heap.get? x=some o₁/\o₁.dict=some d/\
   s₃.heap.Inst x V.hc (λy=>if y=("_headers":Str) then some (.ref u) else none)) s:=by
 have Ix:s.heap.Inst x V.hc (λZ=>none):=ru _ hx rfl (λc=>nofun) (.inr (cG d rfl hne (Heap.Ns1.of_empty (Be _ (#[]) _ hd rfl (λe he=>absurd he (by simp)) (λZ=>rfl)))));refine plainObj_wpAny_Assign_Attribute (hs:=by rfl) (qW (Wp.mono (fa.load H7) λu s' q=>?_) rfl);refine cD q λeq1 hu Z=>?_;subst eq1;refine qW (Wp.mono (fa.load Av) λu' s'' q=>?_) rfl;refine cD q λeq1 hu' Z=>?_;subst eq1;cases VR.xx hu';obtain⟨au,rfl⟩:∃au,u=.ref au:=VX.ref hu rfl;refine kE X.cls λN Xc=>?_;have pJ:=Xc.keeps fa.base;refine xG pJ.obj λnm' qn' bs' sn' jVf jVg dd' k0' k1' k2' k3' k5' hCo=>?_;refine Wp.mono (j4 (M:=model V.prog V.w) (Q:=λZ s₃=>s₃.heap.Inst x V.hc (λy=>if y=("_headers":Str) then some (.ref au) else none)/\
   (∀b o,b≠x->b≠d->s''.heap.get? b=some o->s₃.heap.get? b=some o)/\(∃o₁,s₃.heap.get? x=some o₁/\o₁.dict=some d)/\s₃.gens=s''.gens/\s₃.os=s''.os) ?_) λZ s₃ q=>?_
 ·obtain⟨hh2,g2,d2,t2,os2⟩:=s'';refine store_attr PySem.F.store_object hCo pJ.ns Vx X.hd S8 hxC Ix (λh' tk' I' hk hsame=>nM I' (λb o n1 n2 hg=>hk b o n1 (λo₀ dx hq hdx=>?_) hg) ?_ rfl rfl)
  ·cases (show hh2.get? x=some o₀ from hq).symm.trans hx;cases hdx;exact n2
  ·refine vG (hsame _ hx) λo₁ q1 q2 q3 q4 q5=>?_;exact aW o₁ q1 (q5 _ rfl)
 refine JD q λqsz I3 hk3 bC hg3 jHW=>?_;obtain⟨o₁,ho₁,hod⟩:=bC;exact⟨rfl,au,o₁,hu,⟨λb o nb hg=>hk3 b o (λq=>nb (.inl q)) (λq=>nb (.inr q)) hg,qsz.1,λi x Z hi=>by rw[hg3];exact hi,qsz.2,λhb=>by rw[hg3];exact hb,jHW⟩,ho₁,hod,I3⟩
theorem jtN(ho₁:h.get? x=some o₁)(hod:o₁.dict=some d)(I3:h.Inst x V.hc (λy=>if y=("_headers":Str) then some (.ref u) else none))(hx:C x)(hd:C d)(hr:VR C h (.lst rows) (.ref u)):VR C h (.hdr rows) (.ref x):=by
 refine Fb I3 λo ho hcls' hnc hdd=>?_;cases ho₁.symm.trans ho;rcases hdd with ⟨hn0,_⟩|⟨d',hd',hne',hns'⟩
 ·rw[hod] at hn0;exact ns hn0
 ·cases hod.symm.trans hd';exact .hdr hx hd ho₁ hcls' hnc hod hne' hns' (aX rfl) (λn hn=>aZ hn) hr
theorem jtO(X:lR mN)(Vx:mN "__setattr__"=none)(F:fc f fd sc [st0,st1,.Assign [.Attribute (.Name "self" yp) "_headers" ap] (.Name "headers" np) pos2,st3])(O:Ops D T)
  (hbind:∀A:Around,Wp A (bindArgs fd ⟨[.ref x,v],[]⟩) (λb s'=>b=(["self","headers"]:List Str).zip [.ref x,v]/\s'=s₁) s₁)
  (r0:cH ((["self","headers"]:List Str).map λx=>PySem.Expr.Name x default) [.obj x,.lst rows] [bQ sc]=some uX)(ra:bh T n uX st0=some (.next,t7))(r1:bh T n t7 st1=some (.next,nq))
  (Av:look "self" nq=some (.obj x))(H7:look "headers" nq=some (.lst rows))(r3:bM "self" (.hdr rows) nq=some qR)(Vy:∀z l,look z qR≠some (.own l))(r4:bh T n qR st3=some (.next,Dw))
  (hne:d≠x)(hget:s₁.heap.get? x=some {cls:=.ref V.hc,dict:=some d,data:=.plain})(hgd:s₁.heap.get? d=some {cls:=.type "dict",data:=.dict #[]})(hh1:Here C s₁)(nx1:¬C x)(nd1:¬C d)(x0:V.h₀.get? x=none)(d0:V.h₀.get? d=none)(hxC:x≠V.hc)
  (hv1:VR C s₁.heap (.lst rows) v)(hA':aR A (D+1)):
  Wp A (call (.ref f) [.ref x,v] []) (λr s4=>r=.none/\aC (λb=>b=x\/b=d) no s₁ s4/\VR (λb=>(C b\/s₁.heap.objs.size<=b)\/b=x\/b=d) s4.heap (.hdr rows) (.ref x)) s₁:=by
 have hxs:=hls hget;have hds:=hls hgd;have two:∀{P:AP},P x->P d->∀b,b=x\/b=d->P b:=λp q b w=>w.elim (λe=>e▸p) λe=>e▸q;refine S6 F hbind hA' hh1 (.cons (.obj _) (.cons hv1 .nil)) r0 λenv C' s' Z Z ext' hC' Z fa hR=>?_;refine dI (Wp.cont (mV hR O n uX st0 env C' _ _ s' .next t7 fa ra) λCa sa ya faa=>?_);refine dI (Wp.cont (mV hR O n t7 st1 env Ca _ _ sa .next nq faa r1) λC2 s₂ lE cO=>?_);have y:=ya.trans lE;have P0:∀b,C2 b->C b\/¬b<s₁.heap.objs.size:=λb c=>(y.dn b c).imp_left (hC' b);have t8:aC (λb=>¬b<s₁.heap.objs.size) (λi=>¬i<s₁.gens.size) s₁ s₂:=ext'.cC.trans y.ev;have nn2:∀b,b=x\/b=d->¬C2 b:=two (P:=λb=>¬C2 b) (λc=>(P0 _ c).elim nx1 λq=>q hxs) λc=>(P0 _ c).elim nd1 λq=>q hds;refine dI (Wp.mono (jnH X Vx cO hne (t8.heap _ _ (λq=>q hxs) hget) (t8.heap _ _ (λq=>q hds) hgd) hxC Av H7) λg₀ s₃ z=>?_);refine xF z λeq1 u o₁ hu cu ho₁ zz=>kA zz λhod I3=>?_;subst eq1;have gH:=(cO.cC cu nn2 (two (P:=λb=>b<s₁.heap.objs.size) hxs hds) (two (P:=λb=>V.h₀.get? b=none) x0 d0)).regrow (C':=λb=>C2 b\/b=x\/b=d) (K':=λb=>b<s₁.heap.objs.size) (iG:=λi=>i<s₁.gens.size) (λb c=>.inl c) (λb c=>c.imp_right λw=>two (P:=λb=>b<s₁.heap.objs.size) hxs hds b w) (λb k=>k) (λi k=>k) cO.hk;have Wm:VR (λb=>C2 b\/b=x\/b=d) s₃.heap (.hdr rows) (.ref x):=jtN ho₁ hod I3 (.inr (.inl rfl)) (.inr (.inr rfl)) (hu.mono λb o c hg=>⟨.inl c,cu.heap b o (λw=>nn2 b w c) hg⟩);refine dI (Wp.cont (mV hR O n qR st3 env _ _ _ s₃ .next Dw ((gH.Wi Av r3 rfl Wm).widen Vy) r4) λC4 s4 xu Z=>?_);have e₄:=xu.ev;have WQ:∀b,Tc env b->¬b<s₁.heap.objs.size:=λb hb=>(fa.V1 hb).2;refine qg ⟨rfl,?_,Wm.mono λb o c hg=>⟨?_,e₄.heap b o (λw=>w ⟨hls hg,λJx=>?_⟩) hg⟩⟩
 ·have e14:aC (λb=>¬b<s₁.heap.objs.size\/(b=x\/b=d)) (λi=>¬i<s₁.gens.size) s₁ s4:=
   (aC.mono t8 (λb Z w=>.inl w) λi Z w=>w).trans ((aC.mono cu (λb Z w=>.inr w) λi Z w=>w.elim).trans (aC.mono e₄ (λb hb w=>.inl (Jd λq=>w ⟨hb,λJx=>q (WQ b Jx)⟩)) λi hi w=>absurd hi w))
  exact aC.mono e14 (λb hb w=>w.resolve_left λq=>q hb) λi hi w=>w hi
 ·exact c.imp_left λc=>(P0 b c).imp id Ea.mp
 ·exact c.elim (λc=>(cO.V1 Jx).1 c) λw=>WQ b Jx (two (P:=λb=>b<s₁.heap.objs.size) hxs hds b w)
def jAy(tO:LV->Bool)(l:LV):OV:=(dF l).bind λp=>p.sJ.bind λrows=>if tO rows then some (.hdr rows) else none
theorem jl3(X:lR mN)(I:jvh D mN tO):Callee (D+2) (jAy tO) (.ref V.hc) where
 cw:=jwl X
 ok:=λA s0 s C l vs p hA hh e hx hF=>by
  refine cP vs (v7 hx hF) λq v hv hF=>?_;refine aM hF ?_;clear hF;intro rows hq hF;refine cY hF ?_;clear hF;intro Ju hF;cases hF;have hv:VR C s.heap (.lst rows) v:=PV.sy hq▸hv.plain (by rw[PV.sy hq];rfl);refine xG I.run λf fd sc st0 st1 ap yp np pos2 st3 T n zz=>rm zz λhf F O hbind hrun=>?_;refine kE X.cls λN Xc=>?_;refine xG ((Xc.keeps hh.base).obj) λnm qn bs sn sub col dd k0 k1 k2 k3 k5 hC=>?_;refine eO F.ob λob hob hdat hcls=>?_;have hhc:V.hc<s.heap.objs.size:=hls hC;obtain⟨h,g,d,t,os⟩:=s;refine jqN hC (Xc.keeps hh.base).ns hf (hh.base f ob hob) hcls ?_;generalize hs₁:(⟨Cp h V.hc,g,d,t,os⟩:Shared)=s₁;have hsz:s₁.heap.objs.size=h.objs.size+2:=by rw[←hs₁];show((h.push _).push _).objs.size=_;rw[fK,fK]
  have e₁:aA ⟨h,g,d,t,os⟩ s₁:=by
   rw[←hs₁];exact⟨λb o Z hb=>fO _ (fO _ hb),by show _<=((h.push _).push _).objs.size;rw[fK,fK];exact aF (iH _) (iH _),λZ Z Z h=>h,aN _,id,rfl⟩
  have hget:s₁.heap.get? (h.objs.size+1)=some {cls:=.ref V.hc,dict:=some h.objs.size,data:=.plain}:=by rw[←hs₁];show(Cp h V.hc).get? _=_;heap_get
  have hgd:s₁.heap.get? h.objs.size=some {cls:=.type "dict",data:=.dict #[]}:=by rw[←hs₁];exact fO _ (Heap.get?_push_at rfl rfl)
  have vo:∀b,h.objs.size<=b->V.h₀.get? b=none:=λb hb=>by
   cases hq:V.h₀.get? b with|none=>rfl|some o=>exact absurd (hls (hh.base _ o hq)) (bw hb)
  have hA':aR (A.under (.builtin "type.__call__" ⟨[.ref V.hc,v],[]⟩)) (D+1):=by
   have h1:=hA.depth;have h2:=hA.units;clear hrun hbind;refine⟨hA.handled,?_,?_⟩
   ·show A.depth+1+(D+1)<_;lia
   ·show A.units+1+12*(D+1)+60<_;lia
  refine qw (hrun (h.objs.size+1) rows Ju) λuX t7 nq qR Dw r0 ra r1 zz=>rm zz λAv H7 r3 Vy r4=>?_;have hsz':h.objs.size<=s₁.heap.objs.size:=e₁.size;clear hrun;generalize hd:h.objs.size=zR at*;generalize hxx:zR+1=x at*;have hlt:zR<x:=hxx▸jo _;have hcl:∀b,C b->b<zR->C b/\b≠x/\b≠zR:=λb c hb=>⟨c,iI (qT hb hlt),iI hb⟩;have hh1:Here (λb=>C b/\b≠x/\b≠zR) s₁:=by
   refine⟨λb o hb=>aA.heap e₁ (hh.base b o hb),λa ha=>⟨hh.cJ a (aF e₁.size ha),λq=>?_,λq=>?_⟩,aC.bare e₁ hh.bare⟩
   ·exact absurd (hls hget) (bw (q▸ha))
   ·exact absurd (hls hgd) (bw (q▸ha))
  refine Wp.mono (jtO X I.sa F O (λZ=>hbind _ _ _ _ hh1.base) r0 ra r1 Av H7 r3 Vy r4 (iI hlt) hget hgd hh1 (λc=>c.2.1 rfl) (λc=>c.2.2 rfl) (vo _ (fL hlt)) (vo _ (aN _)) (sr (iI (qT hhc hlt)))
   (hv.mono λa o c hg=>⟨hcl a c (hd▸hls hg),aA.heap e₁ hg⟩) hA') λr s4 z=>?_
  refine JK r z λe₄ hr=>?_;have cJ:∀b,zR<=b->C b:=λb hb=>hh.cJ b (by show h.objs.size<=b;rw[hd];exact hb);refine⟨rfl,e.trans (aC.mono (e₁.cC.trans e₄) (λb hb w=>?_) λZ Z g=>g),VX.of (hr.mono λb o c hg=>⟨?_,hg⟩)⟩
  ·have hb:b<zR:=hd▸hb;exact w.elim (λw=>absurd (qT hb hlt) (w▸pQ _)) λw=>iI hb w
  ·rcases c with (c|c)|rfl|rfl
   ·exact c.1
   ·exact cJ b (aF hsz' c)
   ·exact cJ _ (fL hlt)
   ·exact cJ _ (aN _)
end
noncomputable def AM:Around:={handled:=none,depth:=recursionLimit-5,frames:=none,guards:=none,units:=cLine-109}
theorem jsE(h:wpAny M B t Q E s)
  (hh:A.handled=B.handled)(hd:A.depth<=B.depth)(hf:B.frames=none)(hg:B.guards=none)(hu:A.units<=B.units):wpAny M A t Q E s:=
 λΓ p hΓ=>by
 refine rm hΓ λh1 h2 h3 h4 h5=>?_;exact h Γ p (nM (h1.trans hh) (aF h2 hd) (λ(l:List Env) hl=>by rw[hf] at hl;exact nn hl) (λ(g:List Code) hg'=>by rw[hg] at hg';exact nn hg') (aF h5 hu))
theorem Lq(hA:aR A 4)(h:wpAny M AM t Q E s):wpAny M A t Q E s:=by
 have h1:=hA.depth;have h2:=hA.units;exact jsE h hA.handled (Nat.le_sub_of_add_le h1) rfl rfl (Nat.le_sub_of_add_le h2)
section
variable{M:Model}{A:Around}{R:GenEnd}{Y:Protocol}{n:Nat}{s0:Shared}{c:Code}{fs:List Frame}{s:Shared}{env:Env}
 {K:Flow->Sem Fin} {H:Value->Sem Fin} {gd:Bool->Bool} {lv:List Value->List Value}
theorem tQ{α:Type}{m:Sem α}{K:α->Sem Fin}{H:Value->Sem Fin}{gd lv}(h:wpAny M (A.over c fs) m (λa s'=>Seg M A R Y n s0 c (K a) fs s') iW s):Seg M A R Y n s0 c (m.wrap K H gd lv) fs s:=
 seg_wrap (tmo h (λZ Z q=>q) λZ Z f=>f.elim)
theorem jxn{test:PE}{body orelse:List Stmt}{pos:Pos}
  (h:wpAny M (A.over c fs) (isTrue test env (eval test env)) (λb s'=>Seg M A R Y n s0 c ((execs (if b then body else orelse) env).wrap K H gd lv) fs s') iW s):
  Seg M A R Y n s0 c ((exec (.If test body orelse pos) env).wrap K H gd lv) fs s:=by
 rw[exec_If];refine seg_at ?_;show Seg M A R Y n s0 c ((isTrue test env (eval test env)>>=λb=>if b=true then execs body env else execs orelse env).wrap K H gd lv) fs s;rw[su,pY];refine tQ (tmo h (λb s' q=>?_) λZ Z f=>f);cases b
 ·exact q
 ·exact q
end
section
theorem jgm{target:PE}{it:Value}{body:List Stmt}{H:Value->Sem Fin}
  (hH:H=(λe=>(do noteFrame e env;theTreesLotGoes e:Sem Unit).wrap (λZ=>.raise e) .raise id id))
  (h:wpAny (model prog w) (A.over (.forLoop target it body [] env) fs) (pyNext it) (λr s₁=>match r with
   |none=>Seg (model prog w) A R Y n s0 (.block [] env) (leafOf (.ok .next)) fs s₁
   |some v=>wpAny (model prog w) (A.over (.forLoop target it body [] env) fs) (letOwnedTupleGo target it v) (λZ s₂=>
     wpAny (model prog w) (A.over (.forLoop target it body [] env) fs) (assign target env v) (λZ s₃=>
      Seg (model prog w) A R Y n s0 (.forLoop target it body [] env) ((execs body env).wrap (λf=>match f with
      | .next| .cont=>.pure (.again (.forLoop target it body [] env))| .brk=>.pure (.done .next)
      | .ret v=>.pure (.done (.ret v))) H id id) fs s₃) iW s₂) iW s₁) iW s):
  Seg (model prog w) A R Y n s0 (.forLoop target it body [] env) ((model prog w).den (.forLoop target it body [] env)) fs s:=by
 subst hH;show Seg _ A R Y n s0 _ ((forTurn target it body [] env).onRaise (λx=>do noteFrame x env;theTreesLotGoes x)) fs s;unfold forTurn;rw[Sem.onRaise_eq_wrap];refine seg_at ?_;show Seg _ A R Y n s0 _ (Sem.wrap _ _ _ _ (((pyNext it).onRaise (λZ=>standAt {target.pos with line:=0}))>>=_)) fs s;rw[su,pY];refine tQ (wpAny_onRaise (tmo h (λr s₁ q=>?_) λZ Z f=>f.elim));cases r with
 |none=>
  refine seg_again (c':=.block [] env) (by rfl) ?_;exact q
 |some v=>
  show Seg _ A R Y n s0 _ (Sem.wrap _ _ _ _ (letOwnedTupleGo target it v>>=_)) fs s₁;rw[su,pY];refine tQ (tmo q (λZ s₂ q=>?_) λZ Z f=>f);show Seg _ A R Y n s0 _ (Sem.wrap _ _ _ _ (assign target env v>>=_)) fs s₂;rw[su,pY];refine tQ (tmo q (λZ s₃ q=>?_) λZ Z f=>f);show Seg _ A R Y n s0 _ (Sem.wrap _ _ _ _ (execs body env>>=_)) fs s₃;rw[su,pY];rw[Sem.wrap_congr (execs body env) _ _ (K':=λf=>match f with
      | .next| .cont=>.pure (.again (.forLoop target it body [] env))| .brk=>.pure (.done .next)
      | .ret v=>.pure (.done (.ret v))) (H':=(λe=>(do noteFrame e env;theTreesLotGoes e:Sem Unit).wrap (λZ=>.raise e) .raise id id))
    (λf=>by cases f<;>rfl)
    (λe=>by first|exact Sem.bind_eq_wrap _ _|(show(do noteFrame e env;theTreesLotGoes e:Sem Unit).bind (λZ=>.raise e)=_;rw[Sem.bind_eq_wrap]))]
  exact q
end
noncomputable def mX(ex:ME->Stmt->Option (LV×ME)):ME->List Stmt->Option (LV×ME)
 |η,[]=>some ([],η)|η,st::r=>(ex η st).bind λp=>(mX ex p.2 r).map λq=>(p.1++q.1,q.2)
noncomputable def Td:PE->Option PySem.Expr
 | .Yield o _=>o|_=>.none
theorem ju1:Td e=some x->∃p,e=.Yield (some x) p:=by cases e<;>first|exact nn|(intro h;cases h;exact⟨_,rfl⟩)
def Lr(η:ME)(ts:List PySem.Expr)(e:PE):Option ME:=(dF ts).bind λt=>(nmE t).bind λx=>(uz e).bind λc=>(Bj c).bind λp=>if isScalar p then bM x p η else .none
theorem jnL(h:Lr η ts e=some aq):∃x px c k pc p,ts=[.Name x px]/\e=.Constant c k pc/\Bj c=some p/\isScalar p=true/\bM x p η=some aq:=by
 refine aM h ?_;clear h;intro t h1 h;refine aM h ?_;clear h;intro x h2 h;refine aM h ?_;clear h;intro c h3 h;refine aM h ?_;clear h;intro p h4 h;refine kE (oX h2) λpx h2=>?_;refine kO (JT h3) λk pc h3=>?_;exact⟨x,px,c,k,pc,p,h2▸gQ h1,h3,h4,dq h⟩
def jAW(S:Sp)(n:Nat)(ex:ME->Stmt->Option (LV×ME))(η:ME)(st:Stmt):Option (LV×ME):=match st with
 | .Expr e _=>(Td e).bind λe=>(aG S n η e).bind λp=>if p.plain then some ([p],η) else .none| .If t b o _=>(bI S n η t).bind λc=>mX ex η (if c then b else o)| .Assign ts e _=>(Lr η ts e).map λaq=>([],aq)|_=>.none
def mY(S:Sp):Nat->ME->Stmt->Option (LV×ME)
 |0=>λZ Z=>.none|n+1=>jAW S n (mY S n)
def Cq(body:ME->Option (LV×ME))(tgt:PE):Nat->ME->List Nat->Option (LV×ME)
 |_,η,[]=>some ([],η)|i,η,c::r=>(d8 tgt (.tup [.int i,.str [c]]) η).bind λaD=>(body aD).bind λp=>(Cq body tgt (i+1) p.2 r).map λq=>(p.1++q.1,q.2)
def Te(t:PE):Bool:=(uy t).any λts=>(kI ts).any λq=>(nmE q.1).isSome&&(nmE q.2).isSome
def jwH(S:Sp)(n:Nat)(η:ME)(tgt it:PE)(body orelse r:List Stmt):Option (LV):=(QJ it).bind λq=>(nmE q.1).bind λf=>(dF q.2.1).bind λa=>(nmE a).bind λy=>
 if f==("enumerate":Str)&&lL η f&&Te tgt&&orelse.isEmpty&& !(y==("__debug__":Str))&&q.2.2.1.isEmpty then((look y η).bind PV.bV).bind λx=>
  (Cq (λη=>mX (mY S n) η body) tgt 0 η x).bind λp=>(mX (mY S n) p.2 r).map λq=>p.1++q.1 else .none
def GR(S:Sp)(n:Nat):ME->List Stmt->Option (LV)
 |_,[]=>.none
 |η,st::r=>match st with
  | .For tgt it body orelse _=>jwH S n η tgt it body orelse r| .Assign ts e _=>(Lr η ts e).bind λaq=>GR S n aq r|_=>.none
structure GI(env:Env)(η:ME)(s:Shared):Prop where
 fn:env.scope.kind=.function
 gl:env.globals=mainGlobals
 bi:env.builtins=builtinsNs
 kinds:∀x k,cZ η x=some k->env.kindOf x=some (RV k)
 vq:∀x,env.kindOf x≠some .cell
 cells:env.cells=[]
 sees:∃m:Str->Option Value,s.heap.Ns env.locals m/\∀x pv,look x η=some pv->isScalar pv=true/\env.kindOf x=some .local/\∃v,m x=some v/\VR no s.heap pv v
 base:Base s
 dY:V.h₀.get? env.locals=none
 wf:∀f∈η,f.vals.length=f.names.length
section
theorem VR.scalar(hs:isScalar p=true)(x:VR C h p v):VR C' h' p v:=by
 have y:=x.iv;cases p with|none=>rw[show v=.none from y];exact .none|bool=>rw[show v=.bool _ from y];exact .bool _|int=>refine cR v y λt=>?_;exact .int _ _|str=>refine cR v y λt=>?_;exact .str _ _|_=>exact nf hs
theorem GX(hs:isScalar p=true):p.plain=true:=by cases p<;>first|exact rfl|exact absurd hs Af
theorem GI.fa(x:GI env η s)(hc:∀a,s.heap.objs.size<=a->C a)(hL:¬C env.locals):FA env η C (λb=>(V.h₀.get? b).isSome=true) no s:=by
 refine aH x.sees λm h1 h2=>?_;refine⟨x.fn,x.gl,x.bi,x.kinds,fW m (λy=>(m y).getD .none) h1 (λy pv hy=>?_) (λy l a hy=>?_) (λy z l l' hy=>?_),λy hy=>absurd hy (x.vq y),λy z c hy=>(by rw[x.cells] at hy;exact nn hy),hc,⟨hL,(by rw[x.dY];exact λh=>by exact nf h),x.dY⟩,
  λy c hk=>absurd hk (x.vq y),⟨λb hb=>?_,λi hi=>hi.elim⟩,x.wf,x.base.1,x.base.2,λb o h=>(by rw[h];rfl)⟩
 ·refine Az (h2 y pv hy) λhs hk v hv hr=>?_;refine⟨(lQ (GX hs)).1,.inl ⟨hk,(by simp only[hv];rfl)⟩,?_⟩;simp only[hv];exact VX.of (VR.scalar hs hr)
 ·have:=(h2 y _ hy).1;exact nf this
 ·have:=(h2 y _ hy).1;exact nf this
 ·refine kE (iQ hb) λo ho=>?_;exact hls (x.base.1 b o ho)
theorem GI.keep(x:GI env η s)(hL:∀o,s.heap.get? env.locals=some o->s'.heap.get? env.locals=some o)(hb:Base s'):GI env η s':=by
 refine aH x.sees λm h1 h2=>?_;refine⟨x.fn,x.gl,x.bi,x.kinds,x.vq,x.cells,aW m ?_ (λy pv hy=>?_),hb,x.dY,x.wf⟩
 ·refine jK h1 λo es ep ho r=>?_;exact jU o es ep (hL o ho) r
 ·refine Az (h2 y pv hy) λhs hk v hv hr=>?_;exact Qs hs hk v hv (VR.scalar hs hr)
theorem Base.ext(x:Base s)(e:aA s s'):Base s':=⟨λb o h=>aA.heap e (x.1 b o h),aC.bare e x.2⟩
theorem GI.ext(x:GI env η s)(e:aA s s'):GI env η s':=x.keep (λo h=>aA.heap e h) (x.base.ext e)
theorem GI.Wu{C K:AP}{KG:NP}(x:GI env η s)(f:FA env aq C K KG s')(hs:∀y pv,look y aq=some pv->isScalar pv=true):GI env aq s':=by
 refine dZ f.sees λm g h1 h2 Z Z=>?_;refine⟨x.fn,x.gl,x.bi,f.kinds,x.vq,x.cells,aW m h1 (λy pv hy=>?_),⟨f.base,f.bare⟩,x.dY,f.wf⟩;refine cD (h2 y pv hy) λhg hb hv=>?_;have hsc:=hs y pv hy;rcases hb with ⟨hk,hm⟩|⟨hk,_⟩
 ·refine Qs hsc hk _ hm ?_;exact VR.scalar hsc (hv.plain (GX hsc))
 ·exact absurd hk (x.vq y)
theorem GI.V6(x:GI env η s)(h:look y η=some pv):isScalar pv=true:=by
 refine aH x.sees λm h1 h2=>?_;exact(h2 y pv h).1
theorem jgn(hs:bM y pv η=some aq)(wf:∀f∈η,f.vals.length=f.names.length)(hp:isScalar pv=true)(cL:∀z q,look z η=some q->isScalar q=true):∀z q,look z aq=some q->isScalar q=true:=λz q h=>by
 rw[(mO (y:=z) hs wf).1] at h;split at h
 ·cases h;exact hp
 ·exact cL z q h
end
def YP(W:AP)(tot:LV):Protocol:=λm s0 v s₁ kap=>
 ∃p,tot[tot.length-1-m]?=some p/\VR (λb=>s0.heap.objs.size<=b/\¬W b) s₁.heap p v/\aC W no s0 s₁/\(∀b,W b->b<s₁.heap.objs.size)/\
  ∀s'',Base s''->(∀b o,W b->s₁.heap.get? b=some o->s''.heap.get? b=some o)->s₁.heap.objs.size<=s''.heap.objs.size->kap (.send .none) s''
def RP(W:AP):GenEnd:=λm s0 r s₁=>r=.ok (.ret .none)/\(m=0/\aC W no s0 s₁)
abbrev nQ(B:Around)(W:AP)(tot:LV):=Seg (model V.prog V.w) B (RP W) (YP W tot)
structure GC(B:Around)(D:Nat)(c:Code)(gd:Bool->Bool)(fs:List Frame):Prop where
 gd:gd false=false
 sp:splitAtGen fs=none
 gu:fs.any Frame.guarded=false
 room:aR (B.over c fs) D
def Tail(B:Around)(W:AP)(tot:LV)(env:Env)(aq:ME)(m:Nat)(s:Shared)(c:Code)(t:Sem Fin)(fs:List Frame)(same:Option Shared):Prop:=
 ∀mj s',(∀x,same=some x->mj=x)->GI env aq s'->aC W no mj s'->(∀b,W b->b<s'.heap.objs.size)->(∀b o,b≠env.locals->W b->s.heap.get? b=some o->s'.heap.get? b=some o)->nQ B W tot m mj c t fs s'
section
variable{B:Around}{W:AP}{tot:LV}{env:Env}{S:Sp}{D:Nat}
def GS(B:Around)(W:AP)(tot:LV)(env:Env)(S:Sp)(D n:Nat):Prop:=∀η st ys aq,mY S n η st=some (ys,aq)->∀{c:Code} {fs:List Frame} {K:Flow->Sem Fin} {H:Value->Sem Fin} {gd:Bool->Bool} {lv:List Value->List Value} {s0 s:Shared} {pre rest:LV},
 GC B D c gd fs->GI env η s->aC W no s0 s->(∀b,W b->b<s.heap.objs.size)->tot=pre++(ys++rest)->
 Tail B W tot env aq rest.length s c (K .next) fs none->nQ B W tot (ys++rest).length s0 c ((exec st env).wrap K H gd lv) fs s
theorem Tail.back(x:Tail B W tot env aq m s c t fs none)(h:∀b o,b≠env.locals->W b->s.heap.get? b=some o->s₁.heap.get? b=some o):Tail B W tot env aq m s₁ c t fs none:=
 λmj s' Z g e w k=>x mj s' (λZ h=>by exact nn h) g e w λb o n hw hb=>k b o n hw (h b o n hw hb)
theorem jj2(h:Bj c=some p):Wp A (eval (.Constant c k pos) env) (λv s'=>s'.heap=s.heap/\bK C s p v s') s:=by
 show Wp A (constValue env c) _ s;cases c with
 |none=>cases h;exact bc ⟨rfl,aC.refl,VX.of .none⟩
 |bool=>cases h;exact bc ⟨rfl,aC.refl,VX.of (.bool _)⟩
 |int=>cases h;exact wpAny_mkInt ⟨rfl,aA.toks,VX.of (.int _ _)⟩
 |str x=>
  cases h;exact I8 ⟨rfl,aA.toks,VX.of (VR.str (C:=C) (h:=s.heap) x.cps.toList s.toks)⟩
 |_=>exact nn h
theorem Tf{n:Nat}(hS:GS B W tot env S D n)(body:List Stmt):∀(η:ME) (ys:LV) (aq:ME),mX (mY S n) η body=some (ys,aq)->∀{c:Code} {fs:List Frame} {K:Flow->Sem Fin} {H:Value->Sem Fin} {gd:Bool->Bool} {lv:List Value->List Value} {s0 s:Shared} {pre rest:LV},
  GC B D c gd fs->GI env η s->aC W no s0 s->(∀b,W b->b<s.heap.objs.size)->tot=pre++(ys++rest)->
  Tail B W tot env aq rest.length s c (K .next) fs none->nQ B W tot (ys++rest).length s0 c ((execs body env).wrap K H gd lv) fs s:=by
 induction body with
 |nil=>
  intro η ys aq h c fs K H gd lv s0 s pre rest hc hg he hw ht k;cases h;exact seg_execs_nil (k s0 s (λZ h=>nomatch h) hg he hw λZ Z Z Z h=>h)
 |cons st r ih=>
  intro η ys aq h c fs K H gd lv s0 s pre rest hc hg he hw ht k;refine aM h ?_;clear h;intro q1 h1 h;refine mH h ?_;clear h;intro q2 h2 e;cases e;refine seg_execs_cons ?_;rw[dm] at ht⊢;exact hS η st _ _ h1 (rest:=q2.1++rest) (pre:=pre) hc hg he hw ht λmj s' Z g' e' w' k'=>
   ih _ _ _ h2 (pre:=pre++q1.1) (rest:=rest) hc g' e' w' (by rw[ht,dm]) (k.back k')
theorem seg_yield(O:Ops D S)(pM:W env.locals)(hco:env.scope.isCoroutine=false)(hi:interactive env=false)(h:((Td e).bind λe=>(aG S n η e).bind λp=>if p.plain then some ([p],η) else .none)=some (ys,aq))
  {K:Flow->Sem Fin}{H:Value->Sem Fin}{gd:Bool->Bool}{lv:List Value->List Value}{pre rest:LV}{C:AP}{Kp:AP}{KG:NP}(hC:∀b,C b->s0.heap.objs.size<=b/\¬W b)
  (hc:GC B D c gd fs)(hg:GI env η s)(he:aC W no s0 s)(hw:∀b,W b->b<s.heap.objs.size)(ht:tot=pre++(ys++rest))(fa:FA env η C Kp KG s)
  (k:Tail B W tot env aq rest.length s c (K .next) fs none):nQ B W tot (ys++rest).length s0 c ((exec (.Expr e pos) env).wrap K H gd lv) fs s:=by
 refine aM h ?_;clear h;intro x hx h;refine aM h ?_;clear h;intro p hp h;refine cY h ?_;clear h;intro hpl h;cases h;refine kE (ju1 hx) λyp ex=>?_;rw[ex];show nQ B W tot (rest.length+1) s0 c _ fs s;refine seg_Expr_Yield hc.sp hc.gd hc.gu ?_ hco hi;refine tmo ((sound hc.room O n).1 η x env _ _ _ s p fa hp) (λv s₁ q=>?_) λZ Z f=>f.elim;intro kap hk;have WR:∀b,W b->b<s₁.heap.objs.size:=λb w=>bJ (hw b w) (aC.size q.1);refine JN p ?_ ((q.2.plain hpl).mono λb o c g=>⟨hC b c,g⟩) (he.trans q.1.cC) WR (λs'' hb hk' hsz=>hk .none s'' ?_)
 ·rw[ht];simp
 ·have g'':GI env η s'':=(hg.ext q.1).keep (λo h=>hk' _ o pM h) hb;exact k s'' s'' (λZ h=>nomatch h) g'' aC.refl (λb w=>bJ (WR b w) hsz) λb o Z w h=>hk' b o w (aA.heap q.1 h)
theorem GI.Xa(hg:GI env η s)(hb:f9 env η b):b=env.locals:=by
 rcases hb with hb|⟨y,hk,hc⟩
 ·exact hb
 ·rw[hg.cells] at hc;exact nn hc
theorem GI.const(hg:GI env η s)(h:Lr η ts e=some aq):Wp A (exec (.Assign ts e pos) env) (λf s₂=>f=.next/\GI env aq s₂/\aC (λb=>b=env.locals) no s s₂/\s₂.heap.objs.size=s.heap.objs.size) s:=by
 refine Fd (jnL h) λx px c k' pc p e1 e2 hp hsc hs=>?_;rw[e1,e2];have hLs:env.locals<s.heap.objs.size:=by refine aH hg.sees λm h1 Z=>?_;exact h1.lt
 refine Ab (hs:=by rw[yO];rfl) (Wp.mono (jj2 (C:=λb=>s.heap.objs.size<=b) hp) λu s₁ q=>?_);refine cD q λQd e₁ hv=>?_;have uv:=hg.ext e₁;have dM:=uv.fa (C:=λb=>s₁.heap.objs.size<=b) (λa h=>h) λh=>absurd hLs (bw (Qd▸h));rw[←Qd] at hv;have Vz:=lQ (GX hsc);refine Wp.mono (dM.store hs Vz.1 (hv.any Vz.1) λl el=>absurd el (Vz.2 l)) λZ s₂ Ey=>?_;exact jh rfl (uv.Wu Ey.2.2.2 (jgn hs hg.wf hsc λz q h=>hg.V6 h)) (aC.trans e₁.cC (aC.mono Ey.1 (λb Z hb=>uv.Xa hb) λZ Z g=>g)) (Ey.2.1.trans (aU (·.objs.size) Qd))
theorem jol(O:Ops D S)(pM:W env.locals)(hco:env.scope.isCoroutine=false)(hi:interactive env=false)(n:Nat):GS B W tot env S D n:=by
 induction n with
 |zero=>exact λZ Z Z Z h=>nn h
 |succ n ih=>
  intro η st ys aq h c fs K H gd lv s0 s pre rest hc hg he hw ht k;have fa:=hg.fa (C:=λb=>s0.heap.objs.size<=b/\¬W b) (λa ha=>⟨aF he.size ha,λq=>absurd (hw a q) (bw ha)⟩) λq=>q.2 pM;cases st with
  |Expr e pos=>exact seg_yield O pM hco hi h (λb c=>c) hc hg he hw ht fa k
  |If t b o pos=>
   refine aM h ?_;clear h;intro r hr h;refine jxn (tmo ((sound hc.room O n).2.1 η t env _ _ _ s r fa hr) (λr' s₁ q=>?_) λZ Z f=>f);refine kA q λeq1 e₁=>?_;subst eq1;exact Tf ih _ η ys aq h (pre:=pre) (rest:=rest) hc (hg.ext e₁) (he.trans e₁.cC) (λb w=>bJ (hw b w) (aC.size e₁)) ht (k.back λb o Z Z h=>aA.heap e₁ h)
  |Assign ts e pos=>
   refine mH h ?_;clear h;intro aD hs e';cases e';refine tQ (Wp.mono (hg.const hs) λf s₂ q=>?_);refine cW q λeq1 g₂ e₂ Z=>?_;subst eq1;exact k s0 s₂ (λZ h=>nomatch h) g₂ (he.trans (aC.mono e₂ (λb Z hb=>hb▸pM) λZ Z g=>g)) (λb w=>bJ (hw b w) e₂.size) λb o nb w h=>e₂.heap b o nb h
  |_=>exact nn h
end
section
variable{B:Around}{W:AP}{tot:LV}{env:Env}{S:Sp}{D:Nat}
theorem jle(hh:A.handled=none)(it:Addr)(x:List Nat)(t:Tok):
  Draws prog w A it [it] x.length (SignAt ⟨x.toArray⟩) (λi h=>h.IsStrIter it (strIterType ⟨x.toArray⟩) ⟨x.toArray⟩ t i):=by
 have hn:x.length=(⟨x.toArray⟩:Str).cps.size:=by simp
 rw[hn];unfold strIterType;split
 ·exact Draws.strAscii hh it _ t
 ·exact Draws.strWide hh it _ t
theorem jcf{ts:List PySem.Expr}:∀{vs:LV} {η aq:ME},cH ts vs η=some aq->(∀v∈vs,isScalar v=true)->(∀f∈η,f.vals.length=f.names.length)->(∀z q,look z η=some q->isScalar q=true)->∀z q,look z aq=some q->isScalar q=true:=by
 induction ts with
 |nil=>intro vs η aq h _ _ cL;rw[←(xJ h).2];exact cL
 |cons t ts ih=>
  intro vs η aq h hv wf cL;refine qw (xK h) λy py p r aD eq1 eq2 Z zz=>kA zz λh1 h2=>?_;subst eq1;subst eq2;exact ih h2 (λv hm=>hv v (pO _ hm)) (mO (y:="") h1 wf).2.2.2 (jgn h1 wf (hv p nA) cL)
theorem jiU{n:Nat}(hS:GS B W tot env S D n)(pM:W env.locals){it e:Addr}(hit:W it)(he:W e)(hne:e≠it)(hLi:it≠env.locals)(hLe:e≠env.locals)(h0:V.h₀.get? it=none)(h0e:V.h₀.get? e=none)(hcell:env.cells=[]){x:List Nat}{tk:Tok}
  {tgt:PE}{body:List Stmt}{fs:List Frame}(hc:GC B D (.forLoop tgt (.ref e) body [] env) id fs)(N7:Te tgt=true):
  ∀(cs:List Nat) (i:Nat) (η:ME) (ys:LV) (aq:ME),x.drop i=cs->i<=x.length->Cq (λη=>mX (mY S n) η body) tgt i η cs=some (ys,aq)->∀{s0 s:Shared} {pre rest:LV} {old:Value},
   GI env η s->aC W no s0 s->(∀b,W b->b<s.heap.objs.size)->IsEnum s.heap e it i old->s.heap.IsStrIter it (strIterType ⟨x.toArray⟩) ⟨x.toArray⟩ tk i->tot=pre++(ys++rest)->
   (∀mj s',GI env aq s'->aC W no mj s'->(∀b,W b->b<s'.heap.objs.size)->nQ B W tot rest.length mj (.block [] env) (leafOf (.ok .next)) fs s')->
   nQ B W tot (ys++rest).length s0 (.forLoop tgt (.ref e) body [] env) ((model V.prog V.w).den (.forLoop tgt (.ref e) body [] env)) fs s
 |[],i,η,ys,aq,hx,hle,h,s0,s,pre,rest,old,hg,hev,hw,hen,hst,ht,k=>by
  cases h;refine jgm rfl ?_;have hst':s.heap.IsStrIter it (strIterType ⟨x.toArray⟩) ⟨x.toArray⟩ tk x.length:=by
   have hi:x.length<=i:=by simpa using hx
   have:i=x.length:=DW hle hi;exact this▸hst
  refine Wp.mono (j4 (wpAny_pyNext_enum_endD (jle (A:=(B.over _ fs).in1) hc.room.handled it x tk) hen hst' (Q:=λr s'=>r=none/\∃h',Heap.ExtBut it s.heap h'/\s'={s with heap:=h'}) λh' hk=>kY rfl h' hk rfl)) λr s₁ q=>?_;refine Az q λqs eq1 h' hk eq2=>?_;subst eq1;subst eq2;have e₁:aC W no s {s with heap:=h'}:=⟨λb o nb g=>hk b o (λq=>nb (q▸hit)) g,qs.1,λZ Z Z g=>g,aN _,id,rfl⟩;exact k s0 _ (hg.keep (λo g=>hk _ o (sr hLi) g) ⟨λb o g=>hk b o (λq=>by rw[q,h0] at g;exact nn g) (hg.base.1 b o g),hg.base.2⟩) (hev.trans e₁) (λb w=>bJ (hw b w) qs.1)
 |c::cs,i,η,ys,aq,hx,hle,h,s0,s,pre,rest,old,hg,hev,hw,hen,hst,ht,k=>by
  refine aM h ?_;clear h;intro aD ha h;refine aH (bx h) λbC hb h=>?_;obtain⟨y1,cN⟩:=bC;refine aH (iM h) λbC h2 h=>?_;obtain⟨y2,gG⟩:=bC
  ·cases h;have hlt:i<x.length:=by
    rcases uZ i x.length with q|q
    ·exact q
    ·rw[Ew q] at hx;cases hx
   have hxi:x[i]?=some c/\x.drop (i+1)=cs:=by
    rw[Ak hlt] at hx;simp only[List.cons.injEq] at hx;exact⟨by rw[iy hlt,hx.1],hx.2⟩
   refine jgm rfl ?_;refine wpAny_pyNext_enum_itemD (jle (A:=(B.over _ fs).in1) hc.room.handled it x tk) hen hst hlt hne (by simpa using hne) λv h' tk' hP ho hst' htup hsz hk=>?_;refine eV hP λc' u hc' bB=>?_;subst bB;have hcc:c'=c:=by
    have:x[i]?=some c':=by simpa using hc'
    rw[hxi.1] at this;cases this;rfl
   subst hcc;obtain⟨elts,x1,pos,rfl⟩:∃elts x1 pos,tgt=.Tuple elts x1 pos:=by
    refine aH (ux N7) λts ht Z=>?_;refine kO (JR ht) λk p e=>?_;exact Qq _ k p e
   show wpAny _ _ (letOwnedTupleGo (.Tuple elts x1 pos) (.ref e) (.ref s.heap.objs.size)) _ _ _;refine wpAny_letOwnedTupleGo_enum (he:=ho) λh'' jHJ hsb=>?_;have hsb':Heap.SameBut e h' h'':=hsb;have hsz2:h''.objs.size=s.heap.objs.size+1:=by rw[hsb'.1,hsz]
   have hke:∀b o,b≠e->b≠it->s.heap.get? b=some o->h''.get? b=some o:=λb o n1 n2 g=>(hsb'.2 b n1).trans (hk b o n1 n2 g);have jHK:s.heap.objs.size≠e:=λq=>absurd (hw e he) (by rw[←q];exact pQ _);have jHD:h''.get? s.heap.objs.size=some {cls:=.type "tuple",data:=.seq #[.int i tk',.str ⟨#[c']⟩ u]}:=(hsb'.2 _ jHK).trans htup;generalize hs1:({s with heap:=h'',toks:=tk'+1}:Shared)=s₁;have Qe:s₁.heap=h'':=by rw[←hs1]
   have e₁:aC W no s s₁:=by
    subst hs1;exact⟨λb o nb g=>hke b o (λq=>nb (q▸he)) (λq=>nb (q▸hit)) g,by show _<=h''.objs.size;lia,λZ Z Z g=>g,aN _,id,rfl⟩
   have uv:GI env η s₁:=by
    subst hs1;exact hg.keep (λo g=>hke _ o (sr hLe) (sr hLi) g) ⟨λb o g=>hke b o (λq=>by rw[q,h0e] at g;exact nn g) (λq=>by rw[q,h0] at g;exact nn g) (hg.base.1 b o g),hg.base.2⟩
   have Jv:∀b,W b->b<s₁.heap.objs.size:=λb w=>bJ (hw b w) e₁.size;have dM:=uv.fa (C:=λb=>s0.heap.objs.size<=b/\¬W b) (λa ha=>⟨aF (hev.trans e₁).size ha,λq=>absurd (Jv a q) (bw ha)⟩) λq=>q.2 pM;have hv:VR (λb=>s0.heap.objs.size<=b/\¬W b) s₁.heap (.tup [.int i,.str [c']]) (.ref s.heap.objs.size):=by
    refine .tup (vs:=[.int i tk',.str ⟨#[c']⟩ u]) ⟨hev.size,λq=>absurd (hw _ q) (pQ _)⟩ (nJ _ (by rw[Qe];exact jHD) _ rfl) (.cons (.int _ _) (.cons (.str [c'] u) .nil))
   refine Wp.mono (BX hc.room.handled dM ha hv) λZ s₂ q=>?_;refine kA q λe₂ cO=>?_;have hot:∀b,f9 env η b->b=env.locals:=λb hb=>uv.Xa hb;have e2':aC W no s₁ s₂:=aC.mono e₂ (λb Z hb=>hot b hb▸pM) λZ Z g=>g;have hsc:∀z q,look z aD=some q->isScalar q=true:=by
    exact jcf (show cH elts [.int i,.str [c']] η=some aD from ha) (by intro v hm;rcases gO.mp hm with rfl|hm;rfl;rcases gO.mp hm with rfl|hm;rfl;cases hm) hg.wf λz q h=>hg.V6 h
   have jHL:=uv.Wu cO hsc;refine Tf hS body aD y1 cN hb (pre:=pre) (rest:=y2++rest) hc jHL ((hev.trans e₁).trans e2') (λb w=>bJ (Jv b w) e2'.size) (by rw[ht];simp) ?_ |> λz=>by rw[dm];exact z
   intro mj s' _ g' e' w' k';refine seg_again (by rfl) ?_;have jHX:IsEnum s'.heap e it ((i+1:Nat):Int) (.str ⟨#[c']⟩ u):=k' e _ hLe he (e₂.heap e _ (λhb=>hLe (hot _ hb)) (by rw[Qe];exact jHJ));have hst2:s'.heap.IsStrIter it (strIterType ⟨x.toArray⟩) ⟨x.toArray⟩ tk (i+1):=by
    refine aH hst' λo ho' r=>?_;refine aW o (k' it o hLi hit (e₂.heap it o (λhb=>hLi (hot _ hb)) ?_)) r;rw[Qe];exact(hsb'.2 it (sr hne)).trans ho'
   exact jiU hS pM hit he hne hLi hLe h0 h0e hcell hc N7 cs (i+1) cN y2 gG hxi.2 hlt h2 (pre:=pre++y1) g' e' w' jHX hst2 (by rw[ht];simp) k
end
section
variable{A B:Around}{env:Env}{S:Sp}{D:Nat}
def jqs(s:Shared)(x:List Nat)(v:Value)(s':Shared):Prop:=
 ∃tk old,v=.ref (s.heap.objs.size+1)/\IsEnum s'.heap (s.heap.objs.size+1) s.heap.objs.size (0:Nat) old/\s'.heap.IsStrIter s.heap.objs.size (strIterType ⟨x.toArray⟩) ⟨x.toArray⟩ tk 0/\s'.heap.objs.size=s.heap.objs.size+2/\aA s s'
theorem jn7(hg:GI env η s)(hen:bW "enumerate" (.type "enumerate"))(VB:lL η "enumerate"=true)(hy:look y η=some (.str x))(hd:(y==("__debug__":Str))=false):
  Wp A (eval (.Call (.Name "enumerate" gp) [.Name y yp] [] pos) env) (jqs s x) s:=by
 have hLs:env.locals<s.heap.objs.size:=by refine aH hg.sees λm h1 Z=>?_;exact h1.lt
 have fa:=hg.fa (C:=λa=>s.heap.objs.size<=a) (λa h=>h) λh=>absurd hLs (bw h);show Wp A (eval (.Name "enumerate" gp) env>>=λu=>callWith pos u [] (backTo pos (starEach [.Name y yp] env)) []) _ s;refine Wp.bind (hen.load fa VB (by decide+kernel)) λu s' q=>?_;refine kA q λeq1 eq2=>?_;subst eq1;subst eq2;refine O3 rfl ?_;refine evalArgs_plain (wX (tmo (qW (Wp.mono (fa.load hy) λv s₁ q=>?_) hd) (λv s₁ q=>q) λZ Z f=>f.elim));refine jDc s' q λhx Z=>?_;refine cR v hx.qp λt=>?_;refine El ?_;show Wp A (call (.type "enumerate") [.str ⟨x.toArray⟩ t] []) _ s₁;refine call_enumerate_str λh' h1 h2 h3 h4=>Qv t .none rfl h1 h2 h3 ?_;exact⟨λb o Z g=>h4 b o g,by show _<=h'.objs.size;lia,λZ Z Z g=>g,aN _,id,rfl⟩
theorem jro(h:jwH S n η tgt it body orelse r=some items):∃gp y yp cpos x,it=.Call (.Name "enumerate" gp) [.Name y yp] [] cpos/\orelse=[]/\lL η "enumerate"=true/\Te tgt=true/\(y==("__debug__":Str))=false/\look y η=some (.str x)/\
  ((Cq (λη=>mX (mY S n) η body) tgt 0 η x).bind λp=>(mX (mY S n) p.2 r).map λq=>p.1++q.1)=some items:=by
 refine aM h ?_;clear h;intro q h1 h;refine aM h ?_;clear h;intro f h2 h;refine aM h ?_;clear h;intro a h3 h;refine aM h ?_;clear h;intro y h4 h;refine cY h ?_;clear h;intro hc h;refine fM hc ?_;clear hc;intro hc c6;refine fM hc ?_;clear hc;intro hc c5;refine fM hc ?_;clear hc;intro hc c4;refine fM hc ?_;clear hc;intro hc c3;refine fM hc ?_;clear hc;intro c1 c2;refine aM h ?_;clear h;intro x h5 h;refine aM h5 ?_;clear h5;intro p h6 h7;refine kE (oX h2) λgp h2=>?_;refine kE (oX h4) λyp h4=>?_;have c1:=bO.mp c1;rw[c1] at h2 c2;refine Fi gp y yp q.2.2.2 x ?_ (qj.mp c4) c2 c3 (by simpa using c5) (by rw[h6,PV.fJ h7]) h;rw[Xy h1,h2,gQ h3,h4,qj.mp c6]
theorem jpy{n:Nat}(O:Ops D S)(hen:bW "enumerate" (.type "enumerate"))(hco:env.scope.isCoroutine=false)(hi:interactive env=false){k:Nat}{W:AP}{items:LV}(hW:∀b,W b↔b=env.locals\/b=k\/b=k+1)
  {c:Code}{gd:Bool->Bool}{fs:List Frame}(hc:GC B D c gd fs)(hloop:∀tgt e body (kf:Result->Sem Fin) l p,GC B D (.forLoop tgt (.ref e) body [] env) id (.ret kf none (gd false) l c p []::fs)):
  ∀(body:List Stmt) (η:ME),GR S n η body=some items->∀{K:Flow->Sem Fin} {H:Value->Sem Fin} {lv:List Value->List Value} {s0 s:Shared},GI env η s->s.heap.objs.size=k->s0.heap.objs.size=k->aC W no s0 s->
   (∀mj s',aC W no mj s'->nQ B W items 0 mj c (K .next) fs s')->nQ B W items items.length s0 c ((execs body env).wrap K H gd lv) fs s
 |[],η,h,_,_,_,_,_,_,_,_,_,_=>nn h
 |st::r,η,h,K,H,lv,s0,s,hg,hk,hk0,he,hend=>by
  have pM:W env.locals:=(hW _).mpr (.inl rfl);have hLs:env.locals<s.heap.objs.size:=by refine aH hg.sees λm h1 Z=>?_;exact h1.lt
  refine seg_execs_cons ?_;cases st with
  |For tgt it body orelse pos=>
   refine qw (jro h) λgp y yp cpos x eit eo VB zz=>cW zz λN7 hd hy h=>?_;rw[eit,eo]
   ···refine aH (bx h) λbC h1 h=>?_;obtain⟨y1,aD⟩:=bC;refine aH (iM h) λbC h2 h=>?_;obtain⟨y2,cN⟩:=bC
      ·cases h;rw[exec_For];refine seg_at ?_;show nQ B W _ _ s0 c (Sem.wrap _ _ _ _ (eval (.Call (.Name "enumerate" gp) [.Name y yp] [] cpos) env>>=_)) fs s;rw[su,pY];refine tQ (Wp.mono (jn7 hg hen VB hy hd) λv s₁ q=>?_);refine Qn q λtk old eq1 q1 q2 q3 q4=>?_;subst eq1;rw[hk] at q1 q2 q3⊢;have vo:∀b,k<=b->V.h₀.get? b=none:=λb hb=>by
        cases hq:V.h₀.get? b with|none=>rfl|some o=>exact absurd (hls (hg.base.1 _ o hq)) (bw (hk▸hb))
       show nQ B W _ _ s0 c (Sem.wrap _ _ _ _ (Pure.pure (Value.ref (k+1))>>=_)) fs s₁;rw[su,pY];refine tQ (bc ?_);show nQ B W _ _ s0 c (Sem.wrap _ _ _ _ (standAt _>>=_)) fs s₁;rw[su,pY];refine tQ (gr ?_);show nQ B W _ _ s0 c (Sem.wrap _ _ _ _ (holding [Value.ref (k+1)] (pyIter (Value.ref (k+1)))>>=_)) fs s₁;rw[su,pY];refine tQ (dJ (wpAny_pyIter_enum q1 ?_));refine seg_call λp=>?_;have hS:=jol (B:=B) (W:=W) (tot:=y1++y2) (env:=env) O pM hco hi n;have hLk:env.locals<k:=hk▸hLs;have Jv:∀b,W b->b<s₁.heap.objs.size:=λb w=>by
        rw[q3];rcases(hW b).mp w with rfl|rfl|rfl
        ·exact bJ hLk (je _ _)
        ·exact Nat.lt_add_of_pos_right ∅
        ·exact jo _
       refine jiU hS pM (it:=k) (e:=k+1) ((hW _).mpr (.inr (.inl rfl))) ((hW _).mpr (.inr (.inr rfl))) (Nat.succ_ne_self k) (z9 hLk) (z9 (rZ hLk)) (vo _ (aN _)) (vo _ (iH _)) hg.cells
        (hloop tgt (k+1) body _ _ p) N7 x 0 η y1 aD rfl (jq _) h1 (pre:=[]) (rest:=y2) (hg.ext q4) (he.trans q4.cC) Jv q1 q2 rfl λmj s' g' e' w'=>?_
       refine seg_leaf (.ok .next) ?_;show nQ B W (y1++y2) y2.length mj c ((execs r env).wrap K H gd lv) fs s';have z:=Tf hS r aD y2 cN h2 (K:=K) (H:=H) (lv:=lv) (pre:=y1) (rest:=[]) hc g' e' w' (by simp) λjHY s'' Z g e w k=>hend jHY s'' e;rw[fV] at z;exact z
  |Assign ts e pos=>
   refine aM h ?_;clear h;intro aD hs h;refine tQ (Wp.mono (hg.const hs) λf s₂ q=>?_);refine cW q λeq1 g₂ e₂ Jy=>?_;subst eq1;exact jpy O hen hco hi hW hc hloop r aD h g₂ (Jy.trans hk) hk0 (he.trans (aC.mono e₂ (λb Z hb=>hb▸pM) λZ Z g=>g)) hend
  |_=>exact nn h
end
section
theorem AllBare.set(h:AllBare gens)(hx:x.bare=true):AllBare (gens.setIfInBounds g x):=λy hy=>by
 rw[Array.mem_iff_getElem?] at hy;refine kE hy λi hi=>?_;rw[Array.getElem?_setIfInBounds] at hi;split at hi
 ·split at hi
  ·cases hi;exact hx
  ·exact nn hi
 ·exact h y (Array.mem_of_getElem? hi)
theorem Base.set(h:Base s)(hx:x.bare=true):Base (s.setGen g x):=⟨h.1,AllBare.set h.2 hx⟩
theorem jhb{P:Nat->Shared->Shared->Prop}{Q:Option Value->Shared->Prop}(hh:A.handled=none)
  (hl:s.heap.NoLimit)(hroom:A.depth<recursionLimit)(hg:s.heap.IsGen a g)(hgs:s.gens[g]?=some gs)
  (hgo:gs.Goes (model V.prog V.w) A.in1 (λn s0 r s₁=>r=.ok (.ret .none)/\P n s0 s₁) Y n (.send .none) (s.setGen g .running))
  (hY:∀v s₁ gs',gs'.bare=true->Y (n-1) (s.setGen g .running) v s₁ (λr' s''=>match n with
    |0=>False
    |m+1=>gs'.Goes (model V.prog V.w) A.in1 (λn s0 r s₁=>r=.ok (.ret .none)/\P n s0 s₁) Y m r' s'')->Q (some v) (s₁.setGen g gs'))
  (hP:∀s₁,P n (s.setGen g .running) s₁->∀h',(∀b o,s₁.heap.get? b=some o->h'.get? b=some o)->s₁.heap.objs.size<=h'.objs.size->Q none {s₁.setGen g .finished with heap:=h'}):
  Wp A (pyNext (.ref a)) Q s:=by
 unfold pyNext;refine tbn (wpAny_attempt (wpAny_callSpecial?_slot (name:=Str.ofString "__next__") hg.typeIs slot_gen_next (wpAny_call_entry slot_gen_next hg.typeIs entry_gen_next ?_ (args_gen_next _))));show wpAny _ _ (Builtin.Generator.genWake (.ref a) (.send .none)) _ _ s;unfold Builtin.Generator.genWake;refine tbn (dJ (wpAny_genNumber hg (tbn (wpAny_genState hgs ?_))));have h2:=hgo;rcases gs with _|_|_|_
 rotate_left 2
 ·exact hgo.elim
 ·exact hgo.elim
 all_goals
  clear h2;refine tbn (wpAny_roomToWake hl hroom ?_);show wpAny _ _ (.resume g (.send .none) [] _) _ _ s;refine wpAny_resumeQ hgs hgo (λx s₁ hx=>?_) (λv s₁ gs' hb hv=>bc (aW v rfl (bc (hY v s₁ gs' hb hv))));refine gJ x hx λhp=>?_;show wpAny _ _ (newExc (.type "StopIteration") []>>=_) _ _ _;refine tbn ?_;simp only[newExc,newTuple];refine tbn (u5 ?_ (by size_fits));refine tbn (m:=firstArgMember _ _) (u6 (a:=Value.none) (by first|rfl|(simp only[firstArgMember];rfl)) ?_);refine u5 ?_ (by size_fits);refine tbn (tbn (wpAny_handled ?_));rw[show A.in1.handled=none from hh];refine wpAny_throw ?_;refine tbn (wpAny_isInstance (T:="StopIteration") (b:=true) (aW _ (iJ _ rfl) rfl) isSubtype_stop ?_);exact bc (hP s₁ hp _ (λb o hb=>fO _ (fO _ hb)) (by rw[fK,fK];exact aF (iH _) (iH _)))
end
section
theorem aC.setG(e:aC W no (s.setGen g .running) s₁)(hx:x.bare=true):aC W (λi=>i=g) s (s₁.setGen g x):=by
 have hsz:(s.setGen g .running).gens.size=s.gens.size:=by simp[Shared.setGen]
 refine⟨e.heap,e.size,λi y hi h=>?_,?_,λhb=>?_,e.os⟩
 ·have h1:(s.setGen g .running).gens[i]?=some y:=by
   show(s.gens.setIfInBounds g _)[i]?=_;rw[V8 (sr hi)];exact h
  have h2:=e.gens i y (λq=>q) h1;show(s₁.gens.setIfInBounds g _)[i]?=_;rw[V8 (sr hi)];exact h2
 ·show s.gens.size<=(s₁.gens.setIfInBounds g _).size;rw[PL,←hsz];exact e.cV
 ·exact AllBare.set (e.bare (AllBare.set hb rfl)) hx
theorem jsp(hlim:V.h₀.NoLimit){I:Addr}{g:Nat}{W:AP}{tot:LV}(hI:¬W I)(hW0:∀b,W b->V.h₀.get? b=none):∀(rest:LV) {s':Shared} {gs:GenState} {pre:LV},tot=pre++rest->s'.heap.IsGen I g->s'.gens[g]?=some gs->Base s'->
  gs.Goes (model V.prog V.w) AM.in1 (RP W) (YP W tot) rest.length (.send .none) (s'.setGen g .running)->
  Wp AM (pyNext (.ref I)) (λr s''=>match rest with
   |[]=>r=none/\aC W (λi=>i=g) s' s''
   |x::l=>∃v,r=some v/\VR (λb=>s'.heap.objs.size<=b/\¬W b) s''.heap x v/\aC W (λi=>i=g) s' s''/\(∀b,W b->b<s''.heap.objs.size)/\mK I g l W s'') s':=by
 have susp:∀(rest:LV) (pre:LV),(∀{s':Shared} {gs:GenState},s'.heap.IsGen I g->s'.gens[g]?=some gs->Base s'->
   gs.Goes (model V.prog V.w) AM.in1 (RP W) (YP W tot) rest.length (.send .none) (s'.setGen g .running)->
   Wp AM (pyNext (.ref I)) (λr s''=>match rest with
   |[]=>r=none/\aC W (λi=>i=g) s' s''
   |x::l=>∃v,r=some v/\VR (λb=>s'.heap.objs.size<=b/\¬W b) s''.heap x v/\aC W (λi=>i=g) s' s''/\(∀b,W b->b<s''.heap.objs.size)/\mK I g l W s'') s')->
   ∀{s₁:Shared} {gs:GenState},s₁.heap.IsGen I g->s₁.gens[g]?=some gs->(∀b,W b->b<s₁.heap.objs.size)->
   (∀s'',Base s''->(∀b o,W b->s₁.heap.get? b=some o->s''.heap.get? b=some o)->s₁.heap.objs.size<=s''.heap.objs.size->gs.Goes (model V.prog V.w) AM.in1 (RP W) (YP W tot) rest.length (.send .none) s'')->mK I g rest W s₁:=by
  intro rest pre step s₁ gs hg hgs hw go;have hgen:∀{s':Shared},lN (λb=>W b\/b=I) g s₁ s'->s'.heap.IsGen I g:=λk=>by
   refine jK hg λo nm qn ho r=>?_;exact jU o nm qn (k.heap _ _ (.inr rfl) ho) r
  cases rest with
  |nil=>
   intro A s' hA hb hk;refine Lq hA (Wp.mono (step (hgen hk) (hk.gens _ hgs) hb (go _ (hb.set rfl) (λb o w h=>hk.heap b o (.inl w) h) hk.size)) λr s'' q=>q)
  |cons x l=>
   intro A s' hA hb hk;refine Lq hA (Wp.mono (step (hgen hk) (hk.gens _ hgs) hb (go _ (hb.set rfl) (λb o w h=>hk.heap b o (.inl w) h) hk.size)) λr s'' q=>?_);refine vG q λv eq1 hv e hw' hr=>?_;subst eq1;exact⟨v,W,rfl,hv,e,λb w=>w,λb w=>.inl w,hr⟩
 intro rest;induction rest with
 |nil=>
  intro s' gs pre ht hg hgs hb hgo;refine jhb (n:=0) (P:=λn s0 s₁=>n=0/\aC W no s0 s₁) (Y:=YP W tot) rfl (hlim.keeps hb.1) (by show recursionLimit-5<recursionLimit;decide) hg hgs hgo (λv s₁ gs' hbr hy=>?_) (λs₁ hp h' hk hsz=>?_)
  ·refine vG hy λp Z Z e Z hk=>?_;exact(hk s₁ ⟨λb o h=>e.heap b o (λw=>by rw[hW0 b w] at h;exact nn h) (hb.1 b o h),e.bare (AllBare.set hb.2 rfl)⟩ (λZ Z Z h=>h) (aN _)).elim
  ·have e:=aC.setG hp.2 (x:=.finished) rfl;exact⟨rfl,aC.trans e ⟨λb o Z h=>hk b o h,hsz,λZ Z Z h=>h,aN _,id,rfl⟩⟩
 |cons x l ih=>
  intro s' gs pre ht hg hgs hb hgo;refine jhb (n:=l.length+1) (P:=λn s0 s₁=>n=0/\aC W no s0 s₁) (Y:=YP W tot) rfl (hlim.keeps hb.1) (by show recursionLimit-5<recursionLimit;decide) hg hgs hgo (λv s₁ gs' hbr hy=>?_) (λs₁ hp h' hk hsz=>?_)
  ·refine vG hy λp hp hv e hw hk=>?_;have hpx:p=x:=by
    rw[ht] at hp;simp at hp;exact hp.symm
   subst hpx;have e':=aC.setG e hbr;refine JN v rfl hv e' hw ?_;have hlt:g<s₁.gens.size:=by
    have h1:g<s'.gens.size:=(Jt.mp hgs).1;have h2:=e.cV;have h3:(s'.setGen g .running).gens.size=s'.gens.size:=by simp[Shared.setGen]
    lia
   refine susp l (pre++[p]) (λ{s'} {gs} a b c d=>ih (pre:=pre++[p]) (by rw[ht];simp) a b c d) (gs:=gs') ?_ ?_ hw λs'' hb'' hk'' hsz=>hk s'' hb'' hk'' hsz
   ·refine jK hg λo nm qn ho r=>?_;exact jU o nm qn (e.heap _ _ hI ho) r
   ·show(s₁.gens.setIfInBounds g gs')[g]?=some gs';rw[Array.getElem?_setIfInBounds_self_of_lt hlt]
  ·cases hp.1
end
structure GenAt(a:Addr)(params:List Str)(sc:Scope)(body:List Stmt):Prop where
 fd:∃o fd,V.h₀.get? a=some o/\o.data=.func fd/\fd.scope=sc/\fd.body=.stmts body/\fd.closure=[]/\fd.globals=mainGlobals/\fd.builtins=builtinsNs/\
  (∀vals:List Value,vals.length=params.length->bindArgs fd ⟨vals,[]⟩=pure (params.zip vals))/\V.h₀.CodeRec fd.code fd.qualname
 lim:V.h₀.NoLimit
 ok:Cd sc=true
 vq:(sc.names.all λx=>x.2 != .cell)=true
 kind:sc.kind=.function
 co:sc.isCoroutine=false
 gen:sc.isGenerator=true
def Ls(S:Sp)(n:Nat)(params:List Str)(sc:Scope)(body:List Stmt)(l:LV):OV:=
 (cH (params.map λx=>PySem.Expr.Name x default) l [bQ sc]).bind λη=>(GR S n η body).map .gen
theorem jnE:∀(names:List (Str×NameKind)) (n:Nat),(names.all λx=>x.2 != .cell)=true->cellsFrom n names []=[]:=λnames=>names.rec
  (λZ Z=>rfl)
  λ(nm,k) r ih n h=>by
  simp only[jR,eN,Iu,ne_eq] at h;have:(k==NameKind.cell)=false:=gD.mpr h.1;simp only[cellsFrom,this,kj,jH];exact ih n h.2
theorem jfE(h:cH ts vs η=some aq)(hv:vs.all isScalar=true)(wf:∀f∈η,f.vals.length=f.names.length)(cL:∀z q,look z η=some q->isScalar q=true):∀z q,look z aq=some q->isScalar q=true:=
 jcf h (λv hm=>cU.mp hv v hm) wf cL
theorem joi(hD:D<=3):aR (AM.in1.over (.func body env) []) D:=by
 refine⟨rfl,?_,?_⟩
 ·exact mz (oH hD 996) ∅
 ·exact mz (rY (oH (wR 12 hD) 9795) 60) ∅
theorem joW(hD:D<=3):aR (AM.in1.over (.forLoop tgt it b [] env') [.ret kf none g l (.func body env) p []]) D:=by
 refine⟨rfl,?_,?_⟩
 ·exact mz (oH hD 996) ∅
 ·exact mz (rY (oH (wR 12 hD) 9795) 60) ∅
def jqv(I:Addr)(g:Nat)(W:AP)(items:LV)(s':Shared)(r:Option Value)(s'':Shared):Prop:=match items with
 |[]=>r=none/\aC W (λi=>i=g) s' s''|x::l=>∃v,r=some v/\VR (λb=>s'.heap.objs.size<=b/\¬W b) s''.heap x v/\aC W (λi=>i=g) s' s''/\(∀b,W b->b<s''.heap.objs.size)/\mK I g l W s''
section
variable{S:Sp}{D:Nat}
theorem jod(hD:D<=3)(O:Ops D S)(hlim:V.h₀.NoLimit)(hen:bW "enumerate" (.type "enumerate"))(hco:env.scope.isCoroutine=false)(hg:GI env η s)
  (hrun:GR S n η body=some items)(hgen:s.heap.IsGen I g)(hgs:s.gens[g]?=some (.fresh (.func body env)))(hLI:env.locals≠I):mK I g items (λb=>b=env.locals) s:=by
 have hi:interactive env=false:=by
  unfold interactive;rw[hg.fn];rfl
 have hLs:env.locals<s.heap.objs.size:=by refine aH hg.sees λm h1 Z=>?_;exact h1.lt
 have hIs:I<s.heap.objs.size:=by refine jK hgen λo nm qn ho r=>?_;exact hls ho
 have key:∀{s':Shared},Base s'->lN (λb=>b=env.locals\/b=I) g s s'->Wp AM (pyNext (.ref I)) (jqv I g (λb=>b=env.locals\/b=s'.heap.objs.size\/b=s'.heap.objs.size+1) items s') s':=by
  intro s' hb hk;have hg':GI env η s':=hg.keep (λo h=>hk.heap _ o (.inl rfl) h) hb;have vo:∀b,s'.heap.objs.size<=b->V.h₀.get? b=none:=λb hb'=>by
   cases hq:V.h₀.get? b with|none=>rfl|some o=>exact absurd (hls (hb.1 _ o hq)) (bw hb')
  refine jsp hlim (W:=λb=>b=env.locals\/b=s'.heap.objs.size\/b=s'.heap.objs.size+1) (tot:=items) (λw=>?_) (λb w=>?_) items (pre:=[]) rfl ?_ (hk.gens _ hgs) hb ⟨rfl,?_⟩
  ·have h1:=hk.size;rcases w with q|q|q
   ·exact hLI q.symm
   ·exact absurd (bJ hIs h1) (by rw[q];exact pQ _)
   ·exact absurd (bJ hIs h1) (by rw[q];exact bw (iH _))
  ·rcases w with rfl|rfl|rfl
   ·exact hg.dY
   ·exact vo _ (aN _)
   ·exact vo _ (iH _)
  ·refine jK hgen λo nm qn ho r=>?_;exact jU o nm qn (hk.heap _ o (.inr rfl) ho) r
  ·refine seg_func ?_;refine jpy O hen hco hi (k:=s'.heap.objs.size) (λb=>Iff.rfl) (gd:=id) ⟨rfl,rfl,rfl,joi hD⟩ (λtgt e b kf l p=>⟨rfl,rfl,rfl,joW hD⟩) body η hrun (hg'.keep (λo h=>h) (hb.set rfl)) rfl rfl aC.refl λmj s'' e=>?_;exact seg_end (.ok (.ret .none)) ⟨rfl,rfl,e⟩
 cases items with
 |nil=>
  intro A s' hA hb hk;refine Lq hA (Wp.mono (key hb hk) λr s'' q=>⟨q.1,aC.mono q.2 (λb hb' w=>?_) λZ Z h=>h⟩);rcases w with w|w|w
  ·exact w
  ·exact absurd hb' (by rw[w];exact pQ _)
  ·exact absurd hb' (by rw[w];exact bw (iH _))
 |cons x l=>
  intro A s' hA hb hk;refine Lq hA (Wp.mono (key hb hk) λr s'' q=>?_);refine vG q λv eq1 hv e hw hr=>?_;subst eq1;refine⟨v,_,rfl,hv,aC.mono e (λb hb' w=>?_) (λZ Z h=>h),λb w=>.inl w,λb w=>?_,hr⟩
  ·rcases w with w|w|w
   ·exact w
   ·exact absurd hb' (by rw[w];exact pQ _)
   ·exact absurd hb' (by rw[w];exact bw (iH _))
  ·have hlt:=hw b w;rcases w with w|w|w
   ·exact .inl w
   ·exact .inr ⟨by rw[w];exact aN _,hlt⟩
   ·exact .inr ⟨by rw[w];exact iH _,hlt⟩
end
section
variable{S:Sp}{D:Nat}
theorem jl4(hD:D<=3)(d:GenAt a params sc body)(O:Ops D S)(hen:bW "enumerate" (.type "enumerate"))(hD':1<=D'):
  Callee D' (λl=>if l.all isScalar then Ls S n params sc body l else none) (.ref a):=by
 refine Bb d.fd λo fd ho hdata f1 f2 f3 zz=>cW zz λf4 f5 hbind hcode=>?_;refine⟨λA pos args s Q hst h=>?_,λA s0 s C l vs p hA hh e hv hF=>?_⟩
 ·refine O4 (o:=o) (fd:=fd) (tmo h (λy s₁ q=>⟨⟨q.1 a o ho,hdata⟩,?_⟩) λZ Z f=>f.elim);rw[q.2.1];exact q.2.2
 ·refine cY hF ?_;clear hF;intro hsc hF
  ·have hp:l.all PV.plain=true:=cU.mpr λx hx=>GX (cU.mp hsc x hx);have hvs:=hv.plain hp;refine aM hF ?_;clear hF;intro η cL hF;refine mH hF ?_;clear hF;intro items hrun hF;cases hF;have hlen:vs.length=params.length:=by rw[←hvs.length,jg9 params l _ _ cL]
   have hAd:A.depth<recursionLimit:=mz (je _ _) hA.depth;refine I4 (codeAny_call_generator hAd (hh.base a o ho) hdata (by rw[f1];exact d.co) (by rw[f1];exact d.gen) f2 (hcode.keeps hh.base) ?_);rw[hbind vs hlen];refine bc ?_;rw[f1,f3,f4,f5];simp only[newFunctionEnv,Eg,kj,jH];refine tbn (IW ?_);refine tbn (Pa _ (λname kind cells=>by cases hkc:kind==NameKind.cell<;>simp[hkc]) _ _ _ _ ?_);rw[show({s with heap:=s.heap.push {cls:=.type "frame",data:=.dict #[]}}:Shared).heap.objs.size=s.heap.objs.size+1 from fK ..];generalize hs₁:({s with heap:=pushCells (s.heap.push {cls:=.type "frame",data:=.dict #[]}) sc.names}:Shared)=s₁;generalize Ez:({scope:=sc,locals:=s.heap.objs.size,globals:=mainGlobals,cells:=cellsFrom (s.heap.objs.size+1) sc.names [],qual:=fd.qualname++".<locals>.",func:=some a,code:=fd.code,frame:=some s.heap.objs.size,builtins:=builtinsNs}:Env)=env;refine kA (FA.entry hh d.ok d.kind (s₁:=s₁) (env:=env) hs₁.symm (by rw[←Ez];exact nM rfl rfl rfl rfl rfl)) λfa e₁=>?_;refine tbn (tmo (jff _ (λZ Z Z=>rfl) params l vs _ η s₁ cL (hvs.mono λb ob c g=>⟨⟨c,λq=>absurd (hls g) (bw q.1)⟩,e₁.heap g⟩) fa) (λZ s₂ q=>bc ?_) λZ Z f=>f.elim);refine kA q λe₂ cO=>?_;have hnk:∀x,env.kindOf x≠some .cell:=λx h=>by
    have h':sc.names.lookup x=some .cell:=by rw[←Ez] at h;exact h
    have:=cU.mp d.vq _ (mem_of_lookup h');simp at this
   have hcells:env.cells=[]:=by rw[←Ez];exact jnE _ _ d.vq
   have hL:env.locals=s.heap.objs.size:=by rw[←Ez]
   have jHZ:s.heap.objs.size<s₁.heap.objs.size:=by
    refine eV fa.sees λm f h1 Z=>?_;rw[←hL];exact h1.lt
   have WT:s.heap.objs.size<s₂.heap.objs.size:=bJ jHZ e₂.size;have hsn:∀z q,look z [bQ sc]=some q->isScalar q=true:=λz q h=>by
    have:=(BW h).2;simp[look] at this
   have jH0:=jfE cL hsc fa.wf hsn;have ext:aA s s₂:=by
    have h12:aC (λb=>¬b<s.heap.objs.size) no s s₂:=aC.trans e₁.cC (aC.mono e₂ (λb Z w=>(fa.hot w).2.1) λZ Z g=>g);exact aC.mono h12 (λb hb w=>w hb) λi hi w=>w
   refine⟨d.lim.keeps cO.base,?_⟩;generalize hs3:({s₂ with gens:=s₂.gens.push (.fresh (.func body env)),toks:=s₂.toks+1+1,heap:=s₂.heap.push {cls:=.type "generator",data:=.fields #[.int s₂.gens.size 0,.str fd.name s₂.toks,.str fd.qualname (s₂.toks+1)]}}:Shared)=s₃;have cu:aA s₂ s₃:=by
    subst hs3;refine⟨λb o Z h=>fO _ h,by show _<=(s₂.heap.push _).objs.size;rw[fK];exact iH _,λi x Z h=>?_,by show _<=(s₂.gens.push _).size;rw[Ar];exact iH _,λhb=>hb.push rfl,rfl⟩;show(s₂.gens.push _)[i]?=_;obtain⟨hlt,hx⟩:=Jt.mp h;rw[Array.getElem?_push_lt hlt,hx]
   have hgen:s₃.heap.IsGen s₂.heap.objs.size s₂.gens.size:=by
    subst hs3;exact Be _ _ _ (iJ _ rfl) rfl rfl rfl
   have hgs:s₃.gens[s₂.gens.size]?=some (.fresh (.func body env)):=by
    subst hs3;show(s₂.gens.push _)[s₂.gens.size]?=_;rw[Array.getElem?_push_size]
   have hsz3:s₃.heap.objs.size=s₂.heap.objs.size+1:=by subst hs3;exact fK ..
   have jH1:s₃.gens.size=s₂.gens.size+1:=by subst hs3;exact Ar ..
   have gH:=cO.ext cu;have gi:GI env η s₃:=by
    refine dZ gH.sees λm f h1 h2 Z Z=>?_;refine⟨gH.fn,gH.gl,gH.bi,gH.kinds,hnk,hcells,aW m h1 (λy pv hy=>?_),⟨gH.base,gH.bare⟩,gH.dY.2.2,gH.wf⟩;refine cD (h2 y pv hy) λhg hb hv=>?_;have hs:=jH0 y pv hy;rcases hb with ⟨hk,hm⟩|⟨hk,_⟩
    ·refine Qs hs hk _ hm ?_;exact VR.scalar hs (hv.plain (GX hs))
    ·exact absurd hk (hnk y)
   have hLI:env.locals≠s₂.heap.objs.size:=by rw[hL];exact iI WT
   have run:=jod hD O d.lim hen (env:=env) (by rw[←Ez];exact d.co) gi hrun hgen hgs hLI;refine⟨(e.trans ext).trans cu,?_⟩;refine QB s₂.heap.objs.size s₂.gens.size (λb=>b=env.locals) rfl ⟨sr hLI,aF e.size ext.size,λb w=>w▸gH.dY.2.2⟩ hgen (λb w=>?_) (aF e.cV ext.cV) (by rw[jH1];exact jo _) run;subst w;rw[hL];exact⟨e.size,bJ WT cu.size⟩
end
set_option tactic.hygienic true
noncomputable def jN(h:Heap)(a:Addr):Obj:=(h.get? a).getD default
def d7(h:Heap)(a:Addr):FuncData:=match (jN h a).data with
 | .func fd=>fd|_=>default
noncomputable def yQ(h:Heap)(a:Addr):Addr:=match (d7 h a).code with
 | .ref c=>c|_=>0
def Tg(h:Heap)(a:Addr):Array Value:=match (jN h a).data with
 | .fields vs=>vs|_=>#[]
def jDg(v:Option Value):Tok:=match v with
 |some (.str _ t)=>t|_=>default
theorem yR(x:(h.get? a).isSome=true):h.get? a=some (jN h a):=show _=some ((h.get? a).getD default) from match h.get? a,x with|some _,_=>rfl
theorem jAu:V.h₀.NoLimit:=aW (V.h₀.nsMap cStatics) (.of_isNs ⋯) ⋯
theorem jk(h:V.h₀.nsMap mainGlobals x=some v):bW x v:=aW (V.h₀.nsMap mainGlobals) (.of_isNs ⋯) (.inl h)
theorem pC(h:V.h₀.nsMap mainGlobals x=none)(h':V.h₀.nsMap builtinsNs x=some v):bW x v:=aW (V.h₀.nsMap mainGlobals) (.of_isNs ⋯) (.inr (kY h (V.h₀.nsMap builtinsNs) (.of_isNs ⋯) h'))
noncomputable def fnL(a:Addr)(sc:Scope):=(V.h₀.get? a,(jN V.h₀ a).data,(jN V.h₀ a).cls,(d7 V.h₀ a).scope,(d7 V.h₀ a).body,((d7 V.h₀ a).closure,(d7 V.h₀ a).globals,(d7 V.h₀ a).builtins,(d7 V.h₀ a).code,V.h₀.get? (yQ V.h₀ a)),(jN V.h₀ (yQ V.h₀ a)).data,(Tg V.h₀ (yQ V.h₀ a))[1]?,Cd sc,sc.kind,sc.isCoroutine,sc.isGenerator)
noncomputable def fnR(a:Addr)(sc:Scope)(body:List Stmt)(g:Bool):=(some (jN V.h₀ a),Data.func (d7 V.h₀ a),Value.type "function",sc,FuncBody.stmts body,(([]:List (Str×Addr)),mainGlobals,builtinsNs,Value.ref (yQ V.h₀ a),some (jN V.h₀ (yQ V.h₀ a))),Data.fields (Tg V.h₀ (yQ V.h₀ a)),some (Value.str (d7 V.h₀ a).qualname (jDg (Tg V.h₀ (yQ V.h₀ a))[1]?)),true,ScopeKind.function,false,g)
theorem jl(h:fnL a sc=fnR a sc body false):fc a (d7 V.h₀ a) sc body:=
 ⟨(cG _ (aU (·.1) h) (aU (·.2.1) h) (aU (·.2.2.1) h)),aU (·.2.2.2.1) h,aU (·.2.2.2.2.1) h,aU (·.2.2.2.2.2.1.1) h,aU (·.2.2.2.2.2.1.2.1) h,aU (·.2.2.2.2.2.1.2.2.1) h,
  ⟨_,_,_,_,aU (·.2.2.2.2.2.1.2.2.2.1) h,aU (·.2.2.2.2.2.1.2.2.2.2) h,aU (·.2.2.2.2.2.2.1) h,aU (·.2.2.2.2.2.2.2.1) h⟩,jAu,aU (·.2.2.2.2.2.2.2.2.1) h,aU (·.2.2.2.2.2.2.2.2.2.1) h,aU (·.2.2.2.2.2.2.2.2.2.2.1) h,aU (·.2.2.2.2.2.2.2.2.2.2.2) h⟩
theorem jwD(h:fnL a sc=fnR a sc body true)(hb:∀vals:List Value,vals.length=params.length->bindArgs (d7 V.h₀ a) ⟨vals,[]⟩=pure (params.zip vals))(hc:(sc.names.all λx=>x.2 != .cell)=true):GenAt a params sc body:=
 ⟨⟨_,_,aU (·.1) h,aU (·.2.1) h,aU (·.2.2.2.1) h,aU (·.2.2.2.2.1) h,aU (·.2.2.2.2.2.1.1) h,aU (·.2.2.2.2.2.1.2.1) h,aU (·.2.2.2.2.2.1.2.2.1) h,hb,
  ⟨_,_,_,_,aU (·.2.2.2.2.2.1.2.2.2.1) h,aU (·.2.2.2.2.2.1.2.2.2.2) h,aU (·.2.2.2.2.2.2.1) h,aU (·.2.2.2.2.2.2.2.1) h⟩⟩,jAu,aU (·.2.2.2.2.2.2.2.2.1) h,hc,aU (·.2.2.2.2.2.2.2.2.2.1) h,aU (·.2.2.2.2.2.2.2.2.2.2.1) h,aU (·.2.2.2.2.2.2.2.2.2.2.2) h⟩
noncomputable def bL(a:Addr)(v:Value):=bindArgs (d7 V.h₀ a) ⟨[v],[]⟩
noncomputable def bR(p:Str)(v:Value):Sem (List (Str×Value)):=pure (([p]:List Str).zip [v])
theorem nR(h:bL a=bR p)(vals:List Value)(e:vals.length=([p]:List Str).length):bindArgs (d7 V.h₀ a) ⟨vals,[]⟩=pure (([p]:List Str).zip vals):=
 (List.length_eq_one_iff.mp e).elim λv q=>q▸congrFun h v
noncomputable def bL2(a:Addr)(u v:Value):=bindArgs (d7 V.h₀ a) ⟨[u,v],[]⟩
noncomputable def bR2(p q:Str)(u v:Value):Sem (List (Str×Value)):=pure (([p,q]:List Str).zip [u,v])
theorem GZ(h:bL2 a=bR2 p q)(vals:List Value)(e:vals.length=([p,q]:List Str).length):bindArgs (d7 V.h₀ a) ⟨vals,[]⟩=pure (([p,q]:List Str).zip vals):=
 match vals,e with|u::t,e=>(List.length_eq_one_iff.mp (wU e)).elim λv r=>r▸congrFun (congrFun h u) v
theorem jfa:fc 307 (d7 V.h₀ 307) (defOf pw 23).2.2 (defOf pw 23).2.1:=jl ⋯
theorem jiT:fc 331 (d7 V.h₀ 331) (defOf pw 27).2.2 (defOf pw 27).2.1:=jl ⋯
theorem Th:fc 175 (d7 V.h₀ 175) (dw pw 17 1).2.2 (dw pw 17 1).2.1:=jl ⋯
theorem jlo:fc 226 (d7 V.h₀ 226) (dw pw 17 9).2.2 (dw pw 17 9).2.1:=jl ⋯
theorem Ti:fc 271 (d7 V.h₀ 271) (dw pw 17 16).2.2 (dw pw 17 16).2.1:=jl ⋯
theorem jog:fc 238 (d7 V.h₀ 238) (dw pw 17 11).2.2 (dw pw 17 11).2.1:=jl ⋯
theorem jmk:fc 213 (d7 V.h₀ 213) (dw pw 17 7).2.2 (dw pw 17 7).2.1:=jl ⋯
theorem jrn:fc 168 (d7 V.h₀ 168) (dw pw 17 0).2.2 (dw pw 17 0).2.1:=jl ⋯
theorem jrm:fc 84 (d7 V.h₀ 84) (defOf pw 9).2.2 (defOf pw 9).2.1:=jl ⋯
theorem joh:fc 130 (d7 V.h₀ 130) (defOf pw 11).2.2 (defOf pw 11).2.1:=jl ⋯
theorem jt0:fc 336 (d7 V.h₀ 336) (defOf pw 28).2.2 (defOf pw 28).2.1:=jl ⋯
theorem Tj:bW "_iter_escaped_chars" (.ref 45):=jk ⋯
theorem jk4:bW "_strip_quoted_realnames" (.ref 52):=jk ⋯
theorem Tn:bW "_check_parenthesis" (.ref 59):=jk ⋯
theorem jtB:bW "_pre_parse_validation" (.ref 66):=jk ⋯
theorem jtz:bW "in_table_b1" (.ref 84):=jk ⋯
theorem jqB:bW "map_table_b3" (.ref 130):=jk ⋯
theorem jtA:bW "_law_leaf" (.ref 283):=jk ⋯
theorem jgL:bW "_law_swapped" (.ref 288):=jk ⋯
theorem jnq:bW "_law_items" (.ref 293):=jk ⋯
theorem jsT:bW "_law_cut" (.ref 300):=jk ⋯
theorem jfF:bW "_law_readings" (.ref 307):=jk ⋯
theorem jtC:bW "_law_rows" (.ref 312):=jk ⋯
theorem jvX:bW "_law_due" (.ref 319):=jk ⋯
theorem jqA:bW "_law_count" (.ref 326):=jk ⋯
theorem jk3:bW "_law_mixed" (.ref 331):=jk ⋯
theorem jvY:bW "law" (.ref 336):=jk ⋯
theorem jvW:bW "Headers" (.ref 274):=jk ⋯
theorem jyH:bW "b1_set" (.ref 74):=jk ⋯
theorem jyI:bW "b3_exceptions" (.ref 85):=jk ⋯
theorem jyJ:bW "_name_disallowed_re" (.ref 140):=jk ⋯
theorem jyK:bW "_value_disallowed_re" (.ref 145):=jk ⋯
theorem jvZ:bW "len" (.builtin "len"):=pC ⋯ ⋯
theorem jvV:bW "chr" (.builtin "chr"):=pC ⋯ ⋯
theorem jv0:bW "ord" (.builtin "ord"):=pC ⋯ ⋯
theorem jv1:bW "sum" (.builtin "sum"):=pC ⋯ ⋯
theorem jno:bW "divmod" (.builtin "divmod"):=pC ⋯ ⋯
theorem jnr:bW "sorted" (.builtin "sorted"):=pC ⋯ ⋯
theorem jqC:bW "range" (.type "range"):=pC ⋯ ⋯
theorem Tp:bW "list" (.type "list"):=pC ⋯ ⋯
theorem jtD:bW "type" (.type "type"):=pC ⋯ ⋯
theorem jiB:bW "enumerate" (.type "enumerate"):=pC ⋯ ⋯
theorem jsU:bW "str" (.type "str"):=pC ⋯ ⋯
theorem jht:bW "ValueError" (.type "ValueError"):=pC ⋯ ⋯
noncomputable def jDe:Data->Nat
 | .seq _ n=>n|_=>0
theorem jl0(o v:Value):∃K:Option (Array Value)->Sem (List (Str×Value)),(jN V.h₀ 161).data=.seq #[.none] (jDe (jN V.h₀ 161).data)/\bindArgs (d7 V.h₀ 168) ⟨[o,v],[]⟩=seqItems? (.ref 161)>>=K/\K (some #[.none])=pure ((["self","headers"]:List Str).zip [o,v]):=cG _ ⋯ rfl ⋯
theorem jiE(o v:Value)(b:Bool):bindArgs (d7 V.h₀ 175) ⟨[o,v],[("name",.bool b)]⟩=pure ((["self","value","name"]:List Str).zip [o,v,.bool b]):=⋯
theorem jj0(o v:Value):bindArgs (d7 V.h₀ 213) ⟨[o,v],[]⟩=pure ((["self","name"]:List Str).zip [o,v]):=⋯
theorem jl1(o:Value):bindArgs (d7 V.h₀ 238) ⟨[o],[]⟩=pure ((["self"]:List Str).zip [o]):=⋯
set_option tactic.hygienic false
def G3(h:Heap)(a:Addr):ClassData:=match (jN h a).data with
 | .cls c=>c|_=>default
def G5(h:Heap)(a i:Nat):Option Value:=((jN h a).slots[i]?).getD none
theorem Tq:lg V.h₀ 140 #[14,10,4,1,1,22,0,31,16,127,0,13,7,22,0,31,16,127,0,1] where
 ob:=Fi _ 139 _ _ 0 (yR ⋯) ⋯ ⋯ (JM _ _ _ _ rfl) (yR ⋯) rfl ⋯
theorem Tt:lg V.h₀ 145 #[14,14,4,1,1,9,4294966783,0,0,2147483648,0,0,0,0,0,13,11,9,4294966783,0,0,2147483648,0,0,0,0,0,1] where
 ob:=Fi _ 144 _ _ 0 (yR ⋯) ⋯ ⋯ (JM _ _ _ _ rfl) (yR ⋯) rfl ⋯
theorem cls2:ClsAt V.h₀ 274 273 (V.h₀.nsMap 273) where
 obj:=⟨(G3 V.h₀ 274).name,(G3 V.h₀ 274).qualname,[.type "object"],(G3 V.h₀ 274).slotNames,(G3 V.h₀ 274).subclasses,(G3 V.h₀ 274).collection,(jN V.h₀ 274).dict,
  G5 V.h₀ 274 0,G5 V.h₀ 274 1,G5 V.h₀ 274 2,G5 V.h₀ 274 3,G5 V.h₀ 274 5,⋯⟩
 ns:=.of_isNs ⋯
theorem nT:lR (V.h₀.nsMap 273) where
 cls:=⟨273,cls2⟩
 ga:=⋯
 gt:=⋯
 hd:=⋯
noncomputable def gM:List Int:=[65024,65025,65026,65027,65028,65029,6150,65030,65031,65032,65033,6155,6156,6157,8203,8204,8205,65034,65035,65036,65037,65038,65039,173,847,8288,65279]
def uE(h:Heap)(a:Addr):Array (Int×Value):=match (jN h a).data with
 | .set es _ _=>es|_=>#[]
noncomputable def G6:Value->Int
 | .int i _=>i|_=>0
noncomputable def Tu:Value->Bool
 | .int _ _=>true|_=>false
def G7(e:Int×Value):Bool:=Tu e.2&&e.1==hashInt (G6 e.2)&&e.2.scannable
noncomputable def isSet(o:Obj):Bool:=match o.data with
 | .set es _ t=>decide (es.size<scanBound)&&t.fits es.size|_=>false
theorem Tv(h:Tu v=true):(Value.isInt k v=true)↔G6 v=k:=by
 cases v<;>simp only[Tu] at h<;>try (exact nf h;done)
 simp[Value.isInt,G6]
theorem jxp(h1:(h.get? a).isSome=true)(h2:isSet (jN h a)=true)(h3:(jN h a).ExactSet)(h4:((uE h a).toList.all G7)=true)(h5:(uE h a).toList.map (λe=>G6 e.2)=l):
  h.SetOf (intKind prog w) a (λi=>l.contains i) (uE h a).size:=by
 have hd:∃ep t,(jN h a).data=.set (uE h a) ep t/\(uE h a).size<scanBound/\t.fits (uE h a).size=true:=by
  unfold isSet at h2;unfold uE;cases hq:(jN h a).data<;>rw[hq] at h2<;>try (exact nf h2;done)
  simp only[eN,iw] at h2;exact jT _ _ rfl h2.1 h2.2
 refine eX hd λep t hd hb hf=>?_;have hok:∀e∈(uE h a).toList,G7 e=true:=λe he=>cU.mp h4 e he;refine⟨_,_,ep,t,yR h1,h3,hd,λe he=>?_,λk=>?_,hb,hf,rfl⟩
 ·have:=hok e he;simp only[G7,eN,bO] at this;exact⟨(aW (G6 e.2) ((Tv this.1.1).mpr rfl) this.1.2),this.2⟩
 ·subst h5;rw[List.contains_iff_mem,gY];constructor
  ·rintro⟨e,he,rfl⟩;have:=hok e he;simp only[G7,eN] at this;exact aW e he ((Tv this.1.1).mpr rfl)
  ·rintro⟨e,he,hk⟩;have:=hok e he;simp only[G7,eN] at this;exact aW e he ((Tv this.1.1).mp hk)
theorem jtE:V.h₀.SetOf (intKind pw w0) 74 (λi=>gM.contains i) (uE V.h₀ 74).size:=
 jxp ⋯ ⋯ ⟨⋯,⋯,⋯⟩ ⋯ ⋯
noncomputable def uF(l:List (Int×Str))(i:Int):Option Str:=(l.find? λx=>x.1==i).map (·.2)
def uG(es:List DictEntry)(l:List (Int×Str)):Prop:=(∀e∈es,∃k,Value.isInt k e.key=true/\e.hash=hashInt k)/\
 ∀i,match uF l i with|some s=>∃t,(es.find? λe=>Value.isInt i e.key).map (·.val)=some (.str s t)|none=>(es.find? λe=>Value.isInt i e.key).map (·.val)=none
theorem uG.nil:uG [] []:=⟨λZ h=>(nomatch h),λZ=>rfl⟩
theorem uG.cons(h:uG es l)(k:Int)(s:Str)(t u:Nat):uG (⟨hashInt k,.int k t,.str s u⟩::es) ((k,s)::l):=by
 refine⟨λe he=>?_,λi=>?_⟩
 ·rcases gO.mp he with rfl|he
  ·exact aW k (by simp[Value.isInt]) rfl
  ·exact h.1 e he
 ·by_cases hk:k=i
  ·subst hk;simp[uF,Am,Value.isInt]
  ·have h2:=h.2 i;have e1:uF ((k,s)::l) i=uF l i:=by simp[uF,Am,hk]
   have e2:List.find? (λe:DictEntry=>Value.isInt i e.key) (⟨hashInt k,.int k t,.str s u⟩::es)=es.find? λe=>Value.isInt i e.key:=by
    rw[Am];have:Value.isInt i (.int k t)=false:=by
     show(k==i)=false;simp[hk]
    simp only[this]
   rw[e1,e2];exact h2
theorem jyX:∀(l:List (Int×Str)) (t:Nat),uG (fY t l) l:=λl=>l.rec
  (λZ=>.nil)
  λ(k,s) r ih t=>(ih (t+2)).cons k s _ _
theorem jyY(h:uG es l₂):∀(l:List (Int×Str)) (t:Nat),uG (eE t l++es) (l++l₂):=λl=>l.rec
  (λZ=>h)
  λ(k,s) r ih t=>(ih (t+3)).cons k s _ _
theorem jn0(tk:Nat)(l:List (Int×Str)):uG (J8 tk l) l:=by
 have:=jyY (jyX (l.drop 646) (tk+51*38)) (l.take 646) tk;rwa[DP] at this
theorem jyL:Ln 85 (uF jy):=by
 refine kY rfl (λi=>findBy Value.isInt (J8 401 jy).toArray i) (Qy (jN V.h₀ 85) ((J8 401 jy).toArray) 650 (yR ⋯) ?_ ⋯ ?_ (λZ=>rfl)) (λi=>?_)
 ·exact⟨⋯,⋯,⋯⟩
 ·intro e he;refine aH ((jn0 401 jy).1 e (by simpa using he)) λk h1 h2=>?_;exact aW k h1 h2
 ·have:=(jn0 401 jy).2 i;simp only[findBy,List.find?_toArray];exact this
section
theorem jnU:Callee D QL (.builtin "divmod") where
 cw:=Ck _
 ok:=λA s0 s C l vs p hA hh e hx h=>by
  refine rn (jqg hx h) λi j t u eq1 h=>?_;subst eq1;refine Bh (show(if j==0 then .none else if decide (j.natAbs<1073741824) then some (.tup [.int (Int.fdiv i j),.int (Int.fmod i j)]) else .none)=some p from h) ?_;clear h;intro hj h;refine cY h ?_;clear h;intro hb h;cases h;exact divmod_int (gD.mp hj) ⟨e.trans aA.push,VX.of (.tup (vs:=[.int _ _,.int _ _]) (hh.cJ _ (aN _)) (nJ _ (iJ _ rfl) _ rfl) (.cons (.int _ _) (.cons (.int _ _) .nil)))⟩ (.inl (PyProof.noPylong_small (dB hb)))
structure Lw(I:Addr)(g lo:Nat)(L:Addr)(done rest:LV)(wr:AP)(s0 s:Shared):Prop where
 run:mK I g rest wr s
 bare:AllBare s.gens
 w:∀b,wr b->(lo<=b/\V.h₀.get? b=none)/\b<s.heap.objs.size
 base:∀b o,V.h₀.get? b=some o->s.heap.get? b=some o
 ow:∃vs c,s.heap.get? L=some {cls:=.type "list",dict:=none,data:=.seq (List.toArray vs) c,slots:=#[]}/\aV (λb=>L<b/\¬wr b) s.heap done vs
 nw:¬wr L
 ev:aC (λb=>lo<=b) (λi=>i=g) s0 s
def jsH(g lo:Nat)(L:Addr)(l:LV)(s0 s:Shared):Prop:=
 (∃vs c,s.heap.get? L=some {cls:=.type "list",dict:=none,data:=.seq (List.toArray vs) c,slots:=#[]}/\aV (λb=>L<b) s.heap l vs)/\aC (λb=>lo<=b) (λi=>i=g) s0 s
section
variable{I:Addr}{g lo:Nat}{L:Addr}{s0:Shared}{done rest:LV}{wr:AP}
theorem aR.in1(x:aR A (d+1)):aR A.in1 d:=
 ⟨x.handled,mz (oH (iH d) _) x.depth,by have:=x.units;show A.units+1+12*d+60<cLine;lia⟩
theorem Lw.put{x:PV}{v:Value}{wr':AP}{s₁:Shared}(P:Lw I g lo L done (x::rest) wr s0 s)(hI:L≠I)(hL:lo<=L)(hL0:V.h₀.get? L=none)(hv:VR (λb=>s.heap.objs.size<=b/\¬wr' b) s₁.heap x v)(e:aC wr (λi=>i=g) s s₁)(h1:∀b,wr b->wr' b)
  (h2:∀b,wr' b->wr b\/(s.heap.objs.size<=b/\b<s₁.heap.objs.size))(hr:mK I g rest wr' s₁){R:Prop}(k:∀{acc:Array Value} {c:Nat},s₁.heap.get? L=some {cls:=.type "list",dict:=none,data:=.seq acc c,slots:=#[]}->acc.size=done.length->
   Lw I g lo L (done++[x]) rest wr' s0 {s₁ with heap:=s₁.heap.update L (Obj.mapSeq (·.push v))}->R):R:=by
 refine eV P.ow λvs c hS hvs=>?_;have hLs:=hls hS;have hS1:=e.heap L _ P.nw hS;have sb:=w5 s₁.heap L (Obj.mapSeq (·.push v));have nw':¬wr' L:=λw=>(h2 L w).elim P.nw λq=>absurd hLs (bw q.1);have nb:∀b,s.heap.objs.size<=b->V.h₀.get? b=none:=λb hb=>by
  cases hq:V.h₀.get? b with|none=>rfl|some o=>exact absurd (hls (P.base b o hq)) (bw hb)
 refine k hS1 (by rw[my,←hvs.length]) ⟨hr.keep ⟨λb o w h=>(sb.2 b (λq=>w.elim (λw=>nw' (q▸w)) λw=>hI (q.symm.trans w))).trans h,fH sb.1.symm,λZ h=>h,aN _⟩,e.bare P.bare,λb w=>?_,λb o h=>?_,?_,nw',?_⟩
 ·rw[sb.1];exact(h2 b w).elim (λw=>⟨(P.w b w).1,bJ (P.w b w).2 e.size⟩) λq=>⟨⟨aF hL (aF (fL hLs) q.1),nb b q.1⟩,q.2⟩
 ·exact(sb.2 b λq=>by rw[q,hL0] at h;exact nn h).trans (e.heap b o (λw=>by rw[(P.w b w).1.2] at h;exact nn h) (P.base b o h))
 ·obtain⟨c2,hc2⟩:∃c2,(s₁.heap.update L (Obj.mapSeq (·.push v))).get? L=some {cls:=.type "list",dict:=none,data:=.seq (List.toArray (vs++[v])) c2,slots:=#[]}:=⟨_,by rw[←List.push_toArray];exact Er (Obj.mapSeq (·.push v)) hS1 rfl⟩;refine fP (vs++[v]) c2 hc2 (aV.append (hvs.mono λb o c g=>⟨⟨c.1,λw=>(h2 b w).elim c.2 λq=>absurd (hls g) (bw q.1)⟩,(sb.2 b (z9 c.1)).trans (e.heap b o c.2 g)⟩) (.cons (hv.mono λb o c g=>?_) .nil));have hne:b≠L:=λq=>absurd hLs (bw (q▸c.1));exact⟨⟨bJ hLs c.1,c.2⟩,(sb.2 b hne).trans g⟩
 ·have e1:aC (λb=>lo<=b) (λi=>i=g) s0 s₁:=P.ev.trans (aC.mono e (λb Z w=>(P.w b w).1.1) λZ Z g=>g);exact e1.trans ⟨λb o n h=>(sb.2 b (λq=>n (q▸hL))).trans h,fH sb.1.symm,λZ Z Z h=>h,aN _,id,rfl⟩
theorem jpf{res:Value}{R:Result->Shared->Prop}(hA:aR A 5)(hI:L≠I)(hL:lo<=L)(hL0:V.h₀.get? L=none):∀(rest done:LV) (wr:AP) (s:Shared),Lw I g lo L done rest wr s0 s->aL (done.length+rest.length)=true->
  (∀s',jsH g lo L (done++rest) s0 s'->R (.ok (.ret res)) s')->codeAny (model V.prog V.w) A (.builtin "list.extend.loop" ⟨[.ref L,.ref I,res],[]⟩) R s:=λrest=>rest.rec
  (λdone wr s P hz hR=>by
  refine codeAny_builtin F.entry_extend_loop ?_;rw[Around.under_plainId Jf _];show wpAny _ A.in1 (pyNext (.ref I)>>=_) _ _ s;refine tbn (tmo (P.run A.in1 s hA.in1 ⟨P.base,P.bare⟩ lN.refl) (λr s' q=>?_) λZ Z f=>f.elim);refine gJ r q λe=>?_;refine eV P.ow λvs c hS hvs=>?_;rw[fV] at hR;exact bc (hR s' ⟨(fP vs c (e.heap L _ P.nw hS) (hvs.mono λb o c g=>⟨c.1,e.heap b o c.2 g⟩)),P.ev.trans (aC.mono e (λb Z w=>(P.w b w).1.1) λZ Z g=>g)⟩))
  λx rest ih done wr s P hz hR=>by
  refine codeAny_builtin F.entry_extend_loop ?_;rw[Around.under_plainId Jf _];show wpAny _ A.in1 (pyNext (.ref I)>>=_) _ _ s;refine tbn (tmo (P.run A.in1 s hA.in1 ⟨P.base,P.bare⟩ lN.refl) (λr s₁ q=>?_) λZ Z f=>f.elim);refine Bb q λv wr' eq1 hv e h1 h2 hr=>?_;subst eq1;refine P.put hI hL hL0 hv e h1 h2 hr λ{acc c} hS hsz P'=>?_;show wpAny _ A.in1 (updateSeq L (·.push v)>>=_) _ _ _;have hz':done.length+(rest.length+1)<=1000000:=dB hz;refine tbn (Ja hS rfl (bc ⟨plainId_quiet Jf _,ih (done++[x]) wr' _ P' (by rw[bz,rW,ud [x].length];exact hz) λs' P''=>hR s' (by rw[dm] at P'';exact P'')⟩)
   (by rw[hsz,qU];lia) (by show(acc.push v).size<=sizeLine+1;rw[Ar,hsz,qU];lia))
end
theorem jrP{I:Addr}{g lo:Nat}{wr:AP}{l:LV}{Q:Value->Shared->Prop}(hA:aR A 8)(hG:∃o nm qn,s.heap.get? I=some o/\o.cls=.type "generator"/\o.data=.fields #[.int (g:Nat) 0,nm,qn]/\o.slots=#[])(hlo:lo<=s.heap.objs.size)(hw:∀b,wr b->(lo<=b/\V.h₀.get? b=none)/\b<s.heap.objs.size)
  (hbare:AllBare s.gens)(hr:mK I g l wr s)(hb:∀b o,V.h₀.get? b=some o->s.heap.get? b=some o)(hz:aL l.length=true)(hQ:∀s',jsH g lo s.heap.objs.size l s s'->Q (.ref s.heap.objs.size) s'):Wp A (call (.type "list") [.ref I] []) Q s:=by
 refine qt hG λo nm qn ho hc hd hsl=>?_;have hIs:=hls ho;have hI:s.heap.objs.size≠I:=λq=>pQ _ (q▸hIs);have hS:(s.heap.push {cls:=.type "list",data:=.seq #[]}).get? s.heap.objs.size=some {cls:=.type "list",data:=.seq #[]}:=iJ _ rfl;refine callType_codes (Q₁:=λobj s₁=>obj=.ref s.heap.objs.size/\s₁={s with heap:=s.heap.push {cls:=.type "list",data:=.seq #[]}}) F.called_list (F.typeCall_list_1 _) F.entry_list_init
  (code_list_new _ ⟨rfl,rfl⟩) λobj s₁ h₁=>?_
 refine vI obj s₁ h₁ ?_;refine⟨(aW _ hS rfl),F.args_list_init_2 _ _,?_⟩;have hL0:V.h₀.get? s.heap.objs.size=none:=by
  cases hq:V.h₀.get? s.heap.objs.size with|none=>rfl|some o=>exact absurd (hls (hb _ o hq)) (pQ _)
 generalize hL:s.heap.objs.size=L at*;have N8:∀{h':Heap},Heap.SameBut L (s.heap.push {cls:=.type "list",data:=.seq #[]}) h'->h'.get? I=some o:=λsb=>(sb.2 I (sr hI)).trans (fO _ ho);have hsz:(s.heap.push {cls:=.type "list",data:=.seq #[]}).objs.size=L+1:=by rw[fK,hL]
 have key:∀(h4:Heap) (c:Nat),h4.get? L=some {cls:=.type "list",dict:=none,data:=.seq (List.toArray []) c,slots:=#[]}->Heap.SameBut L (s.heap.push {cls:=.type "list",data:=.seq #[]}) h4->
   codeAny (model V.prog V.w) A.in1 (.builtin "list.extend.loop" ⟨[.ref L,.ref I,.none],[]⟩) (wants (λr s₂=>r=.none/\Q (.ref L) s₂) iW) {s with heap:=h4}:=λh4 c h5 sb=>by
  have old:∀b o,s.heap.get? b=some o->h4.get? b=some o:=λb o h=>(sb.2 b (iI (hL▸hls h))).trans (fO _ h);have hs:L+1=h4.objs.size:=by rw[sb.1,hsz]
  exact jpf (s0:=s) (lo:=lo) (g:=g) (hA.in1.mono ∅) hI hlo hL0 l [] wr {s with heap:=h4} ⟨hr.keep ⟨λb o Z h=>old b o h,hL▸hs▸iH _,λZ h=>h,aN _⟩,hbare,λb w=>⟨(hw b w).1,bJ (hw b w).2 (hs▸iH _)⟩,λb o h=>old b o (hb b o h),fP ([]) c h5 .nil,λw=>pQ _ (hw L w).2,
   ⟨λb o Z h=>old b o h,hL▸hs▸iH _,λZ Z Z h=>h,aN _,id,rfl⟩⟩ (by rw[jJ,mC];exact hz) λs' P=>⟨rfl,hQ s' P⟩
 show wpAny _ A.in1.in1 (do let old ←Builtin.List.listItems (.ref L);Builtin.List.listUpdate (.ref L) (λZ=>#[]);letGo old.toList.reverse;Builtin.List.listExtendWith (.ref L) (.ref I) .none) _ _ _;refine tbn ?_;unfold Builtin.List.listItems;refine tbn (wpAny_seqItems hS rfl (bc ?_));show wpAny _ A.in1.in1 (updateSeq L (λZ=>#[])>>=λZ=>letGo (#[]:Array Value).toList.reverse>>=λZ=>Builtin.List.listExtendWith (.ref L) (.ref I) .none) _ _ _;refine tbn (Ja hS rfl ?_);have hS2:=Er (Obj.mapSeq (λZ=>(#[]:Array Value))) hS rfl;have H8:=w5 (s.heap.push {cls:=.type "list",data:=.seq #[]}) L (Obj.mapSeq (λZ=>(#[]:Array Value)));refine tbn (wpAny_letGo ?_);unfold Builtin.List.listExtendWith;have hT:∀{s':Shared},s'.heap.get? I=some o->s'.TypeIs (.ref I) "generator":=λh=>aW o h hc;refine tbn (wpAny_typeOf (hT (N8 H8)) ?_);have h1:Builtin.List.listSameRef (.ref L) (.ref I)=false:=by simp[Builtin.List.listSameRef,hI]
 have h2:(Value.type "generator"==Value.type "list")=false:=by decide
 have h3:(Value.type "generator"==Value.type "tuple")=false:=by decide
 simp only[h1,h2,h3,Jb,kj,jH];refine tbn (wpAny_pyIter_gen (g:=g) (Be o nm qn (N8 H8) hc hd hsl) ?_);refine tbn (dJ ?_);unfold Builtin.List.listLengthHint;refine tbn (Eo (hT (N8 H8)) F.gen_no_len ?_);show wpAny _ A.in1.in1 (specialOf (Value.ref I) (Str.ofString "__length_hint__")>>=_) _ _ _;refine tbn (Eo (hT (N8 H8)) F.gen_no_hint ?_);refine bc ?_;show wpAny _ A.in1.in1 (rule "list.extend.makes-room">>=λZ=>Builtin.List.listTouch (.ref L)>>=λZ=>again (.builtin "list.extend.loop" ⟨[.ref L,.ref I,.none],[]⟩)) _ _ _;refine tbn (En ?_);refine tbn ?_;show wpAny _ A.in1.in1 (updateSeq L (·.push .none)>>=λZ=>updateSeq L (·.pop)) _ _ _;refine tbn (Ja hS2 rfl ?_);have hS3:=Er (Obj.mapSeq (·.push Value.none)) hS2 rfl;have sb3:=H8.trans (w5 _ L (Obj.mapSeq (·.push Value.none)));refine Ja (hz:=by seq_fits) hS3 rfl ?_;have hS4:=Er (Obj.mapSeq (·.pop)) hS3 rfl;have sb4:=sb3.trans (w5 _ L (Obj.mapSeq (·.pop)));refine bc ⟨plainId_quiet Jf _,key _ _ hS4 sb4⟩
def Tz(l:LV):OV:=(dF l).bind λp=>match p with
 | .gen l=>gj l|p=>J0 [p]
theorem jrO{D:Nat}(hD:8<=D):Callee D Tz (.type "list") where
 cw:=Lh _
 ok:=λA s0 s C l vs p hA hh e hx h=>by
  refine aM h ?_;clear h;intro q hq h;by_cases hg:∃m,q=.gen m
  ·refine kE hg λm bB=>?_;subst bB;refine kA (uD (show gj m=some p from h)) λeq1 hl=>?_;subst eq1;rw[gQ hq] at hx;refine oW vs hx.one λv x=>?_;refine vH (show BP s0.heap.objs.size s0.gens.size s m v from x) λI g wr eq1 hI hG hw hg1 hg2 hr=>?_;subst eq1;refine jrP (lo:=s0.heap.objs.size) (hA.mono hD) hG e.size (λb w=>⟨⟨(hw b w).1,hI.2.2 b w⟩,(hw b w).2⟩) hh.bare hr hh.base hl λs' P=>?_;refine kA P λbC ev=>?_;obtain⟨us,c,hL,hus⟩:=bC;refine⟨⟨λb o Z hb=>ev.heap b o (Im.mpr (hls hb)) (e.heap hb),aF e.size ev.size,λi x Z hx=>ev.gens i x (λq=>?_) (aC.gens e i x (λq=>q) hx),aF e.cV ev.cV,λh=>ev.bare (aC.bare e h),ev.os.trans e.os⟩,VX.of (.lst (hh.cJ _ (aN _)) (nJ _ hL _ rfl) (hus.mono λb o c g=>⟨hh.cJ b (fL c),g⟩))⟩;exact absurd (Jt.mp hx).1 (bw (q▸hg1))
  ·have h:J0 [q]=some p:=by
    cases q<;>first|exact h|exact absurd ⟨_,rfl⟩ hg
   exact joQ.ok A s0 s C l vs p hA hh e hx (by rw[gQ hq];exact h)
end
noncomputable def rF{α:Type}(lt:Nat->Nat->Bool):KasT α->α
 | .ret a=>a| .ask i j k=>rF lt (k (lt i j))
def bY{α:Type}(n:Nat)(R:α->Prop):KasT α->Prop
 | .ret a=>R a| .ask i j k=>i<n/\j<n/\∀b,bY n R (k b)
theorem bY.bind{α β:Type}{n:Nat}{R:α->Prop}{R':β->Prop}{f:α->KasT β}(hf:∀a,R a->bY n R' (f a)):∀{t:KasT α},bY n R t->bY n R' (t.bind f)
 | .ret a,h=>hf a h| .ask _ _ _,h=>⟨h.1,h.2.1,λb=>bY.bind hf (h.2.2 b)⟩
theorem bY.ite[Decidable c](h1:bY n R x)(h2:bY n R y):bY n R (if c then x else y):=by split<;>assumption
theorem bY.rt(h:R a):bY n R (.ret a):=h
theorem bY.ak(h1:i<n)(h2:j<n)(h3:∀b,bY n R (k b)):bY n R (.ask i j k):=⟨h1,h2,h3⟩
theorem bY.val(lt:Nat->Nat->Bool):∀(t:KasT α),bY n R t->R (rF lt t)
 | .ret _,h=>h| .ask i j k,h=>bY.val lt (k (lt i j)) (h.2.2 (lt i j))
theorem bY.run{α:Type}{n:Nat}{R:α->Prop}{cmp:Nat->Nat->(Bool->Shared->Prop)->Shared->Prop}{lt:Nat->Nat->Bool}{s:Shared}{Q:α->Shared->Prop}(hc:∀i j (C:Bool->Shared->Prop),i<n->j<n->C (lt i j) s->cmp i j C s):∀{t:KasT α},bY n R t->Q (rF lt t) s->t.kasWp cmp Q s
 | .ret _,_,q=>q| .ask i j _,h,q=>hc i j _ h.1 h.2.1 (bY.run hc (h.2.2 (lt i j)) q)
def Pl(n:Nat)(p:Array Nat):Prop:=p.size=n/\∀x∈p,x<n
section
theorem Pl.at(h:Pl n p)(hn:0<n)(i:Nat):p.getD i 0<n:=by
 by_cases hi:i<p.size
 ·rw[PK,V7 hi];exact h.2 _ (Array.getElem_mem hi)
 ·rw[PK,Array.getElem?_eq_none (Ot hi)];exact hn
theorem Pl.rev(h:Pl n p)(i j:Nat):Pl n (kas_rev p i j):=⟨(mirror_size ..).trans h.1,λx hx=>h.2 x ((mirror_perm ..).mem_iff.mp hx)⟩
theorem Pl.bub(h:Pl n p)(i j:Nat):Pl n (bubble p i j):=⟨(bubble_size ..).trans h.1,λx hx=>h.2 x ((bubble_perm ..).mem_iff.mp hx)⟩
theorem Pl.range(n:Nat):Pl n (List.toArray (List.range n)):=⟨by simp,λx hx=>by simpa using hx⟩
theorem jlP(h:Pl n p)(hn:0<n):∀f k,bY n (λZ=>True) (kas_asc p f k):=λf=>f.recAux
  (λZ=>lz)
  λf ih k=>bY.ak (h.at hn _) (h.at hn _) λZ=>bY.ite (bY.rt lz) (ih (k+1))
theorem Lx(hn:0<n):∀(f:Nat) {p:Array Nat},Pl n p->∀k q,bY n (λr=>Pl n r.1) (kas_desc f p k q)
 |0,_,h,_,_=>h|f+1,_,h,_,_=>bY.ak (h.at hn _) (h.at hn _) λZ=>bY.ite (bY.ite (Lx hn f (h.rev ..) _ _) (Lx hn f h _ _)) (bY.ak (h.at hn _) (h.at hn _) λZ=>bY.ite (bY.rt h) (Lx hn f h _ _))
theorem jhe(hn:0<n)(h:Pl n p)(k m:Nat):bY n (λr:Nat×Array Nat=>Pl n r.2) (kas_tail3 k m p):=by
 unfold kas_tail3;exact bY.bind (R:=λZ=>True) (R':=λr:Nat×Array Nat=>Pl n r.2) (λa Z=>bY.rt (R:=λr:Nat×Array Nat=>Pl n r.2) (a:=(a,kas_rev p 0 k)) (h.rev ..)) (jlP (h.rev ..) hn _ _)
theorem jjr(hn:0<n)(h:Pl n p)(k m:Nat):bY n (λr:Nat×Array Nat=>Pl n r.2) (kas_descPart k m p):=by
 unfold kas_descPart;exact bY.bind (R:=λr:Array Nat×Nat×Nat=>Pl n r.1) (R':=λr:Nat×Array Nat=>Pl n r.2) (λr hr=>bY.ite (jhe hn (hr.rev ..) _ _) (jhe hn hr _ _)) (Lx hn _ h _ _)
theorem jmO(hn:0<n)(h:Pl n p)(m:Nat):bY n (λr:Nat×Array Nat=>Pl n r.2) (kas_count m p):=by
 unfold kas_count;exact bY.bind (R:=λZ=>True) (R':=λr:Nat×Array Nat=>Pl n r.2) (λk Z=>bY.ite (bY.rt (R:=λr:Nat×Array Nat=>Pl n r.2) (a:=(k,p)) h) (bY.ite (bY.ak (h.at hn _) (h.at hn _) λZ=>bY.ite (bY.rt (R:=λr:Nat×Array Nat=>Pl n r.2) (a:=(k,p)) h) (jjr hn (h.rev ..) _ _)) (jjr hn h _ _))) (jlP h hn _ _)
theorem jmP(hn:0<n)(h:Pl n p)(k:Nat):∀f l r,bY n (λZ=>True) (kas_place p k f l r):=λf=>f.recAux
  (λZ Z=>lz)
  λf ih Z Z=>bY.ite (bY.rt lz) (bY.ak (h.at hn _) (h.at hn _) λZ=>bY.ite (ih _ _) (ih _ _))
theorem jlQ(hn:0<n):∀(f:Nat) {p:Array Nat},Pl n p->∀k,bY n (λr=>Pl n r) (kas_bin f p k)
 |0,_,h,_=>h|f+1,_,h,_=>bY.bind (R:=λZ=>True) (λZ Z=>jlQ hn f (h.bub ..) _) (jmP hn h _ _ _ _)
theorem TF(hn:0<n):bY n (λr=>Pl n r) (kas_sort n):=by
 unfold kas_sort;exact bY.bind (R:=λr:Nat×Array Nat=>Pl n r.2) (λr hr=>bY.ite (jlQ hn _ hr _) (bY.rt hr)) (jmO hn (Pl.range n) n)
end
abbrev TK:=List Nat×List Nat
def Cr(p:PV):Option TK:=p.sO.bind λl=>(kI l).bind λq=>q.1.bV.bind λa=>q.2.bV.map λb=>(a,b)
theorem jsb(h:Cr p=some k):p=.tup [.str k.1,.str k.2]:=by
 refine aM h ?_;clear h;intro l hl h;refine aM h ?_;clear h;intro q hq h;refine aM h ?_;clear h;intro a ha h;refine mH h ?_;clear h;intro b hb h;rw[PV.Ae hl,qx hq,PV.fJ ha,PV.fJ hb,←h]
noncomputable def rG(x y:TK):Bool:=if x.1=y.1 then(if x.2=y.2 then false else decide (x.2<y.2)) else decide (x.1<y.1)
noncomputable def iY(ks:List TK)(i:Nat):TK:=ks.getD i ([],[])
def G8(l:LV)(ks:List TK):LV:=(rF (λi j=>rG (iY ks i) (iY ks j)) (kas_sort l.length)).toList.map λi=>l.getD i .none
def Ly(l:LV):OV:=(dF l).bind λp=>p.items?.bind λl=>(cF Cr l).bind λks=>if decide (2<=l.length)&&decide (l.length<64) then some (.lst (G8 l ks)) else .none
def yS(h:Heap)(k:TK)(v:Value):Prop:=∃a t u,v=.ref a/\iV h a #[.str ⟨k.1.toArray⟩ t,.str ⟨k.2.toArray⟩ u]
section
theorem jzS(hk:Cr p=some k)(x:VR C h p v):yS h k v:=by
 rw[jsb hk] at x;obtain⟨a,vs,rfl,ho,hvs⟩:∃a vs,v=.ref a/\iV h a (List.toArray vs)/\aV C h [.str k.1,.str k.2] vs:=by cases x;exact jT _ _ rfl (‹_›) (‹_›)
 obtain⟨v1,vs,rfl,h1,hvs⟩:=hvs.gh;obtain⟨v2,vs,rfl,h2,hvs⟩:=hvs.gh;cases hvs.jg;refine kE ((VX.of (lo:=0) (aY:=0) (s:=⟨h,#[],{},0,default⟩) h1).iv) λt bB=>?_;subst bB;refine kE ((VX.of (lo:=0) (aY:=0) (s:=⟨h,#[],{},0,default⟩) h2).iv) λu bB=>?_;subst bB;exact jU a t u rfl ho
theorem jti{h:Heap}:∀{l:LV} {ks:List TK} {vs:List Value},cF Cr l=some ks->aV C h l vs->∀i,i<l.length->yS h (iY ks i) (vs.getD i .none)
 |[],_,_,_,_,i,hi=>absurd hi (Nat.not_lt_zero _)
 |p::l,ks,vs,hk,x,i,hi=>by
  refine aM hk ?_;clear hk;intro k hk1 hk;refine aM hk ?_;clear hk;intro ks' hks hk;cases hk;refine cP vs x.gh λv us h1 hus=>?_;cases i with|zero=>exact jzS hk1 h1|succ i=>exact jti hks hus i (Nat.lt_of_succ_lt_succ hi)
theorem jzR(hu:yS s.heap x u)(hv:yS s.heap y v)(h:Q (rG x y) s):wpAny (model V.prog V.w) A (keyLt' (tuples' true) u v) Q E s:=by
 refine jK hu λa t t' eq1 zz=>ju zz λo ho n eq2=>?_;subst eq1;subst eq2;refine jK hv λb w w' eq1 zz=>ju zz λo' ho' n' eq2=>?_;subst eq1;subst eq2;have e1:decide ((⟨x.1.toArray⟩:Str)=⟨y.1.toArray⟩)=decide (x.1=y.1):=by rw[decide_eq_decide];simp
 have e2:decide ((⟨x.2.toArray⟩:Str)=⟨y.2.toArray⟩)=decide (x.2=y.2):=by rw[decide_eq_decide];simp
 unfold rG at h;refine kat_lt ho rfl ho' rfl (kat_cons (wpAny_eqBool_str ?_));rw[e1];by_cases h1:x.1=y.1
 ·rw[aX h1] at h;rw[b8 h1];refine kat_yes (kat_cons (wpAny_eqBool_str ?_));rw[e2];by_cases h2:x.2=y.2
  ·rw[aX h2] at h;rw[b8 h2];exact kat_yes (kat_nil h)
  ·rw[aZ h2] at h;rw[wV h2];exact kat_no (kat_one _ _ (PyProof.Rows.lt_str (show Q (decide ((⟨x.2.toArray⟩:Str).cps.toList<(⟨y.2.toArray⟩:Str).cps.toList)) s by simpa using h)))
 ·rw[aZ h1] at h;rw[wV h1];exact kat_no (by
   rw[show(true&&(0:Nat)==0)=true from rfl,←keyLt'_oneType];exact kas_lt_str (by simpa using h))
theorem jqd{h:Heap}:∀{ks:List TK} {vs:List Value},vs.length=ks.length->(∀i,i<ks.length->yS h (iY ks i) (vs.getD i .none))->∃fs,KatTups h vs fs/\fs.length=ks.length/\∀v∈fs,∃x t,v=.str x t
 |[],[],_,_=>cG ([]) .nil rfl (λZ h=>absurd h wO)|[],_::_,hl,_=>absurd hl (Nat.succ_ne_zero _)|_::_,[],hl,_=>absurd hl.symm (Nat.succ_ne_zero _)
 |k::ks,v::vs,hl,hx=>by
  refine jK (hx 0 (Nat.zero_lt_succ _)) λa t u e zz=>ju zz λo ho n bB=>?_;subst bB;refine eO (jqd (wU hl) λi hi=>hx (i+1) (Nat.succ_lt_succ hi)) λfs h1 h2 h3=>?_;have e:v=.ref a:=e;rw[e];exact cG (_::fs) (.cons ho rfl rfl rfl h1) (aU (·+1) h2) (λw hw=>(gO.mp hw).elim (λq=>kW _ _ q) (h3 w))
theorem joV(x:Str)(t:Tok):Looks M h (typeOf (.str x t)) (.type "str"):=λA Q E s Z q=>bc q
theorem juI{a:Addr}{n:Nat}{vs:List Value}{ks:List TK}{P:PySem.Fin->Shared->Prop}(ho:s.heap.get? a=some (seqObj "list" vs.toArray n))(hl:vs.length=ks.length)(h2:2<=vs.length)(h64:vs.length<64)
  (hx:∀i,i<ks.length->∃b,vs.getD i .none=.ref b/\b≠a/\yS s.heap (iY ks i) (.ref b))
  (hP:∀h' c,(∀b o,b≠a->s.heap.get? b=some o->h'.get? b=some o)->h'.get? a=some (seqObj "list" (List.toArray ((rF (λi j=>rG (iY ks i) (iY ks j)) (kas_sort vs.length)).toList.map λi=>vs.getD i .none)) c)->P (.done (.ret .none)) {s with heap:=h'}):
  wpAny (model V.prog V.w) A (Builtin.«list.sort» ⟨[.ref a],[]⟩) P E s:=by
 have s1:=w5 s.heap a (Obj.mapSeq λZ=>(#[]:Array Value));obtain⟨e1,ho1⟩:∃e1,(s.heap.update a (Obj.mapSeq λZ=>(#[]:Array Value))).get? a=some (seqObj "list" #[] e1):=⟨_,get?_update_seq ho λZ=>#[]⟩;have k3:∀b o,b≠a->s.heap.get? b=some o->(((s.heap.update a (Obj.mapSeq λZ=>(#[]:Array Value))).push (seqObj "tuple" vs.toArray 0)).push (seqObj "list" #[] 0)).get? b=some o:=λb o hb h=>fO _ (fO _ ((s1.2 b hb).trans h));have a3:=fO (seqObj "list" #[] 0) (fO (seqObj "tuple" vs.toArray 0) ho1);rw[list_sort_plain];refine tbn (listItems_at ho rfl ?_);refine tbn (listUpdate_at ho rfl ?_ (by rw[my,qU];lia) (jq _));refine tbn (seqEpoch_at ho1 rfl ?_);refine tbn (wpAny_newTuple ?_ (by show vs.length<=_;rw[qU];omega));refine tbn (wpAny_newList ?_ (jq _));refine dJ ?_;show wpAny (model V.prog V.w) A _ P E {s with heap:=((s.heap.update a (Obj.mapSeq λZ=>(#[]:Array Value))).push (seqObj "tuple" vs.toArray 0)).push (seqObj "list" #[] 0)};generalize ((s.heap.update a (Obj.mapSeq λZ=>(#[]:Array Value))).push (seqObj "tuple" vs.toArray 0)).push (seqObj "list" #[] 0)=h3 at*;have VD:∀i,i<ks.length->yS h3 (iY ks i) (vs.getD i .none):=λi hi=>by
  refine Ql (hx i hi) λb e hb a' zz=>Qm zz λt u e' o ho' r=>?_;cases e';rw[e];exact⟨b,t,u,rfl,o,k3 b o hb ho',r⟩
 dsimp only;have hn2:¬vs.toArray.size<2:=by rw[my];lia
 rw[aZ hn2,aZ hn2];refine eO (jqd hl VD) λfs t1 t2 t3=>?_;refine tbn (kat_kind (T:=.type "str") (s:={s with heap:=h3}) t1 (by lia) (λv hv=>?_) rfl ?_)
 ·refine Bc v (t3 v hv) λx t=>?_;exact joV x t
 rw[show(Value.type "str" !=Value.type "tuple")=true from by decide];have run:=bY.run (Q:=λp s'=>s'=({s with heap:=h3}:Shared)/\p=rF (λi j=>rG (iY ks i) (iY ks j)) (kas_sort vs.length)) (cmp:=kas_ask V.prog V.w A (tuples' true) vs) (s:={s with heap:=h3}) (λi j C hi hj hC=>jzR (VD i (hl▸hi)) (VD j (hl▸hj)) hC) (TF (n:=vs.length) (by lia)) ⟨rfl,rfl⟩;refine tbn (tmo (kat_run (Q:=λst' s'=>s'=({s with heap:=h3}:Shared)/\∃p:Array Nat,p.size=vs.length/\arrOf st'=p.map (kas_item (vs.toArray.zip vs.toArray))/\failedOf st'=none/\p=rF (λi j=>rG (iY ks i) (iY ks j)) (kas_sort vs.length))
  rfl h2 h64 (λp' st' s' a1 a2 a3 a4=>⟨a4.1,p',a1,a2,a3,a4.2⟩) run) ?_ λZ Z e=>e)
 rintro⟨⟨⟩,st'⟩ s' ⟨rfl,p,hp,har,hf,rfl⟩;dsimp only;have hout:=kat_snds rfl har;have hsz:(List.toArray ((rF (λi j=>rG (iY ks i) (iY ks j)) (kas_sort vs.length)).toList.map λi=>vs.getD i Value.none)).size=vs.length:=by rw[my,bH,Array.length_toList,hp]
 rw[hout];have s2:=w5 h3 a (Obj.mapSeq λZ=>List.toArray ((rF (λi j=>rG (iY ks i) (iY ks j)) (kas_sort vs.length)).toList.map λi=>vs.getD i Value.none));obtain⟨c2,hc2⟩:∃c2,(h3.update a (Obj.mapSeq λZ=>List.toArray ((rF (λi j=>rG (iY ks i) (iY ks j)) (kas_sort vs.length)).toList.map λi=>vs.getD i Value.none))).get? a=some (seqObj "list" (List.toArray ((rF (λi j=>rG (iY ks i) (iY ks j)) (kas_sort vs.length)).toList.map λi=>vs.getD i Value.none)) c2):=⟨_,get?_update_seq a3 λZ=>_⟩;refine tbn (seqEpoch_at a3 rfl ?_);refine tbn (listUpdate_at a3 rfl ?_ (jq _) (aF (fH hsz) (by rw[qU];lia)));rw[hf];simp only[bne_self_eq_false,kj,jH];exact bc (hP _ c2 (λb o hb h=>(s2.2 b hb).trans (k3 b o hb h)) hc2)
theorem aV.pick(x:aV C h l vs):∀(is:List Nat),(∀i∈is,i<l.length)->aV C h (is.map λi=>l.getD i .none) (is.map λi=>vs.getD i .none):=λis=>is.rec
  (λZ=>.nil)
  λi is ih hi=>by
  obtain⟨u,hu,hr⟩:=x.get (iy (hi i (.head _)));refine .cons ?_ (ih λj hj=>hi j (.tail _ hj));show VR C h (l.getD i .none) (vs.getD i .none);rw[g8,iy (hi i (.head _)),g8,hu];exact hr
theorem TG{α β:Type}{f:α->Option β}:∀{l:List α} {r:List β},cF f l=some r->r.length=l.length
 |[],_,h=>by cases h;rfl
 |x::l,r,h=>by
  refine aM h ?_;clear h;intro y _ h;refine aM h ?_;clear h;intro ys hys h;cases h;exact aU (·+1) (TG hys)
theorem jpL{D:Nat}:Callee D Ly (.builtin "sorted") where
 cw:=Ck _
 ok:=λA s0 s C args us p hA hh e hx h=>by
  refine cP us (v7 hx h) λq v x h=>?_;refine aM h ?_;clear h;intro l hl h;refine aM h ?_;clear h;intro ks hks h;refine cY h ?_;clear h;intro hc h;cases h;refine kA (bD hc) λh2 h64=>?_;have h2:=dB h2;have h64:=dB h64;refine cP v (x.q9 (PV.Ep hl)) λL vs ho hvs=>?_;have hlen:vs.length=ks.length:=by rw[TG hks,hvs.length]
  rw[hvs.length] at h2 h64;refine Calls.call_function_entry kind_sorted plain_sorted entry_sorted (args_sorted1 _) ?_;unfold Builtin.«sorted»;refine tbn (m:=checkCount "sorted" 1 1 _) (bc ?_);refine tbn (collect_list ho.isList ?_ (by rw[qU];lia));refine tbn (wpAny_newList ?_ (by rw[qU];omega));have hsz:((s.heap.push (seqObj "list" #[] 0)).update s.heap.objs.size (Obj.mapSeq (·++vs.toArray))).objs.size=s.heap.objs.size+1:=by
   rw[Heap.size_update,size_push']
  have hoL:(((s.heap.push (seqObj "list" #[] 0)).update s.heap.objs.size (Obj.mapSeq (·++vs.toArray))).push (seqObj "list" vs.toArray 0)).get? (s.heap.objs.size+1)=some (seqObj "list" vs.toArray 0):=by
   rw[←hsz];exact iJ _ rfl
  have keep:∀b o,s.heap.get? b=some o->(((s.heap.push (seqObj "list" #[] 0)).update s.heap.objs.size (Obj.mapSeq (·++vs.toArray))).push (seqObj "list" vs.toArray 0)).get? b=some o:=λb o q=>by
   have hlt:b<s.heap.objs.size:=hls q;rw[Heap.get?_push_ne _ _ _ (by rw[hsz];exact iI (rZ hlt)),Heap.get?_update_ne _ _ _ _ (iI hlt),Heap.get?_push_ne _ _ _ (iI hlt)];exact q
  show wpAny _ _ _ _ _ {s with heap:=((s.heap.push (seqObj "list" #[] 0)).update s.heap.objs.size (Obj.mapSeq (·++vs.toArray))).push (seqObj "list" vs.toArray 0)};rw[hsz];generalize ((s.heap.push (seqObj "list" #[] 0)).update s.heap.objs.size (Obj.mapSeq (·++vs.toArray))).push (seqObj "list" vs.toArray 0)=h1 at*;refine tbn (dJ (wpAny_call_entry slot_list_sort (aW _ hoL rfl) entry_list_sort ?body (args_list_sort _)))
  case body=>
   refine juI (s:={s with heap:=h1}) (ks:=ks) hoL hlen h2 h64 (λi hi=>?_) λh' c hk hS=>?_
   ·refine jK (jti hks hvs i (by rw[←TG hks];exact hi)) λb t u hb zz=>aH zz λo hob r=>?_;exact⟨b,hb,iI (rZ (hls hob)),b,t,u,rfl,o,keep b o hob,r⟩
   ·have up:∀b o,s.heap.get? b=some o->h'.get? b=some o:=λb o h=>hk b o (iI (rZ (hls h))) (keep b o h);refine aW _ rfl (bc (cG _ rfl (e.trans (aA.of up (fL (Ou (hls hS))))) (VX.of (.lst (hh.cJ _ (iH _)) (nJ _ hS _ rfl) ?_))));unfold G8;rw[hvs.length];refine aV.pick (hvs.mono λb o c g=>⟨c,up b o g⟩) _ λi hi=>?_;rw[hvs.length];exact(bY.val _ _ (TF (n:=vs.length) (by lia))).2 i (Array.mem_toList_iff.mp hi)
end
noncomputable def G9:Value->PV
 | .str s _=>.str s.cps.toList|_=>.none
def TJ(h:Heap):Value->PV
 | .str s _=>.str s.cps.toList
 | .ref a=>match h.get? a with
  |some o=>(match o.data with
   | .seq vs _=>.tup (vs.toList.map G9)
   |_=>.none)
  |none=>.none
 |_=>.none
def tV(p:PV):Bool:=p.bV.isSome||p.sO.any λl=>l.all λx=>x.bV.isSome
def countM(a:PV)(args:LV):OV:=a.items?.bind λl=>(dF args).bind λq=>if aL l.length&&l.all (λp=>tV p&&PV.cQ 3 p q) then some (.int (l.countP λp=>p.beq q:Nat)) else .none
section
theorem jtd{h:Heap}:∀{l:LV} {vs:List Value},aV C h l vs->(l.all λx=>x.bV.isSome)=true->vs.map G9=l
 |[],_,x,_=>by rw[x.jg];rfl
 |p::l,vs,x,ht=>by
  refine cP vs x.gh λv us h1 hus=>?_;refine kA (bD (show(p.bV.isSome&&l.all λx=>x.bV.isSome)=true from ht)) λt1 t2=>?_;refine kE (iQ t1) λy hy=>?_;rw[PV.fJ hy] at h1⊢;have hv:∃t,v=.str ⟨y.toArray⟩ t:=by cases h1;exact⟨_,rfl⟩
  refine cR v hv λt=>?_;show PV.str _::us.map G9=_;rw[jtd hus t2]
theorem jte{h:Heap}{p:PV}{v:Value}(x:VR C h p v)(ht:tV p=true):TJ h v=p:=by
 rcases(ug _ _).mp ht with ht|ht
 ·refine kE (iQ ht) λy hy=>?_;rw[PV.fJ hy] at x⊢;cases x;rfl
 ·refine aH (ux ht) λl hl hs=>?_;rw[PV.Ae hl] at x⊢;obtain⟨a,vs,rfl,⟨o,ho,n,rfl⟩,hvs⟩:∃a vs,v=.ref a/\iV h a (List.toArray vs)/\aV C h l vs:=by cases x;exact jT _ _ rfl (‹_›) (‹_›)
  show(match h.get? a with
   |some o=>(match o.data with
    | .seq vs _=>PV.tup (vs.toList.map G9)
    |_=>.none)
   |none=>.none)=_
  rw[ho];show PV.tup ((List.toArray vs).toList.map G9)=_;rw[List.toList_toArray,jtd hvs hs]
theorem jiK{h:Heap}{q:PV}:∀{l:LV} {vs:List Value},aV C h l vs->(l.all λp=>tV p&&PV.cQ 3 p q)=true->vs.countP (λv=>(TJ h v).beq q)=l.countP λp=>p.beq q
 |[],_,x,_=>by rw[x.jg];rfl
 |p::l,vs,x,ht=>by
  refine cP vs x.gh λv us h1 hus=>?_;refine kA (bD (show((tV p&&PV.cQ 3 p q)&&l.all λp=>tV p&&PV.cQ 3 p q)=true from ht)) λt1 t2=>?_;rw[vm,vm,jiK hus t2,jte h1 (bD t1).1]
theorem jqW{l:LV}{q:PV}{a:Addr}{vs:List Value}{v:Value}{s0:Shared}(hA:A.units+8<cLine)(ho:cj s.heap a vs.toArray)(hvs:aV C s.heap l vs)(y:VX C s0.heap.objs.size s0.gens.size s q v)(ht:(l.all λp=>tV p&&PV.cQ 3 p q)=true):
  Wp A (call (.builtin "list.count") [.ref a,v] []) (λw s'=>aA s s'/\∃t,w=.int ((l.countP λp=>p.beq q:Nat):Int) t) s:=by
 refine ju ho λo ho n bB=>?_;subst bB;refine call_meets PySem.F.slot_list_count (aW _ ho rfl) PySem.F.entry_list_count (PySem.F.args_list_count_2 _ _) (PySem.SeqAt.list_countAt a vs.toArray n none #[] v λw=>(TJ s.heap w).beq q) ⟨ho,λw hw=>?_,aA.toks,s.toks,by rw[List.toList_toArray,jiK hvs ht]⟩;obtain⟨i,hi,rfl⟩:=List.mem_iff_getElem.mp (List.mem_toArray.mp hw);have hl:i<l.length:=by rw[hvs.length];exact hi
 have h1:=hvs.at hl hi;refine kA (bD (cU.mp ht l[i] (qi hl))) λt1 t2=>?_;rw[jte h1 t1];exact jAp 3 (lo:=s0.heap.objs.size) (aY:=s0.gens.size) (VX.of h1) y t2 (by show A.units+1+3<cLine;lia)
end
def dU(s:List Nat):Bool:=s.all jA&&decide (s.length<1000000000000)
noncomputable def PV.Wy:PV->Option Addr
 | .obj a=>some a|_=>.none
theorem PV.jHv{p:PV}{i:Addr}:p.Wy=some i->p=.obj i:=by cases p<;>first|exact nn|(intro h;cases h;rfl)
def searchM(p1 p2:Addr)(a:PV)(args:LV):OV:=a.Wy.bind λp=>(dF args).bind λq=>q.bV.bind λs=>if (p==p1||p==p2)&&dU s then some .none else .none
def joinM(a:PV)(args:LV):OV:=a.bV.bind λsep=>(dF args).bind λl=>if aL sep.length then(l.items?.bind (gn sep)).bind lH else .none
def Lz(f:Nat->Nat)(a:PV)(args:LV):OV:=a.bV.bind λs=>if args.isEmpty&&(eQ s&&aL s.length) then some (.str (s.map f)) else .none
def nU(p1 p2:Addr)(m:Str)(a:PV)(args:LV):OV:=
 if m==("search":Str) then searchM p1 p2 a args else if m==("join":Str) then joinM a args else if m==("upper":Str) then Lz cI a args else
 if m==("lower":Str) then Lz du a args else if m==("count":Str) then countM a args else .none
def js7(a:PV)(args:LV):OV:=a.xq.bind λrows=>if args.isEmpty then gj rows else .none
def jAs(get:List Nat->LV->Option (LV))(a:PV)(args:LV):OV:=a.xq.bind λrows=>(dF args).bind λq=>q.bV.bind λn=>(get n rows).map .lst
def LK(rows:LV):Option (LV):=cF (λp=>(lM p).map λq=>PV.str q.1) rows
def yU(l:LV):OV:=(dF l).bind λp=>p.xq.bind λrows=>if rows.all (λp=>(lM p).any λq=>q.2.plain) then(LK rows).bind gj else .none
def rH(p1 p2:Addr)(get:List Nat->LV->Option (LV))(m:Str)(a:PV)(args:LV):OV:=
 if m==("items":Str) then js7 a args else if m==("get_all":Str) then jAs get a args else if m==("keys":Str) then yU (a::args) else nU p1 p2 m a args
theorem uH(h:(if c then x else y)=some z):(c=true/\x=some z)\/(c=false/\y=some z):=
 match c,h with|true,h=>.inl ⟨rfl,h⟩|false,h=>.inr ⟨rfl,h⟩
structure TQ(D:Nat)(mN:Str->Option Value):Prop where
 run:∃f fd sc y yp ap sp p rp T n,mN "items"=some (.ref f)/\fc f fd sc [.Return (some (.Subscript (.Attribute (.Name y yp) "_headers" ap) (.Slice none none none sp) p)) rp]/\Ops D T/\
  (∀ov,bindArgs fd ⟨[ov],[]⟩=pure ((["self"]:List Str).zip [ov]))/\
  (∀rows,∃η,cH ((["self"]:List Str).map λx=>PySem.Expr.Name x default) [.hdr rows] [bQ sc]=some η/\aG T n η (.Attribute (.Name y yp) "_headers" ap)=some (.lst rows))
structure TV(D:Nat)(mN:Str->Option Value)(get:List Nat->LV->Option (LV)):Prop where
 run:∃f fd sc st elt gens Dv p rp T,mN "get_all"=some (.ref f)/\fc f fd sc [st,.Return (some (.ListComp elt gens Dv p)) rp]/\Ops D T/\
  (∀ov v,bindArgs fd ⟨[ov,v],[]⟩=pure ((["self","name"]:List Str).zip [ov,v]))/\
  (∀nm rows q,get nm rows=some q->∃η aD n m,cH ((["self","name"]:List Str).map λx=>PySem.Expr.Name x default) [.hdr rows,.str nm] [bQ sc]=some η/\
   bh T n η st=some (.next,aD)/\aG T (m+1) aD (.ListComp elt gens Dv p)=some (.lst q))
theorem jrR:typeLookup (.type "object") "items"=pure none:=by rw[qd,pZ];kernel_rfl
theorem jui:typeLookup (.type "object") "keys"=pure none:=by rw[qd,pZ];kernel_rfl
theorem jmA:typeLookup (.type "object") "get_all"=pure none:=by rw[qd,pZ];kernel_rfl
section
variable{A:Around}{D:Nat}{C:AP}{s s0:Shared}{mN:Str->Option Value}
theorem eH.zero{lo aY:Nat}{vs:List Value}(x:eH C lo aY s [] vs):vs=[]:=by cases x;rfl
theorem TX{T:String}{m:Str}{y:List Nat}{t:Tok}{pl:Sem Bool}(slot:Slot "str" m T)(hty:typeOf (.builtin T)=pure (.type "method_descriptor")):
  Wp A (getMethod (.str ⟨y.toArray⟩ t) m pl) (λr s₁=>r=(.builtin T,[.str ⟨y.toArray⟩ t])/\s₁=s) s:=
 Ej (typeIs_str _ _ _) PySem.F.plainAttrs_str slot hty (λZ e=>nomatch e) ⟨rfl,rfl⟩
theorem jtc(h1:lg V.h₀ p1 c1)(h2:lg V.h₀ p2 c2)(a1:mW c1)(a2:mW c2)(h:(p==p1||p==p2)=true)(hb:∀b o,V.h₀.get? b=some o->s.heap.get? b=some o):∃c,lg s.heap p c/\mW c:=by
 have up:∀{p c},lg V.h₀ p c->lg s.heap p c:=λx=>by
  refine qw x.ob λo q vs oq n h1 h2 h3 zz=>cD zz λh4 h5 r=>?_;exact⟨o,q,vs,oq,n,hb _ _ h1,h2,h3,h4,hb _ _ h5,r⟩
 rw[ug,bO,bO] at h;rcases h with rfl|rfl
 ·exact aW _ (up h1) a1
 ·exact aW _ (up h2) a2
section
variable{a:PV}{l:LV}{ov:Value}{o:PE}{apos pos:Pos}{env:Env}{trees:List (Bool×Sem Value)}{p:PV}
 (hh:Here C s) (e:aA s0 s) (x:VX C s0.heap.objs.size s0.gens.size s a ov) (hline:(apos.endLine==pos.line)=true) (hfew:trees.length<20) (hplain:(trees.all λx=> !x.1)=true)
 (ht:∀s₁,aA s s₁->Wp A (spliced trees) (λvs s₂=>aA s₁ s₂/\eH C s0.heap.objs.size s0.gens.size s₂ l vs) s₁)
theorem eH.Jz{lo aY:Nat}{q:PV}{l:LV}{vs:List Value}(x:eH C lo aY s l vs)(h:dF l=some q):∃v,vs=[v]/\VX C lo aY s q v:=by
 rw[gQ h] at x;exact x.one
include hh e x hline hfew hplain ht
theorem jrX{p1 p2:Addr}{c1 c2:Array Nat}(h1:lg V.h₀ p1 c1)(h2:lg V.h₀ p2 c2)(a1:mW c1)(a2:mW c2)(h:searchM p1 p2 a l=some p):Wp A (methodCall o "search" apos pos env ov trees.length trees []) (bK C s0 p) s:=by
 refine aM h ?_;clear h;intro q hq h;refine aM h ?_;clear h;intro u hu h;refine aM h ?_;clear h;intro str hstr h;refine cY h ?_;clear h;intro hc h;cases h;refine fM hc ?_;clear hc;intro hq1 hs;refine fM hs ?_;clear hs;intro g1 g2;have eo:ov=.ref q:=VR.xx (PV.jHv hq▸x);rw[eo];refine aH (jtc h1 h2 a1 a2 hq1 hh.base) λc hc Z=>?_;refine qw hc.ob λob Z Z Z Z hob hcls hdn Z=>?_;refine yP (T:="re.Pattern") (id:="re.Pattern.search") hline hfew hplain (Ej (aW ob hob hcls) jcu Lp jgB (λa' ea=>?_) ⟨rfl,rfl⟩) (Wp.mono (ht s aC.refl) λvs s₁ z=>?_)
 ·cases ea;exact aW ob hob hdn
 ·refine oW vs (z.2.Jz hu) λv hv=>?_;obtain⟨t,rfl⟩:=(PV.fJ hstr▸hv).qp;refine aH (jtc h1 h2 a1 a2 hq1 (hh.ext z.1).base) λc hc ha=>?_;exact Wp.mono (jpC hc ha g1 (dB g2)) λv s₂ y=>⟨y.2▸e.trans z.1,VX.of (y.1▸ .none)⟩
omit hh
theorem jw1(h:joinM a l=some p):Wp A (methodCall o "join" apos pos env ov trees.length trees []) (bK C s0 p) s:=by
 refine aM h ?_;clear h;intro sep hsep h;refine aM h ?_;clear h;intro q hq h;refine cY h ?_;clear h;intro hs h;refine aM h ?_;clear h;intro r h3 h;refine aM h3 ?_;clear h3;intro items hi h3;obtain⟨t,rfl⟩:=(PV.fJ hsep▸x).qp;refine yP (T:="str") (id:="str.join") hline hfew hplain (TX PySem.F.slot_str_join PySem.F.type_str_join) (Wp.mono (ht s aC.refl) λvs s₁ z=>?_);refine oW vs (z.2.Jz hq) λv hv=>?_;exact jub (e.trans z.1) hv hi hs (by rw[h3];exact h)
theorem m_upper(h:Lz cI a l=some p):Wp A (methodCall o "upper" apos pos env ov trees.length trees []) (bK C s0 p) s:=by
 refine aM h ?_;clear h;intro y hy h;refine cY h ?_;clear h;intro hs h;cases h;refine fM hs ?_;clear hs;intro h1 h2;refine fM h2 ?_;clear h2;intro h2 h3;obtain⟨t,rfl⟩:=(PV.fJ hy▸x).qp;refine yP (T:="str") (id:="str.upper") hline hfew hplain (TX PySem.F.slot_str_upper PySem.F.type_str_upper) (Wp.mono (ht s aC.refl) λvs s₁ z=>?_);cases eH.zero (show eH C s0.heap.objs.size s0.gens.size s₁ [] vs from qj.mp h1▸z.2);exact Wp.mono (jsB h2 h3) λv s₂ w=>⟨(e.trans z.1).trans w.1,VX.of w.2⟩
theorem m_lower(h:Lz du a l=some p):Wp A (methodCall o "lower" apos pos env ov trees.length trees []) (bK C s0 p) s:=by
 refine aM h ?_;clear h;intro y hy h;refine cY h ?_;clear h;intro hs h;cases h;refine fM hs ?_;clear hs;intro h1 h2;refine fM h2 ?_;clear h2;intro h2 h3;obtain⟨t,rfl⟩:=(PV.fJ hy▸x).qp;refine yP (T:="str") (id:="str.lower") hline hfew hplain (TX PySem.F.slot_str_lower PySem.F.type_str_lower) (Wp.mono (ht s aC.refl) λvs s₁ z=>?_);cases eH.zero (show eH C s0.heap.objs.size s0.gens.size s₁ [] vs from qj.mp h1▸z.2);exact Wp.mono (jrW h2 h3) λv s₂ w=>⟨(e.trans z.1).trans w.1,VX.of w.2⟩
theorem juk(hA:A.units+8<cLine)(h:countM a l=some p):Wp A (methodCall o "count" apos pos env ov trees.length trees []) (bK C s0 p) s:=by
 refine aM h ?_;clear h;intro items hi h;refine aM h ?_;clear h;intro q hq h;refine cY h ?_;clear h;intro hc h;cases h;refine cP ov (x.q9 (PV.Ep hi)) λL us ho hus=>?_;refine yP (T:="list") (id:="list.count") hline hfew hplain (Ej ho.isList.typeIs PySem.F.plainAttrs_list PySem.F.slot_list_count PySem.F.type_list_count (λa' ea=>?_) ⟨rfl,rfl⟩) (Wp.mono (ht s aC.refl) λvs s₁ z=>?_)
 ·cases ea;refine ju ho λob hob n bB=>?_;subst bB;exact aW _ hob rfl
 ·refine oW vs (z.2.Jz hq) λv hv=>?_;exact Wp.mono (jqW hA (ho.up λZ h=>aA.heap z.1 h) (hus.ext z.1) hv (bD hc).2) λw s₂ y=>⟨(e.trans z.1).trans y.1,by refine cR w y.2 λt=>?_;exact VX.of (.int _ _)⟩
include hh
theorem jjf{p1 p2:Addr}{c1 c2:Array Nat}(h1:lg V.h₀ p1 c1)(h2:lg V.h₀ p2 c2)(a1:mW c1)(a2:mW c2)(hA:A.units+8<cLine){m:Str}(h:nU p1 p2 m a l=some p):
  Wp A (methodCall o m apos pos env ov trees.length trees []) (bK C s0 p) s:=by
 obtain⟨hm,h⟩|⟨_,h⟩:=uH h
 ·rw[bO.mp hm];exact jrX hh e x hline hfew hplain ht h1 h2 a1 a2 h
 obtain⟨hm,h⟩|⟨_,h⟩:=uH h
 ·rw[bO.mp hm];exact jw1 e x hline hfew hplain ht h
 obtain⟨hm,h⟩|⟨_,h⟩:=uH h
 ·rw[bO.mp hm];exact m_upper e x hline hfew hplain ht h
 obtain⟨hm,h⟩|⟨_,h⟩:=uH h
 ·rw[bO.mp hm];exact m_lower e x hline hfew hplain ht h
 refine cY h ?_;clear h;intro hm h;rw[bO.mp hm];exact juk e x hline hfew hplain ht hA h
omit e
theorem m_keys(X:lR mN){f:Addr}{fd:FuncData}{sc:Scope}{body:List Stmt}(hf:mN "keys"=some (.ref f))(F:fc f fd sc body)(K:Callee D yU (.ref f))(hA:aR A D)(e:aA s0 s)(h:yU (a::l)=some p):Wp A (methodCall o "keys" apos pos env ov trees.length trees []) (bK C s0 p) s:=by
 refine aH (bx h) λq hq h'=>?_;refine aH (bx h') λrows hr Z=>?_;have el:=gQ hq;have ea:a=q:=(sG el).1;have ell:l=[]:=(sG el).2;rw[ea,PV.sE hr] at x;have x':VR C s.heap (.hdr rows) ov:=x.plain rfl;refine GP X hh.base x' hf F jui ∅ hline hfew hplain (Wp.mono (ht s aC.refl) λvs s₁ z=>⟨z.1,?_⟩);refine K.ok A s0 s₁ C (a::l) (ov::vs) p hA (hh.ext z.1) (e.trans z.1) (.cons ?_ z.2) h;rw[ea,PV.sE hr];exact x.ext z.1
theorem jul(X:lR mN)(I:TQ D mN)(hA:aR A (D+1))(h:js7 a l=some (.lst q)):Wp A (methodCall o "items" apos pos env ov trees.length trees []) (jj C s q) s:=by
 refine aM h ?_;clear h;intro rows hr h;refine cY h ?_;clear h;intro h1 h;refine kA (uD h) λe' hk=>?_;cases e';have x':VR C s.heap (.hdr q) ov:=PV.sE hr▸x.plain (by rw[PV.sE hr];rfl);refine uw I.run λf fd sc y zz=>kE zz λyp zz=>Fd zz λap sp p rp T n hf F O hb hr=>?_;obtain⟨η,cL,hev⟩:=hr _;refine GP X hh.base x' hf F jrR ∅ hline hfew hplain (Wp.mono (ht s aC.refl) λvs s₁ z=>⟨z.1,?_⟩);cases eH.zero (show eH C s0.heap.objs.size s0.gens.size s₁ [] vs from qj.mp h1▸z.2);exact jmt X F hb O cL hev hA (hh.ext z.1) z.1 (x'.ext z.1) hk
theorem jzD(X:lR mN){get:List Nat->LV->Option (LV)}(G:TV D mN get)(hA:aR A (D+1))(h:jAs get a l=some (.lst q)):Wp A (methodCall o "get_all" apos pos env ov trees.length trees []) (jj C s q) s:=by
 refine aM h ?_;clear h;intro rows hr h;refine aM h ?_;clear h;intro u hu h;refine aM h ?_;clear h;intro nm hnm h;refine mH h ?_;clear h;intro q' hg e';cases e';have x':VR C s.heap (.hdr rows) ov:=PV.sE hr▸x.plain (by rw[PV.sE hr];rfl);refine uw G.run λf fd sc st zz=>Fd zz λelt gens Dv p rp T hf F O hb hr=>?_;refine rn (hr nm rows q hg) λη aD n m cL zz=>kA zz λh1 h2=>?_;refine GP X hh.base x' hf F jmA ∅ hline hfew hplain (Wp.mono (ht s aC.refl) λvs s₁ z=>⟨z.1,?_⟩);refine oW vs (z.2.Jz hu) λv hv=>?_;exact jkd F hb O cL h1 h2 hA (hh.ext z.1) z.1 (x'.ext z.1) ((PV.fJ hnm▸hv).plain rfl)
theorem jf1(X:lR mN){get:List Nat->LV->Option (LV)}(I:TQ D mN)(G:TV D mN get)(hA:aR A (D+1))(hm:(m==("items":Str)||m==("get_all":Str))=true)(h:rH p1 p2 get m a l=some (.lst q)):
  Wp A (methodCall o m apos pos env ov trees.length trees []) (jj C s q) s:=by
 obtain⟨h1,h⟩|⟨h1,h⟩:=uH h
 ·rw[bO.mp h1];exact jul hh x hline hfew hplain ht X I hA h
 obtain⟨h2,h⟩|⟨h2,h⟩:=uH h
 ·rw[bO.mp h2];exact jzD hh x hline hfew hplain ht X G hA h
 rw[h1,h2] at hm;exact nf hm
end
theorem jkt{get:List Nat->LV->Option (LV)}(h:rH p1 p2 get m a l=some p):
  ((m==("items":Str)||m==("get_all":Str))=true/\∃q,p=.lst q)\/(m="keys"/\yU (a::l)=some p)\/nU p1 p2 m a l=some p:=by
 obtain⟨hm,h⟩|⟨_,h⟩:=uH h
 ·refine aH (bx h) λrows Z h=>?_;exact .inl (Xh (by rw[hm];rfl) rows ((uD (dq h).2).1))
 obtain⟨hm,h⟩|⟨_,h⟩:=uH h
 ·refine aH (bx h) λrows Z h=>?_;refine aH (bx h) λu Z h=>?_;refine aH (bx h) λnm Z h=>?_;refine aH (iM h) λq Z h=>?_;exact .inl (Xh (by rw[hm,Jc]) q h.symm)
 obtain⟨hm,h⟩|⟨_,h⟩:=uH h
 ·exact .inr (.inl ⟨bO.mp hm,h⟩)
 exact .inr (.inr h)
end
section
variable{D:Nat}{S:Sp}
theorem LQ(hD:1<=D)(hG:S.gens=true->4<=D)(hsm:(V.h₀.get? sysModules).isSome=true)
  (hf:∀g F,S.kJ g=some F->∃f,bW g f/\Callee D F f)(hb:∀g F,S.q8 g=some F->∃f,bW g f/\Callee D F f)
  (hg:∀x p,S.glob x=some p->∃v,bW x v/\p.plain=true/\∀C h,VR C h p v)
  (hat:∀(A:Around) s0 s C m a ov p,Here C s->aA s0 s->VX C s0.heap.objs.size s0.gens.size s a ov->S.attr m a=some p->Wp A (getAttr ov m true) (bK C s0 p) s)
  (hk:∀(A:Around) s0 s C m a l k b ov o apos pos env trees kt p,aR A D->Here C s->aA s0 s->VX C s0.heap.objs.size s0.gens.size s a ov->(apos.endLine==pos.line)=true->trees.length<20->(trees.all λx=> !x.1)=true->
   (∀s₁,aA s s₁->Wp A (spliced trees) (λvs s₂=>aA s₁ s₂/\eH C s0.heap.objs.size s0.gens.size s₂ l vs) s₁)->(∀s₁,Wp A kt (λv s₂=>v=.bool b/\s₂=s₁) s₁)->S.mG m a l k b=some p->
   Wp A (methodCall o m apos pos env ov (trees.length+1) trees [(some k,kt)]) (bK C s0 p) s)
  (hm:∀(A:Around) s0 s C m a l ov o apos pos env trees p,aR A D->Here C s->aA s0 s->VX C s0.heap.objs.size s0.gens.size s a ov->(apos.endLine==pos.line)=true->trees.length<20->(trees.all λx=> !x.1)=true->
   (∀s₁,aA s s₁->Wp A (spliced trees) (λvs s₂=>aA s₁ s₂/\eH C s0.heap.objs.size s0.gens.size s₂ l vs) s₁)->S.meth m a l=some p->
   Wp A (methodCall o m apos pos env ov trees.length trees []) (bK C s0 p) s)
  (hmF:∀(A:Around) s0 s C m a l ov o apos pos env trees q,aR A D->Here C s->aA s0 s->VX C s0.heap.objs.size s0.gens.size s a ov->(apos.endLine==pos.line)=true->trees.length<20->(trees.all λx=> !x.1)=true->
   (∀s₁,aA s s₁->Wp A (spliced trees) (λvs s₂=>aA s₁ s₂/\eH C s0.heap.objs.size s0.gens.size s₂ l vs) s₁)->(m==("items":Str)||m==("get_all":Str))=true->S.meth m a l=some (.lst q)->
   Wp A (methodCall o m apos pos env ov trees.length trees []) (jj C s0 q) s)
  (hh:∀(A:Around) env C K KG s st η aq,aR A D->FA env η C K KG s->S.hand st η=some aq->Wp A (exec st env) (XP env C K KG s .next aq) s):Ops D S where
 room:=hD
 Qc:=hG
 sm:=hsm
 bin:=λA s0 s C op a b va vb p Z hh e x y h=>jv4 hh e x y h
 Xd:=λA s op i j ti tj k Z h ho=>jrx h ho
 cmp:=λA s0 s C op a b va vb r hA Z e x y h=>jwi hA e x y h
 inPy:=λA s0 s C a va k p Z Z x h=>jmq x h
 idx:=λA s0 s C a k va vk p Z Z e x y h=>jwO e x y h
 slice:=λA s0 s C a va lo up vl vu i p Z hh e x hl hu hi h=>jsl hh e x hl hu hi h
 Wc:=λA s0 s C a va lo st vl vt i p Z hh e x hl hu hi h=>jpE hh e x hl hu hi h
 iter:=λA s0 s C a va items Z hh e x h=>jua hh e x h
 zU:=λA s C l v hA x=>jxP hA.handled x
 neg:=λA s i t k Z h=>jw3 h
 dput:=λA s C d l kvs k v pk pv hd hl nc hk hv hlen=>jtS hd hl nc hk hv hlen
 kJ:=hf
 q8:=λg F Z h=>hb g F h
 glob:=hg
 attr:=λA s0 s C m a ov p Z hh e x h=>hat A s0 s C m a ov p hh e x h
 mG:=hk
 meth:=hm
 sI:=hmF
 hand:=hh
end
abbrev PF:=LV->OV
noncomputable def mZ{α:Type}:List (Str×α)->Str->Option α
 |[],_=>none|x::r,g=>if g==x.1 then some x.2 else mZ r g
theorem yV{α:Type}{P:Str->α->Prop}:∀{l:List (Str×α)} {g:Str} {F:α},(∀x∈l,P x.1 x.2)->mZ l g=some F->P g F
 |[],_,_,_,h=>by exact nn h
 |x::r,g,F,hl,h=>by
  have h:(if g==x.1 then some x.2 else mZ r g)=some F:=h;by_cases e:(g==x.1)=true
  ·rw[eq_of_beq e,←ir ((aX e).symm.trans h)];exact hl x (.head _)
  ·exact yV (λy hy=>hl y (.tail _ hy)) ((aZ e).symm.trans h)
def Cu:List (Str×PF):=[("len",rC),("chr",QK),("ord",XK),("sum",xQ),("divmod",QL),("range",Fw),("list",J0),("type",jxO)]
noncomputable def Cv:List (Str×PV):=[("_name_disallowed_re",.obj 140),("_value_disallowed_re",.obj 145),("str",.typ "str"),("list",.typ "list")]
def lU(fs:List (Str×PF))(dX:List Str)(gens:Bool):Sp:={kJ:=mZ fs,q8:=mZ Cu,meth:=nU 140 145,dX:=dX,gens:=gens,glob:=mZ Cv}
def TY(fs:List (Str×PF))(dX:List Str):Sp:={kJ:=mZ fs,q8:=mZ Cu,meth:=nU 140 145,dX:=dX,glob:=mZ Cv,attr:=GQ,mG:=Cm dU}
def txt(l:LV):Option (List Nat):=(dF l).bind PV.bV
theorem Cw(h:txt l=some s):l=[.str s]:=by
 refine aH (bx h) λp h1 h2=>?_;rw[gQ h1,PV.fJ h2]
def sgn(l:LV):Option Nat:=(txt l).bind dF
theorem jtg(h:sgn l=some c):l=[.str [c]]:=by
 refine aH (bx h) λp h1 h2=>?_;rw[Cw h1,gQ h2]
def T3(p:PV):Bool:=(lM p).any λq=>dU q.1&&q.2.bV.any dU
def tO(rows:LV):Bool:=aL rows.length&&rows.all T3
def Ha(p:PV):Bool:=(lM p).any λq=>(eQ q.1&&aL q.1.length)&&q.2.bV.isSome
def valOf(n:List Nat)(p:PV):OV:=(lM p).bind λq=>if q.1.map du==n then some q.2 else none
def lV(n:List Nat)(l:LV):LV:=l.filterMap (valOf n)
def j5(n:List Nat)(rows:LV):Option (LV):=if aL rows.length&&eQ n&&aL n.length&&dU (n.map du)&&rows.all Ha then some (lV (n.map du) rows) else none
def spT(fs:List (Str×PF))(dX:List Str):Sp:={kJ:=mZ fs,q8:=mZ Cu,meth:=rH 140 145 j5,dX:=dX,glob:=mZ Cv,attr:=GQ,mG:=Cm dU}
def jAt:PF:=jAy tO
def inF:PF:=λl=>(sgn l).map λ(c:Nat)=>PV.bool (gM.contains (c:Int))
def jO(c:Nat):Option (List Nat):=match uF jy (c:Int) with
 |some s=>some s.cps.toList|none=>if decide (c<128) then some [du c] else none
def LR:PF:=λl=>(sgn l).bind λc=>(jO c).map .str
noncomputable def yW:List Nat->Option (List Nat)
 |[]=>some []|c::r=>if gM.contains (c:Int) then yW r else(jO c).bind λx=>(yW r).map λy=>x++y
theorem bG(h:n<=1000000):aL n=true:=b8 h
theorem uI{α:Type}{l:List α}{n:Nat}(h:l.length<=n)(hn:n<=1000000):aL l.length=true:=bG (aF h hn)
theorem jB{α:Type}{l r:List α}{n m:Nat}(h:l.length<=n)(k:r.length<=m):(l++r).length<=n+m:=by rw[bz];exact ue h k
theorem jn8(n:Int)(hk:0<k):0<=n.fmod k/\n.fmod k<k:=by
 rw[Pk _ (w6 hk)];exact⟨Int.emod_nonneg _ (Int.ne_of_gt hk),Int.emod_lt_of_pos _ hk⟩
set_option tactic.hygienic true
def Runs(F:PF)(G:PF):Prop:=∀l p,F l=some p->l.all PV.plain=true/\G l=some p
noncomputable def inE:List Stmt->PE
 |[.Return (some (.Compare e _ _ _)) _]=>e|_=>default
theorem jt5:Runs inF (jtf gM.contains (lU [] [] false) 10 ["code"] (defOf bj 9).2.2 "b1_set" (inE (defOf bj 9).2.1)):=by
 intro l p h;refine eY p (iM h) λc h1=>?_;rw[jtg h1];exact⟨rfl,⋯⟩
noncomputable def jAr:List Stmt->PE
 | .Assign _ (.Call _ (e::_) _ _) _::_=>e|_=>default
theorem jrZ:Runs LR (SM (uF jy) (lU [] [] false) 10 ["code"] (defOf bj 11).2.2 "b3_exceptions" "r" (jAr (defOf bj 11).2.1) (defOf bj 11).2.1.tail):=by
 intro l p h;refine aH (bx h) λc hc' h=>?_;rw[jtg hc'];refine⟨rfl,?_⟩;have h1:Lk (lU [] [] false) 10 ["code"] (defOf bj 11).2.2 "b3_exceptions" (jAr (defOf bj 11).2.1) [.str [c]]=some ([mk (defOf bj 11).2.2 [some (.str [c])]],(c:Int)):=⋯
 unfold SM;rw[h1,nD];unfold jO at h;dsimp only;cases ht:uF jy (c:Int) with
 |some s=>
  rw[ht] at h;cases h;kernel_rfl
 |none=>
  rw[ht] at h;dsimp only at h;split at h
  case isFalse=>exact nn h
  rename_i hc;cases h;have h2:bM "r" (strOr none) [mk (defOf bj 11).2.2 [some (.str [c])]]=some [mk (defOf bj 11).2.2 [some (.str [c]),some .none]]:=⋯
  have h3:nU 140 145 "lower" (.str [c]) []=some (.str [du c]):=by
   show(if eQ [c]&&aL 1 then some (PV.str [du c]) else none)=_;exact bN (by rw[eQ,jR,hc];rfl) rfl
  rw[h2,nD];have h4:dK (bh (lU [] [] false) 10) [mk (defOf bj 11).2.2 [some (.str [c]),some .none]] (defOf bj 11).2.1.tail=some (.ret (.str [du c]),[mk (defOf bj 11).2.2 [some (.str [c]),some .none]]):=
   bu (eZ (c:=false) (cM rfl (az rfl rfl) (aQ rfl) rfl) dz) (gK (j0 rfl (gA rfl (az rfl rfl) aO h3) rfl))
  rw[h4];rfl
set_option tactic.hygienic false
set_option tactic.hygienic true
theorem jg1(h:gn [] r=some y):gn [] (.str x::r)=some (x++y):=by
 cases r with
 |nil=>cases h;exact aU some (fV x).symm
 |cons a r=>
  show(gn [] (a::r)).map (x++[]++·)=_;rw[h,fV];rfl
theorem T4{step:PV->Option (LV)}(hs:∀c:Nat,gM.contains (c:Int)=true->step (.str [c])=some [])(hs':∀(c:Nat) x,gM.contains (c:Int)=false->jO c=some x->step (.str [c])=some [.str x]):
  ∀s y,yW s=some y->∃out,mJ step (s.map λc=>.str [c])=some out/\out.length<=(s.map λc=>PV.str [c]).length/\gn [] out=some y
 |[],y,h=>by
  cases h;exact cG ([]) rfl (aN _) rfl
 |c::r,y,h=>by
  unfold yW at h;split at h
  ·rename_i hb;refine eO (T4 hs hs' r y h) λout h1 h3 h2=>?_;refine cG out ?_ (by simp only[fu,dC];lia) h2;exact bk (hs c hb) (bk h1 rfl)
  ·rename_i hb;refine aH (Option.bind_eq_some_iff.mp h) λx hx h=>?_;refine eY y (iM h) λy' hy=>?_;refine eO (T4 hs hs' r y' hy) λout h1 h3 h2=>?_;refine cG (.str x::out) ?_ (by simp only[fu,dC];lia) (jg1 h2);exact bk (hs' c x (Bool.eq_false_iff.mpr hb) hx) (bk h1 rfl)
section
variable{S:Sp}{n:Nat}{η:ME}
abbrev qG(S:Sp)(n:Nat)(η:ME)(sc:Scope)(g:Comprehension)(elt:PE)(x:PV):Option (LV):=
 (d8 g.target x (bQ sc::η)).bind λaD=>(jW (bI S n) aD g.ifs).bind λok=>if ok then((aG S n aD elt).bind λv=>if v.plain then some [v] else .none) else some []
theorem iZ(ha:d8 g.target x (bQ sc::η)=some aD)(ht:jW (bI S n) aD g.ifs=some true)(he:aG S n aD elt=some v)(hv:v.plain=true):
  qG S n η sc g elt x=some [v]:=by
 simp only[qG,ha,ht,he,hv,nD,gZ]
theorem T5(ha:d8 g.target x (bQ sc::η)=some aD)(ht:jW (bI S n) aD g.ifs=some false):qG S n η sc g elt x=some []:=by
 simp only[qG,ha,ht,nD,kj,jH]
theorem iC:jW (bI S n) η []=some true:=rfl
theorem Cx(h:bI S n η c=some b):jW (bI S n) η [c]=some b:=
 bk h (by cases b<;>rfl)
theorem jmh{P:LV->Prop}(hc:(gw sc η&&jX g)=true)(ha:aG S n η g.iter=some a)(hi:fQ a=some items)(hk:aL items.length=true)(hf:freshT (bQ sc::η) g.target=true)
  (hl:∃out,mJ (qG S n η sc g elt) items=some out/\out.length<=items.length/\P out):∃out,aG S (n+1) η (.ListComp elt [g] sc pos)=some (.lst out)/\P out:=by
 refine eO hl λout h1 h2 h3=>?_;refine aW out (Br hc ha hi hf h1 ?_) h3;unfold aL at*;simp only[iw] at*;lia
end
theorem jwP{c:Nat}{b:Bool}(h:gM.contains (c:Int)=b):inF [.str [c]]=some (.bool b):=by subst h;rfl
set_option tactic.hygienic false
set_option tactic.hygienic true
section
variable{S:Sp}{n:Nat}{η aq:ME}
theorem uJ(ho:JZ it=true)(ha:aG S n η it=some a)(hi:Bk S.gens a=some items)(hl:dD (λη=>dK (bh S n) η b) t η items=q):bh S (n+1) η (.For t it b [] pos)=q:=by
 show(if JZ it then((aG S n η it).bind (Bk S.gens)).bind λitems=>dD (λη=>dK (bh S n) η b) t η items else .none)=q;exact bN ho (bk (bk ha hi) hl)
theorem pD(ha:d8 tgt x η=some aD)(hb:body aD=some (.next,cN))(hr:dD body tgt cN r=q):dD body tgt η (x::r)=q:=bk ha (bk hb hr)
theorem jwZ(ha:d8 tgt x η=some aD)(hb:body aD=some (.ret v,cN)):dD body tgt η (x::r)=some (.ret v,cN):=bk ha (bk hb rfl)
theorem jlg(he:aG S n η (.Call (.Attribute o m ap) args (k::ks) pos)=some v):bh S (n+1) η (.Expr (.Call (.Attribute o m ap) args (k::ks) pos) p2)=some (.next,η):=by
 show(aG S n η (.Call (.Attribute o m ap) args (k::ks) pos)).map (λZ=>(Out.next,η))=_;rw[he];rfl
theorem jss(h:aG S n η (.Constant c k p)=some a)(ha:vJ a=some b):bI S (n+1) η (.Constant c k p)=some b:=bk h ha
end
theorem joU(h:look z [m]=some p):some p∈m.vals:=by
 have hv:∀(ns:List (Str×NameKind)) (vs:List (OV)),valAt z ns vs=some p->some p∈vs:=by
  intro ns;induction ns with
  |nil=>intro vs h;exact nn h
  |cons a r ih=>
   intro vs h;cases vs with
   |nil=>exact nn h
   |cons v vs=>
    have h:(if z==a.1 then v else valAt z r vs)=some p:=h;split at h
    ·subst h;exact nA ..
    ·exact pO _ (ih vs h)
 rw[JQ] at h;cases hk:m.names.lookup z with
 |none=>rw[hk] at h;exact nn h
 |some k=>rw[hk] at h;cases k<;>first|exact hv _ _ h|exact nn h
abbrev pF:Sp:=lU [] [] false
theorem jlB(h:eQ y=true)(hl:aL y.length=true):nU p1 p2 "lower" (.str y) []=some (.str (y.map du)):=by
 show(if eQ y&&aL y.length then some (PV.str (y.map du)) else none)=_;exact bN (by rw[h,hl];rfl) rfl
theorem jpB(b:Bool)(h:dU s=true):nU 140 145 "search" (.obj (if b then 140 else 145)) [.str s]=some .none:=by
 cases b
 ·show(if true&&dU s then some PV.none else none)=_;exact bN (by rw[h];rfl) rfl
 ·show(if true&&dU s then some PV.none else none)=_;exact bN (by rw[h];rfl) rfl
theorem jnM(rows:LV)(s:List Nat)(b:Bool)(hc:dU s=true):iU pF 10 ["self","value","name"] (dw bj 17 1).2.2 (dw bj 17 1).2.1 [.hdr rows,.str s,.bool b]=some (.str s):=by
 refine jM (η:=[mk (dw bj 17 1).2.2 [some (.hdr rows),some (.str s),some (.bool b)]]) ⋯ (gK (eZ (c:=true) (cM rfl (dN rfl rfl rfl rfl (aK (az rfl rfl) aO) rfl) (XN rfl rfl rfl rfl) rfl) (bu (aD:=[mk (dw bj 17 1).2.2 [some (.hdr rows),some (.str s),some (.bool b),some (.obj (if b then 140 else 145))]]) ?_ (bu (eZ (c:=false) (J3 (gA rfl (az rfl rfl) (aK (az rfl rfl) aO) (jpB b hc)) rfl) dz) (gK (j0 rfl (az rfl rfl) rfl))))));cases b<;>kernel_rfl
abbrev nY:Sp:=TY [] []
theorem T6(h:dU s=true):Cm dU "_convert_string_type" (.hdr rows) [.str s] "name" b=some (.str s):=by
 show(if dU s then some (PV.str s) else none)=_;rw[h];rfl
noncomputable def cA(l:List Stmt)(i:Nat):Stmt:=(l[i]?).getD (.Pass default)
abbrev tW:Scope:=(dw bj 17 0).2.2
noncomputable def jC:Stmt->List Stmt
 | .If _ (.For _ _ b _ _::_) _ _=>b| .For _ _ b _ _=>b|_=>[]
noncomputable def rI:Stmt->PE
 | .If _ (.For t _ _ _ _::_) _ _=>t| .For t _ _ _ _=>t|_=>default
theorem ji0{body:ME->Option (Out×ME)}{f:OV->OV->ME}(hs:∀(k v:OV) a b,dU a=true->dU b=true->∃aD,d8 tgt (.tup [.str a,.str b]) (f k v)=some aD/\body aD=some (.next,f (some (.str a)) (some (.str b)))):
  ∀(rows:LV),rows.all T3=true->∀k v:OV,∃k' v',dD body tgt (f k v) rows=some (.next,f k' v')
 |[],_,k,v=>kW k v rfl
 |x::r,h,k,v=>by
  simp only[jR,eN] at h;refine kA h λhx hr=>?_;refine aH (ux hx) λq h1 hx=>?_;refine kA (bD hx) λha hx=>?_;refine aH (ux hx) λb h2 hb=>?_;rw[Bl h1,PV.fJ h2];refine aH (hs k v q.1 b ha hb) λaD h1 h2=>?_;refine kO (ji0 hs r hr (some (.str q.1)) (some (.str b))) λk' v' h3=>?_;exact kW k' v' (pD h1 h2 h3)
theorem jrw(a:Addr)(rows:LV)(h:tO rows=true):∃uX t7 nq qR Dw,cH ((["self","headers"]:List Str).map λx=>PySem.Expr.Name x default) [.obj a,.lst rows] [bQ tW]=some uX/\bh nY 12 uX (cA (dw bj 17 0).2.1 0)=some (.next,t7)/\bh nY 12 t7 (cA (dw bj 17 0).2.1 1)=some (.next,nq)/\
  look "self" nq=some (.obj a)/\look "headers" nq=some (.lst rows)/\bM "self" (.hdr rows) nq=some qR/\(∀z l,look z qR≠some (.own l))/\bh nY 12 qR (cA (dw bj 17 0).2.1 3)=some (.next,Dw):=by
 have hr:rows.all T3=true:=by
  unfold tO at h;rw[eN] at h;exact h.2
 have key:∃k' v',bh nY 12 [mk tW [some (.hdr rows),some (.lst rows),none,none]] (cA (dw bj 17 0).2.1 3)=some (.next,[mk tW [some (.hdr rows),some (.lst rows),k',v']]):=by
  have hl:=ji0 (body:=λη=>dK (bh nY 10) η (jC (cA (dw bj 17 0).2.1 3))) (tgt:=rI (cA (dw bj 17 0).2.1 3)) (f:=λk v=>[mk tW [some (.hdr rows),some (.lst rows),k,v]]) (λk v a b ha hb=>aW ([mk tW [some (.hdr rows),some (.lst rows),some (.str a),some (.str b)]]) ⋯ (bu (jlg (Bq rfl (az rfl rfl) (aK (az rfl rfl) aO) (T6 (rows:=rows) (b:=true) ha))) (bu (jlg (Bq rfl (az rfl rfl) (aK (az rfl rfl) aO) (T6 (rows:=rows) (b:=false) hb))) dz))) rows hr none none;refine kO hl λk' v' h1=>?_;exact kW k' v' (eZ (c:=true) (jss (aQ rfl) rfl) (bu (uJ rfl (az rfl rfl) rfl h1) dz))
 refine kO key λk' v' h1=>?_;refine⟨[mk tW [some (.obj a),some (.lst rows)]],[mk tW [some (.obj a),some (.lst rows)]],[mk tW [some (.obj a),some (.lst rows)]],[mk tW [some (.hdr rows),some (.lst rows),none,none]],_,⋯,⋯,⋯,⋯,⋯,⋯,λz l e=>?_,h1⟩;have:=joU e;have e2:(mk tW [some (.hdr rows),some (.lst rows),none,none]).vals=[some (.hdr rows),some (.lst rows),none,none,none,none,none,none]:=⋯
 rw[e2] at this;simp at this
set_option tactic.hygienic false
set_option tactic.hygienic true
abbrev Hb:Scope:=(dw bj 17 7).2.2
noncomputable def Cy:List Stmt->PE
 |[_,.Return (some e) _]=>e|_=>default
noncomputable def uK:PE->Scope
 | .ListComp _ _ sc _=>sc|_=>default
noncomputable def Hc:PE->Comprehension
 | .ListComp _ (g::_) _ _=>g|_=>default
noncomputable def Ma:PE->PE
 | .ListComp e _ _ _=>e|_=>default
theorem get_loop{step:PV->Option (LV)}(hs:∀k v,eQ k=true->aL k.length=true->step (.tup [.str k,.str v])=some (if k.map du==n then [.str v] else [])):
  ∀rows:LV,rows.all Ha=true->mJ step rows=some (lV n rows)/\(lV n rows).length<=rows.length
 |[],_=>⟨rfl,aN _⟩
 |x::r,h=>by
  refine kA (bD (show(Ha x&&r.all Ha)=true from h)) λhx hr=>?_;refine kA (get_loop hs r hr) λh1 h2=>?_;refine aH (ux hx) λq h3 hx=>?_;refine kA (bD hx) λh4 h5=>?_;refine kE (iQ h5) λv h5=>?_;refine kA (bD h4) λh6 h7=>?_;have ev:valOf n x=if q.1.map du==n then some q.2 else none:=by unfold valOf;rw[h3];rfl
  have ex:x=.tup [.str q.1,.str v]:=by rw[Bl h3,PV.fJ h5]
  have e:step x=some (if q.1.map du==n then [.str v] else []):=by rw[ex];exact hs _ v h6 h7
  rw[lV,Jo,ev];cases hk:q.1.map du==n with
  |true=>
   rw[hk] at e;refine⟨bk e (bk h1 ?_),pX h2⟩;show some ([PV.str v]++lV n r)=some (q.2::lV n r);rw[PV.fJ h5];rfl
  |false=>
   rw[hk] at e;exact⟨bk e (bk h1 rfl),wQ h2⟩
theorem rJ(a b:List Nat):(PV.str a).beq (.str b)=(a==b):=by
 exact uf
theorem eq_str(h:(a==b)=c):gk .Eq (.str a) (.str b)=some c:=by
 rw[QM rfl,rJ,h]
theorem jml(nm:List Nat)(rows q:LV)(h:j5 nm rows=some q):∃η aD n m,cH ((["self","name"]:List Str).map λx=>PySem.Expr.Name x default) [.hdr rows,.str nm] [bQ Hb]=some η/\
  bh nY n η (cA (dw bj 17 7).2.1 0)=some (.next,aD)/\aG nY (m+1) aD (Cy (dw bj 17 7).2.1)=some (.lst q):=by
 unfold j5 at h;split at h
 case isFalse=>exact nn h
 rename_i hc;cases h;simp only[eN] at hc;refine kA hc λbC h5=>?_;obtain⟨⟨⟨h1,h2⟩,h3⟩,h4⟩:=bC;refine Qw ([mk Hb [some (.hdr rows),some (.str nm)]]) ([mk Hb [some (.hdr rows),some (.str (nm.map du))]]) 10 9 ⋯ ?_ ?_
 ·exact fD rfl (Bq rfl (az rfl rfl) (aK (gA rfl (az rfl rfl) aO (jlB (p1:=135) (p2:=140) h2 h3)) aO) (T6 (rows:=rows) (b:=true) h4)) rfl rfl
 ·have hl:=get_loop (n:=nm.map du) (step:=qG nY 9 [mk Hb [some (.hdr rows),some (.str (nm.map du))]] (uK (Cy (dw bj 17 7).2.1)) (Hc (Cy (dw bj 17 7).2.1)) (Ma (Cy (dw bj 17 7).2.1))) (λk v ha hk=>?_) rows h5
  ·refine Br rfl (QQ rfl rfl rfl) rfl rfl hl.1 ?_;unfold aL at*;simp only[iw] at*;omega
  ·have ht:∀c,(k.map du==nm.map du)=c->jW (bI nY 9) [mk (uK (Cy (dw bj 17 7).2.1)) [none,some (.tup [.str k,.str v])],mk Hb [some (.hdr rows),some (.str (nm.map du))]] (Hc (Cy (dw bj 17 7).2.1)).ifs=some c:=λc hc=>
    Cx (cM rfl (gA rfl (bT rfl (az rfl rfl) (aQ rfl) rfl) aO (jlB (p1:=135) (p2:=140) ha hk)) (az rfl rfl) (eq_str hc))
   cases hc:(k.map du==nm.map du) with|true=>exact iZ ⋯ (ht _ hc) (bT rfl (az rfl rfl) (aQ rfl) rfl) rfl|false=>exact T5 ⋯ (ht _ hc)
set_option tactic.hygienic false
set_option tactic.hygienic true
def Hf:PF:=λl=>(txt l).map λs=>.gen (fB 0 false s)
section
variable{S:Sp}{n:Nat}{η:ME}
theorem jwI(ht:bI S n η t=some c)(h:mX (mY S n) η (if c then b else o)=q):mY S (n+1) η (.If t b o pos)=q:=by
 exact bk ht h
theorem T7{ex:ME->Stmt->Option (LV×ME)}{st:Stmt}{out:LV}{aq:ME}(h:ex η st=some (out,aq)):mX ex η [st]=some (out,aq):=
 bk h (aU (λo=>some (o,aq)) (fV out))
end
abbrev Cz:Scope:=(defOf bj 3).2.2
abbrev yX(s:List Nat)(p:Int)(e:Bool)(ch:OV):ME:=[mk Cz [some (.str s),some (.int p),some (.bool e),ch]]
theorem jlp{body:ME->Option (LV×ME)}{f:Int->Bool->OV->ME}
  (hs:∀(p:Int) (e:Bool) (ch:OV) (i:Nat) (c:Nat),∃aD,d8 tgt (.tup [.int i,.str [c]]) (f p e ch)=some aD/\
   body aD=some (if e then [.tup [.int i,.str [92,c]]] else if c==92 then [] else [.tup [.int i,.str [c]]],f i (if e then false else c==92) (some (.str [c])))):
  ∀(r:List Nat) (i:Nat) (p:Int) (e:Bool) (ch:OV),(e=true->p=(i:Int)-1)->∃out p' e' ik,Cq body tgt i (f p e ch) r=some (out,f p' e' ik)/\out++(if e' then [.tup [.int p',.str [92]]] else [])=fB i e r
 |[],i,p,e,ch,h=>by
  refine Ff ([]) p e ch rfl ?_;cases e with|false=>rfl|true=>rw[h rfl];rfl
 |c::r,i,p,e,ch,h=>by
  refine aH (hs p e ch i c) λaD h1 h2=>?_;refine rn (jlp hs r (i+1) i (if e then false else c==92) (some (.str [c])) (λZ=>by lia)) λout p' e' ik h3 h4=>?_;refine Ff _ p' e' ik (bk h1 (bk h2 (aU (Option.map _) h3))) ?_;rw[dm,h4];cases e with
  |true=>rfl
  |false=>
   show(if c==92 then [] else _)++fB (i+1) (c==92) r=(if c==92 then fB (i+1) true r else _::fB (i+1) false r);cases c==92<;>rfl
noncomputable def Mf:List Stmt->Stmt
 |_::_::s::_=>s|_=>.Pass default
theorem jrd:Runs Hf (λl=>if l.all isScalar then Ls pF 10 ["addr"] Cz (defOf bj 3).2.1 l else none):=by
 intro l p h;refine aH (iM h) λs hs h=>?_;cases h;rw[Cw hs];refine⟨rfl,?_⟩;show Ls pF 10 ["addr"] Cz (defOf bj 3).2.1 [.str s]=_;have key:=jlp (body:=λη=>mX (mY pF 10) η (jC (Mf (defOf bj 3).2.1))) (tgt:=rI (Mf (defOf bj 3).2.1)) (f:=yX s) (λp e ch i c=>?_) s 0 0 false none (λh=>nomatch h)
 ·refine rn key λout p' e' ik h1 h2=>?_;have hg:GR pF 10 [mk Cz [some (.str s)]] (defOf bj 3).2.1=(Cq (λη=>mX (mY pF 10) η (jC (Mf (defOf bj 3).2.1))) (rI (Mf (defOf bj 3).2.1)) 0 (yX s 0 false none) s).bind λp=>(mX (mY pF 10) p.2 ((defOf bj 3).2.1.drop 3)).map λq=>p.1++q.1:=⋯
  have ha:cH ((["addr"]:List Str).map λx=>PySem.Expr.Name x default) [.str s] [bQ Cz]=some [mk Cz [some (.str s)]]:=⋯
  rw[h1,nD] at hg;unfold Ls;rw[ha,nD,hg,←h2];cases e' with
  |false=>
   rw[show mX (mY pF 10) (yX s p' false ik) ((defOf bj 3).2.1.drop 3)=some ([],yX s p' false ik) by kernel_rfl];simp
  |true=>
   rw[show mX (mY pF 10) (yX s p' true ik) ((defOf bj 3).2.1.drop 3)=some ([.tup [.int p',.str [92]]],yX s p' true ik) by kernel_rfl];simp
 ·refine aW (yX s i e (some (.str [c]))) ⋯ ?_;cases e with
  |true=>kernel_rfl
  |false=>
   by_cases hc:c=92
   ·subst hc;kernel_rfl
   ·have hb:(c==92)=false:=gD.mpr hc;have hb':(([c]:List Nat)==[92])=false:=by simp[hc]
    simp only[hb,kj,jH];exact T7 (jwI (c:=false) (juT (az rfl rfl) rfl rfl) (T7 (jwI (c:=false) (cM rfl (az rfl rfl) (aQ rfl) (eq_str hb')) (T7 ⋯))))
set_option tactic.hygienic false
noncomputable def fs(m:Nat)(b:List Nat):List Nat->List Nat
 |[]=>if m<2 then [] else b
 |c::r=>match m with
  |0=>if c==92 then 92::fs 1 [] r else if c==34 then fs 2 [34] r else c::fs 0 [] r|1=>c::fs 0 [] r|2=>if c==92 then fs 3 (b++[92]) r else if c==34 then fs 0 [] r else fs 2 (b++[c]) r|_=>fs 2 (b++[c]) r
theorem ite_le{c:Prop}[Decidable c]{x y:List Nat}{n:Nat}(h1:x.length<=n)(h2:y.length<=n):(if c then x else y).length<=n:=by
 by_cases h:c
 ·rw[aX h];exact h1
 ·rw[aZ h];exact h2
theorem js3(s:List Nat):∀(m:Nat) (b:List Nat),(fs m b s).length<=b.length+s.length:=by
 induction s with
 |nil=>
  intro m b;show(if m<2 then [] else b).length<=b.length;exact ite_le (jq _) (aN _)
 |cons c r ih=>
  intro m b;have h1:∀m' b',b'.length<=b.length+1->(fs m' b' r).length<=b.length+(r.length+1):=λm' b' h=>aF (ih m' b') (by rw[ud r.length,←rW];exact rY h _);have h0:∀m' x,(x::fs m' [] r).length<=b.length+(r.length+1):=λm' x=>aF (pX (ih m' [])) (by rw[jJ,mC];exact lu _ _);have h2:∀x,(b++[x]).length<=b.length+1:=λx=>by rw[bz];exact aN _
  match m with|0=>exact ite_le (h0 _ _) (ite_le (h1 _ _ (lu _ _)) (h0 _ _))|1=>exact h0 _ _|2=>exact ite_le (h1 _ _ (h2 _)) (ite_le (h1 _ _ (jq _)) (h1 _ _ (h2 _)))|_+3=>exact h1 _ _ (h2 _)
theorem jy0:∀(s:List Nat),s.contains 34=false->fs 0 [] s=s/\fs 1 [] s=s:=λs=>s.rec
  (λZ=>⟨rfl,rfl⟩)
  λc r ih h=>by
  simp only[List.contains_cons,Ag] at h;refine kA (ih h.2) λh1 h2=>?_;have hc:(c==34)=false:=gD.mpr λe=>gD.mp h.1 e.symm;refine⟨?_,aU (c::·) h1⟩;show(if c==92 then 92::fs 1 [] r else if c==34 then fs 2 [34] r else c::fs 0 [] r)=c::r;by_cases h9:c=92
  ·rw[h9,h2];rfl
  ·rw[gD.mpr h9,hc,h1];rfl
def strip(s:List Nat):List Nat:=fs 0 [] s
noncomputable def jD(s:List Nat):Bool:=decide (s.length<=10000)
def yZ:PF:=λl=>(txt l).bind λs=>if jD s then some (.str (strip s)) else none
theorem za{S:Sp}{n:Nat}{η aq:ME}{x:Str}{xp ap pos p2:Pos}{a:PE}{l:LV}{v:PV}(hc:(ap.endLine==pos.line&& !(x==("__debug__":Str)))=true)(hl:look x η=some (.own l))(ha:aG S n η a=some v)(hv:v.plain=true)(hk:aL (l.length+1)=true)(hs:bM x (.own (l++[v])) η=some aq):
  bh S (n+1) η (.Expr (.Call (.Attribute (.Name x xp) "append" ap) [a] [] pos) p2)=some (.next,aq):=by
 show(if !(ap.endLine==pos.line&& !(x==("__debug__":Str))) then .none else(ownAt x η).bind λl=>(aG S n η a).bind λv=>if v.plain&&aL (l.length+1) then(bM x (.own (l++[v])) η).map iT else .none)=_;refine jY (by rw[hc];rfl) (bk (bk hl rfl) (bk ha (bN (by rw[hv,hk];rfl) ?_)));rw[hs];rfl
theorem zb(i n:Nat):jw (i:Int) n=min i n:=by
 unfold jw;rw[aZ (Ai.mpr (oJ i))];rcases Nat.le_total i n with h|h
 ·rw[pR h,Ji (qZ.mpr h),Et (oJ i)];rfl
 ·rw[Ov h,Int.min_eq_right (qZ.mpr h),Et (oJ n)];rfl
theorem T8{s:List Nat}{a b:Nat}(h:aL s.length=true)(ha:a<=b)(hb:b<=s.length):gm (.str s) (some (a:Int)) (some (b:Int))=some (.str ((s.take b).drop a)):=by
 unfold gm fX;simp only[h,gZ,zb];rw[pR hb,pR (aF ha hb)]
theorem jhg{s:List Nat}{a:Nat}(h:aL s.length=true)(ha:a<=s.length):gm (.str s) (some (a:Int)) none=some (.str (s.drop a)):=by
 unfold gm fX;simp only[h,gZ,zb];rw[pR ha,zX]
theorem jg2(l:LV):∀(x y:List Nat),gn [] l=some x->gn [] (l++[.str y])=some (x++y):=by
 induction l with
 |nil=>intro x y h;cases h;rfl
 |cons a l ih=>
  intro x y h;rw[Sy] at h;refine aM h ?_;clear h;intro w hw h;rw[vg,Sy];refine bk hw ?_;cases l with
  |nil=>
   cases h;show some (x++[]++y)=_;rw[fV]
  |cons b r=>
   refine eY x (iM (show(gn [] (b::r)).map (w++[]++·)=some x from h)) λz hz=>?_;show(gn [] (b::r++[.str y])).map (w++[]++·)=_;rw[ih z y hz];exact aU some (dm _ _ _).symm
theorem ne_int(h:(!(a==b))=c):gk .NotEq (.int a) (.int b)=some c:=by
 rw[J1 rfl];exact aU (λb=>some !b) (uf) |>.trans (aU some h)
theorem lt_int(h:decide (a<b)=c):gk .Lt (.int a) (.int b)=some c:=by
 subst h;rfl
section
noncomputable def opP:Option Nat->PV
 |none=>.none|some o=>.int o
structure Mg(body:ME->Option (Out×ME))(tgt:PE)(f:Nat->Option Nat->LV->OV->OV->ME)(s:List Nat):Prop where
 tgt:∀st op res po ch (p:Int) u,d8 tgt (.tup [.int p,.str u]) (f st op res po ch)=some (f st op res (some (.int p)) (some (.str u)))
 other:∀st op res (p:Int) u,(u==[34])=false->body (f st op res (some (.int p)) (some (.str u)))=some (.next,f st op res (some (.int p)) (some (.str u)))
 opens:∀st res (p:Nat),body (f st none res (some (.int p)) (some (.str [34])))=some (.next,f st (some p) res (some (.int p)) (some (.str [34])))
 shuts:∀st o res (p:Nat),st<=o->o<=s.length->aL (res.length+1)=true->body (f st (some o) res (some (.int p)) (some (.str [34])))=some (.next,f (p+1) none (if st=o then res else res++[.str ((s.take o).drop st)]) (some (.int p)) (some (.str [34])))
theorem jeC(l:List α)(h:a<=o)(ho:o<=l.length):l.drop a=(l.take o).drop a++l.drop o:=by
 conv=>lhs;rw[←DP o l]
 exact Jm (by rw[sH,pR ho];exact h)
inductive SI(pre:List Nat)(st:Nat)(O1 O:List Nat):Nat->List Nat->Option Nat->Prop
 |Ay:st<=pre.length->O1++pre.drop st=O->SI pre st O1 O 0 [] none
 |Qj:st<=pre.length->O1++pre.drop st=O->SI pre st O1 O 1 [] none
 |Ig (o:Nat):st<=o->o<pre.length->O1++(pre.take o).drop st=O->SI pre st O1 O 2 (pre.drop o) (some o)
 |VP (o:Nat):st<=o->o<pre.length->O1++(pre.take o).drop st=O->SI pre st O1 O 3 (pre.drop o) (some o)
def SR(f:Nat->Option Nat->LV->OV->OV->ME)(s:List Nat)(q:Option (Out×ME))(F:List Nat):Prop:=
 ∃st' op' lF nu ik Oa,q=some (.next,f st' op' lF nu ik)/\gn [] lF=some Oa/\Oa++s.drop st'=F/\lF.length<=s.length/\st'<=s.length
theorem SI.fin{pre:List Nat}{st m:Nat}{O1 O buf:List Nat}{op:Option Nat}(x:SI pre st O1 O m buf op):O1++pre.drop st=O++fs m buf []/\st<=pre.length:=by
 cases x with|Ay a b=>exact⟨b.trans (fV O).symm,a⟩|Qj a b=>exact⟨b.trans (fV O).symm,a⟩|Ig o a b c=>exact⟨by rw[jeC pre a (fL b),←dm,c];rfl,aF a (fL b)⟩|VP o a b c=>exact⟨by rw[jeC pre a (fL b),←dm,c];rfl,aF a (fL b)⟩
theorem jpb{pre:List Nat}{st:Nat}{O1 O:List Nat}(c:Nat)(a:st<=pre.length)(b:O1++pre.drop st=O):st<=(pre++[c]).length/\O1++(pre++[c]).drop st=O++[c]:=
 ⟨by rw[bz];exact wQ a,by rw[Jm a,←dm,b]⟩
theorem js6{pre:List Nat}{st o:Nat}{O1 O:List Nat}(c:Nat)(b:o<pre.length)(e:O1++(pre.take o).drop st=O):o<(pre++[c]).length/\O1++((pre++[c]).take o).drop st=O/\pre.drop o++[c]=(pre++[c]).drop o:=
 ⟨by rw[bz];exact rZ b,by rw[Oi (fL b),e],(Jm (fL b)).symm⟩
theorem Mh(ha:d8 tgt x η=some aD)(hb:body aD=some (.next,cN)):dD body tgt η (x::r)=dD body tgt cN r:=bk ha (bk hb rfl)
theorem strip_nil(B:Mg body tgt f s){m:Nat}{buf:List Nat}{st:Nat}{op:Option Nat}{res:LV}{po ch:OV}{O O1:List Nat}(hr:res.length<=s.length)(hj:gn [] res=some O1)(x:SI s st O1 O m buf op):
  SR f s (dD body tgt (f st op res po ch) (fB s.length (m==1||m==3) [])) (O++fs m buf []):=by
 cases m==1||m==3 with|false=>exact QC st op res po ch O1 rfl hj x.fin.1 hr x.fin.2|true=>exact QC st op res _ _ O1 (Mh (B.tgt ..) (B.other _ _ _ _ _ ∅)) hj x.fin.1 hr x.fin.2
theorem jm2(B:Mg body tgt f s)(hl:s.length<=10000){pre r:List Nat}{st o:Nat}{res:LV}{po ch:OV}{O O1:List Nat}(hs:s=pre++r)(hr:res.length<=pre.length)(hj:gn [] res=some O1)(a:st<=o)(b:o<pre.length)(e:O1++(pre.take o).drop st=O){items:LV}:
  ∃lF,lF.length<=pre.length+1/\gn [] lF=some O/\dD body tgt (f st (some o) res po ch) (.tup [.int pre.length,.str [34]]::items)=dD body tgt (f (pre.length+1) none lF (some (.int pre.length)) (some (.str [34]))) items:=by
 have hps:pre.length<=s.length:=by rw[hs,bz];exact je _ _
 have hts:s.take o=pre.take o:=by rw[hs];exact Oi (fL b)
 refine cG (if st=o then res else res++[.str ((s.take o).drop st)]) ?_ ?_ (Mh (B.tgt ..) (B.shuts _ _ _ _ a (aF (fL b) hps) (b8 (aF (pX (aF hr (aF hps hl))) ∅))))
 ·by_cases c:st=o
  ·rw[aX c];exact wQ hr
  ·rw[aZ c,bz];exact pX hr
 ·by_cases c:st=o
  ·rw[aX c,hj,←e,c,List.drop_eq_nil_of_le (by rw[sH];exact Nat.min_le_left ..),fV]
  ·rw[aZ c,jg2 _ _ _ hj,hts,e]
theorem jm1(B:Mg body tgt f s)(hl:s.length<=10000)(r:List Nat):∀(pre:List Nat) (m:Nat) (buf:List Nat) (st:Nat) (op:Option Nat) (res:LV) (po ch:OV) (O O1:List Nat),s=pre++r->res.length<=pre.length->gn [] res=some O1->SI pre st O1 O m buf op->
  SR f s (dD body tgt (f st op res po ch) (fB pre.length (m==1||m==3) r)) (O++fs m buf r):=by
 induction r with
 |nil=>
  intro pre m buf st op res po ch O O1 hs hr hj x;rw[fV] at hs;subst hs;exact strip_nil B hr hj x
 |cons c r ih=>
  intro pre m buf st op res po ch O O1 hs hr hj x;have hlen:(pre++[c]).length=pre.length+1:=bz;have ih:=λm buf st op res po ch O O1=>ih (pre++[c]) m buf st op res po ch O O1 (by rw[hs,dm];rfl);rw[hlen] at ih;have hr1:=wQ hr;have oth:∀{st op res po ch u items},(u==[34])=false->dD body tgt (f st op res po ch) (.tup [.int pre.length,.str u]::items)=dD body tgt (f st op res (some (.int pre.length)) (some (.str u))) items:=λhu=>Mh (B.tgt ..) (B.other _ _ _ _ _ hu);have e1:∀{q},(c==92)=q->fB pre.length false (c::r)=if q then fB (pre.length+1) true r else .tup [.int pre.length,.str [c]]::fB (pre.length+1) false r:=λh=>h▸rfl
  have hu:∀{x:Nat},(x==34)=false->([x]==[34])=false:=λ{x} h=>by show(x==34&&true)=false;rw[h];rfl
  cases x with
  |Ay a b=>
   refine kA (jpb c a b) λa1 b1=>?_;show SR f s (dD body tgt _ (fB pre.length false (c::r))) (O++if c==92 then 92::fs 1 [] r else if c==34 then fs 2 [34] r else c::fs 0 [] r);cases h9:c==92 with
   |true=>
    rw[e1 h9];have:=ih 1 [] st none res po ch (O++[c]) O1 hr1 hj (.Qj a1 b1);rw[dm,bO.mp h9] at this;exact this
   |false=>
    rw[e1 h9];cases h3:c==34 with
    |true=>
     have e3:=bO.mp h3;have:=ih 2 _ st (some pre.length) res (some (.int pre.length)) (some (.str [34])) O O1 hr1 hj (.Ig pre.length a (by rw[hlen];exact jo _) (by rw[Oi (aN _),zX,b]));rw[Jm (aN _),Pu,e3] at this;rw[e3];show SR f s (dD body tgt _ (_::_)) _;rw[Mh (B.tgt ..) (B.opens ..)];exact this
    |false=>
     have:=ih 0 [] st none res (some (.int pre.length)) (some (.str [c])) (O++[c]) O1 hr1 hj (.Ay a1 b1);rw[dm] at this;show SR f s (dD body tgt _ (_::_)) _;rw[oth (hu h3)];exact this
  |Qj a b=>
   refine kA (jpb c a b) λa1 b1=>?_;have:=ih 0 [] st none res (some (.int pre.length)) (some (.str [92,c])) (O++[c]) O1 hr1 hj (.Ay a1 b1);rw[dm] at this;show SR f s (dD body tgt _ (.tup [.int pre.length,.str [92,c]]::fB (pre.length+1) false r)) (O++(c::fs 0 [] r));rw[oth rfl];exact this
  |Ig o a b e=>
   refine cD (js6 c b e) λb1 e2 d=>?_;show SR f s (dD body tgt _ (fB pre.length false (c::r))) (O++if c==92 then fs 3 (pre.drop o++[92]) r else if c==34 then fs 0 [] r else fs 2 (pre.drop o++[c]) r);cases h9:c==92 with
   |true=>
    rw[e1 h9];have:=ih 3 _ st (some o) res po ch O O1 hr1 hj (.VP o a b1 e2);rw[←d,bO.mp h9] at this;exact this
   |false=>
    rw[e1 h9];cases h3:c==34 with
    |true=>
     refine eO (jm2 B hl (po:=po) (ch:=ch) (items:=fB (pre.length+1) false r) hs hr hj a b e) λlF q1 q2 q3=>?_;rw[bO.mp h3];show SR f s (dD body tgt _ (_::_)) _;rw[q3];exact ih 0 [] (pre.length+1) none lF _ _ O O q1 q2 (.Ay (fH hlen.symm) (by rw[←hlen,Pu,fV]))
    |false=>
     have:=ih 2 _ st (some o) res (some (.int pre.length)) (some (.str [c])) O O1 hr1 hj (.Ig o a b1 e2);rw[←d] at this;show SR f s (dD body tgt _ (_::_)) _;rw[oth (hu h3)];exact this
  |VP o a b e=>
   refine cD (js6 c b e) λb1 e2 d=>?_;have:=ih 2 _ st (some o) res (some (.int pre.length)) (some (.str [92,c])) O O1 hr1 hj (.Ig o a b1 e2);rw[←d] at this;show SR f s (dD body tgt _ (.tup [.int pre.length,.str [92,c]]::fB (pre.length+1) false r)) (O++fs 2 (pre.drop o++[c]) r);rw[oth rfl];exact this
end
set_option tactic.hygienic true
abbrev spS:Sp:=lU [("_iter_escaped_chars",Hf)] ["result"] true
abbrev CG:Scope:=(defOf bj 4).2.2
abbrev zc(s:List Nat)(st:Nat)(op:Option Nat)(res:LV)(po ch:OV):ME:=[mk CG [some (.str s),some (.int st),some (opP op),some (.own res),po,ch]]
theorem jm0(s:List Nat)(hl:s.length<=10000):Mg (λη=>dK (bh spS 11) η (jC (cA (defOf bj 4).2.1 4))) (rI (cA (defOf bj 4).2.1 4)) (zc s) s where
 tgt:=λst op res po ch p u=>⋯
 other:=λst op res p u hu=>bu (eZ (c:=false) (cM rfl (az rfl rfl) (aQ rfl) (eq_str hu)) dz) dz
 opens:=λst res p=>⋯
 shuts:=λst o res p h1 h2 h3=>by
  have hk:aL s.length=true:=by unfold aL;simp only[iw];lia
  have hsl:=T8 (s:=s) hk h1 h2;refine bu (aD:=zc s (p+1) none (if st=o then res else res++[.str ((s.take o).drop st)]) (some (.int p)) (some (.str [34]))) ?_ dz;refine eZ (c:=true) (cM rfl (az rfl rfl) (aQ rfl) (eq_str rfl)) ?_;refine bu (aD:=zc s (p+1) none (if st=o then res else res++[.str ((s.take o).drop st)]) (some (.int p)) (some (.str [34]))) ?_ dz;refine eZ (c:=false) (cM rfl (az rfl rfl) (aQ rfl) rfl) ?_;refine bu (aD:=zc s st (some o) (if st=o then res else res++[.str ((s.take o).drop st)]) (some (.int p)) (some (.str [34]))) ?_ ⋯;by_cases e:st=o
  ·rw[aX e];refine eZ (c:=false) (cM rfl (az rfl rfl) (az rfl rfl) (ne_int (by subst e;simp))) dz
  ·rw[aZ e];refine eZ (c:=true) (cM rfl (az rfl rfl) (az rfl rfl) (ne_int (by
    rw[qY,gD];exact λh=>e (Int.ofNat_inj.mp h)))) ?_
   exact bu (za rfl rfl (jL (az rfl rfl) (gU (az rfl rfl)) (gU (az rfl rfl)) hsl) rfl h3 ⋯) dz
theorem notIn_str(h:(!y.contains c)=b):gk .NotIn (.str [c]) (.str y)=some b:=by
 subst h;rfl
theorem jrF(h:gn sep l=some x)(hs:aL sep.length=true)(hx:aL x.length=true):nU 140 145 "join" (.str sep) [.own l]=some (.str x):=by
 show(if aL sep.length then((PV.own l).items?.bind (gn sep)).bind lH else none)=_;rw[aX hs];show(gn sep l).bind lH=_;rw[h,nD,lH,aX hx]
theorem jm3:Runs yZ (iU spS 12 ["addr"] CG (defOf bj 4).2.1):=by
 intro l p h;refine aH (bx h) λs hs h=>?_;refine kA (dq h) λhl h=>?_;cases h;rw[Cw hs];refine⟨rfl,?_⟩;unfold jD at hl;simp only[iw] at hl;cases hc:s.contains 34 with
 |false=>
  have:strip s=s:=(jy0 s hc).1;rw[this];exact jM (η:=[mk CG [some (.str s)]]) ⋯ (gK (eZ (c:=true) (cM rfl (aQ rfl) (az rfl rfl) (notIn_str (aU (!·) hc))) (gK (j0 rfl (az rfl rfl) rfl))))
 |true=>
  refine Fd (jm1 (jm0 s hl) hl s [] 0 [] 0 none [] none none [] [] rfl (aN _) rfl (.Ay (aN _) rfl)) λst' op' lF nu ik Oa h1 h2 h3 h4 h5=>?_;have hk:aL s.length=true:=by unfold aL;simp only[iw];lia
  refine jM (η:=[mk CG [some (.str s)]]) (aq:=zc s st' op' (if st'<s.length then lF++[.str (s.drop st')] else lF) nu ik) ⋯ (bu (eZ (c:=false) (cM rfl (aQ rfl) (az rfl rfl) (notIn_str (aU (!·) hc))) dz) (bu (aD:=[mk CG [some (.str s),some (.int 0)]]) ⋯ (bu (aD:=[mk CG [some (.str s),some (.int 0),some .none]]) ⋯ (bu (aD:=zc s 0 none [] none none) ⋯
   (bu (uJ rfl (d9 rfl rfl rfl (aK (az rfl rfl) aO) rfl rfl) rfl h1) ?_)))))
  ·refine bu (aD:=zc s st' op' (if st'<s.length then lF++[.str (s.drop st')] else lF) nu ik) ?_ ?_
   ·by_cases e:st'<s.length
    ·rw[aX e];refine eZ (c:=true) (cM rfl (az rfl rfl) (dN rfl rfl rfl rfl (aK (az rfl rfl) aO) (by show(if aL s.length then some (PV.int s.length) else none)=_;rw[hk];rfl)) (lt_int (by simpa using e))) ?_;exact bu (za rfl rfl (jL (az rfl rfl) (gU (az rfl rfl)) oZ (jhg hk h5)) rfl (by unfold aL;simp only[iw];lia) ⋯) dz
    ·rw[aZ e];exact eZ (c:=false) (cM rfl (az rfl rfl) (dN rfl rfl rfl rfl (aK (az rfl rfl) aO) (by show(if aL s.length then some (PV.int s.length) else none)=_;rw[hk];rfl)) (lt_int (by simpa using e))) dz
   ·have hj:gn [] (if st'<s.length then lF++[.str (s.drop st')] else lF)=some (strip s):=by
     have h3:Oa++s.drop st'=strip s:=h3;by_cases e:st'<s.length
     ·rw[aX e,jg2 _ _ _ h2,h3]
     ·rw[aZ e,h2,←h3,Ew (by lia),fV]
    have hlen:aL (strip s).length=true:=by
     have:=js3 s 0 [];simp only[jJ] at this;unfold aL strip;simp only[iw];lia
    exact gK (j0 rfl (gA rfl (aQ rfl) (aK (az rfl rfl) aO) (jrF hj rfl hlen)) rfl)
set_option tactic.hygienic false
set_option tactic.hygienic true
noncomputable def raw(e:Bool)(k:Nat):List Nat->Bool
 |[]=>k==0|c::r=>if e then raw false k r else if c==92 then raw true k r else if c==40 then raw false (k+1) r else if c==41 then(if k==0 then false else raw false (k-1) r) else raw false k r
def check(s:List Nat):Bool:=raw false 0 (strip s)
def v8:PF:=λl=>(txt l).bind λs=>if jD s then some (.bool (check s)) else none
theorem jwt{S:Sp}{n:Nat}{η aq:ME}{x:Str}{xp pos:Pos}{e:PE}{i j:Int}(hl:look x η=some (.int i))(he:aG S n η e=some (.int j))(hs:bM x (.int (i-j)) η=some aq):bh S (n+1) η (.AugAssign (.Name x xp) .Sub e pos)=some (.next,aq):=by
 refine bk hl (bk he ?_);show(bM x (.int (i-j)) η).map iT=_;rw[hs];rfl
abbrev spK:Sp:=lU [("_iter_escaped_chars",Hf),("_strip_quoted_realnames",yZ)] [] true
abbrev zf:Scope:=(defOf bj 5).2.2
abbrev CJ(s:List Nat)(k:Nat)(po ch:OV):ME:=[mk zf [some (.str s),some (.int k),po,ch]]
structure jsG(body:ME->Option (Out×ME))(tgt:PE)(f:Nat->OV->OV->ME):Prop where
 tgt:∀k po ch (p:Int) u,d8 tgt (.tup [.int p,.str u]) (f k po ch)=some (f k (some (.int p)) (some (.str u)))
 other:∀k (p:Int) u,(u==[40])=false->(u==[41])=false->body (f k (some (.int p)) (some (.str u)))=some (.next,f k (some (.int p)) (some (.str u)))
 up:∀k (p:Int),body (f k (some (.int p)) (some (.str [40])))=some (.next,f (k+1) (some (.int p)) (some (.str [40])))
 down:∀k (p:Int),body (f (k+1) (some (.int p)) (some (.str [41])))=some (.next,f k (some (.int p)) (some (.str [41])))
 dead:∀(p:Int),∃aq,body (f 0 (some (.int p)) (some (.str [41])))=some (.ret (.bool false),aq)
theorem jl7(B:jsG body tgt f):∀(r:List Nat) (i:Nat) (e:Bool) (k:Nat) (po ch:OV),
  (∃k' nu ik,dD body tgt (f k po ch) (fB i e r)=some (.next,f k' nu ik)/\raw e k r=(k'==0))\/(∃aq,dD body tgt (f k po ch) (fB i e r)=some (.ret (.bool false),aq)/\raw e k r=false):=λr=>r.rec
  (λi e k po ch=>by
  cases e with
  |false=>exact .inl (jU k po ch rfl rfl)
  |true=>exact .inl (jU k _ _ (pD (B.tgt ..) (B.other _ _ _ ∅ ∅) rfl) rfl))
  λc r ih i e k po ch=>by
  have step:∀(u:List Nat) k e',(u==[40])=false->(u==[41])=false->raw e k (c::r)=raw e' k r->(fB i e (c::r))=.tup [.int i,.str u]::fB (i+1) e' r->
    (∃k' nu ik,dD body tgt (f k po ch) (fB i e (c::r))=some (.next,f k' nu ik)/\raw e k (c::r)=(k'==0))\/(∃aq,dD body tgt (f k po ch) (fB i e (c::r))=some (.ret (.bool false),aq)/\raw e k (c::r)=false):=λu k e' h1 h2 h3 h4=>by
   rw[h4,h3];rcases ih (i+1) e' k (some (.int i)) (some (.str u)) with ⟨k',nu,ik,q1,q2⟩|⟨aq,q1,q2⟩
   ·exact .inl (jU k' nu ik (pD (B.tgt ..) (B.other _ _ _ h1 h2) q1) q2)
   ·exact .inr (aW aq (pD (B.tgt ..) (B.other _ _ _ h1 h2) q1) q2)
  cases e with
  |true=>exact step [92,c] k false (by simp) (by simp) rfl rfl
  |false=>
   by_cases h9:c=92
   ·subst h9;exact ih (i+1) true k po ch
   have hb9:(c==92)=false:=gD.mpr h9;have he:fB i false (c::r)=.tup [.int i,.str [c]]::fB (i+1) false r:=by
    show(if c==92 then _ else _)=_;rw[hb9];rfl
   by_cases h4:c=40
   ·subst h4;rw[he,show raw false k (40::r)=raw false (k+1) r from rfl];rcases ih (i+1) false (k+1) (some (.int i)) (some (.str [40])) with ⟨k',nu,ik,q1,q2⟩|⟨aq,q1,q2⟩
    ·exact .inl (jU k' nu ik (pD (B.tgt ..) (B.up ..) q1) q2)
    ·exact .inr (aW aq (pD (B.tgt ..) (B.up ..) q1) q2)
   have hb4:(c==40)=false:=gD.mpr h4;by_cases h5:c=41
   ·subst h5;rw[he];cases k with
    |zero=>
     refine kE (B.dead i) λaq q=>?_;exact .inr (aW aq (jwZ (B.tgt ..) q) rfl)
    |succ k=>
     rw[show raw false (k+1) (41::r)=raw false k r from rfl];rcases ih (i+1) false k (some (.int i)) (some (.str [41])) with ⟨k',nu,ik,q1,q2⟩|⟨aq,q1,q2⟩
     ·exact .inl (jU k' nu ik (pD (B.tgt ..) (B.down ..) q1) q2)
     ·exact .inr (aW aq (pD (B.tgt ..) (B.down ..) q1) q2)
   have VF:(c==41)=false:=gD.mpr h5;exact step [c] k false (by simp[h4]) (by simp[h5]) (by show(if c==92 then _ else if c==40 then _ else if c==41 then _ else _)=_;rw[hb9,hb4,VF];rfl) he
theorem jl6(s:List Nat):jsG (λη=>dK (bh spK 11) η (jC (cA (defOf bj 5).2.1 2))) (rI (cA (defOf bj 5).2.1 2)) (CJ s) where
 tgt:=λk po ch p u=>⋯
 other:=λk p u h1 h2=>bu (eZ (c:=false) (cM rfl (az rfl rfl) (aQ rfl) (eq_str h1)) (bu (eZ (c:=false) (cM rfl (az rfl rfl) (aQ rfl) (eq_str h2)) dz) dz)) dz
 up:=λk p=>⋯
 down:=λk p=>by
  have hi:((k+1:Nat):Int)-1=(k:Int):=by lia
  refine bu (aD:=CJ s k (some (.int p)) (some (.str [41]))) (eZ (c:=false) (cM rfl (az rfl rfl) (aQ rfl) (eq_str rfl)) (bu (aD:=CJ s k (some (.int p)) (some (.str [41]))) (eZ (c:=true) (cM rfl (az rfl rfl) (aQ rfl) (eq_str rfl))
   (bu (aD:=CJ s k (some (.int p)) (some (.str [41]))) (jwt (i:=((k+1:Nat):Int)) (j:=1) rfl rfl (by rw[hi];kernel_rfl)) (bu (eZ (c:=false) (cM rfl (az rfl rfl) (aQ rfl) (lt_int (by simp))) dz) dz))) dz)) dz
 dead:=λp=>⟨_,by
  refine gK (aD:=[mk zf [some (.str s),some (.int (-1)),some (.int p),some (.str [41])]]) ?_;kernel_rfl⟩
theorem v9(h:(a==b)=c):gk .Eq (.int a) (.int b)=some c:=by
 rw[QM rfl];exact(aU some uf).trans (aU some h)
theorem jl8:Runs v8 (iU spK 12 ["addr"] zf (defOf bj 5).2.1):=by
 intro l p h;refine aM h ?_;clear h;intro s hs h;refine cY h ?_;clear h;intro hl h;cases h;rw[Cw hs];refine⟨rfl,?_⟩;have hst:yZ [.str s]=some (.str (strip s)):=aX hl;rcases jl7 (jl6 (strip s)) (strip s) 0 false 0 none none with ⟨k',nu,ik,q1,q2⟩|⟨aq,q1,q2⟩
 ·refine jM (η:=[mk zf [some (.str s)]]) ⋯ (bu (aD:=[mk zf [some (.str (strip s))]]) (fD rfl (d9 rfl rfl rfl (aK (az rfl rfl) aO) rfl hst) rfl ⋯) (bu (aD:=CJ (strip s) 0 none none) ⋯
   (bu (uJ rfl (d9 rfl rfl rfl (aK (az rfl rfl) aO) rfl rfl) rfl q1) (gK (j0 rfl (QS rfl (az rfl rfl) (aQ rfl) (v9 ?_)) rfl)))))
  unfold check;rw[q2,qX];simp
 ·have e:check s=false:=q2;rw[e];exact jM (η:=[mk zf [some (.str s)]]) ⋯ (bu (aD:=[mk zf [some (.str (strip s))]]) (fD rfl (d9 rfl rfl rfl (aK (az rfl rfl) aO) rfl hst) rfl ⋯) (bu (aD:=CJ (strip s) 0 none none) ⋯
   (gK (uJ rfl (d9 rfl rfl rfl (aK (az rfl rfl) aO) rfl rfl) rfl q1))))
noncomputable def zg:List Nat:=[40,39,39,44,32,39,39,41]
def told(s:List Nat):List Nat:=if check s then s else zg
def Mi(p:PV):Bool:=p.bV.any jD
noncomputable def strOf(p:PV):List Nat:=p.bV.getD []
def Mj:PF:=λl=>(dF l).bind λp=>p.sJ.bind λl=>if decide (l.length<=1000)&&l.all Mi then some (.lst (l.map λv=>.str (told (strOf v)))) else none
abbrev spV:Sp:=lU [("_check_parenthesis",v8)] ["accepted_values"] false
abbrev T9:Scope:=(defOf bj 6).2.2
abbrev CK(l acc:LV)(v:OV):ME:=[mk T9 [some (.lst l),some (.own acc),v]]
theorem jlM{body:ME->Option (Out×ME)}{f:LV->OV->ME}(hs:∀acc v s,jD s=true->acc.length<=1000->∃aD,d8 tgt (.str s) (f acc v)=some aD/\body aD=some (.next,f (acc++[.str (told s)]) (some (.str (told s))))):
  ∀(r:LV) acc v,r.all Mi=true->acc.length+r.length<=1000->∃v',dD body tgt (f acc v) r=some (.next,f (acc++r.map λv=>.str (told (strOf v))) v')
 |[],acc,v,_,_=>⟨v,aU (λa=>some (Out.next,f a v)) (fV acc).symm⟩
 |x::r,acc,v,h,hk=>by
  simp only[jR,eN] at h;refine kA h λhx hr=>?_;refine aH (ux hx) λs e hx=>?_;rw[PV.fJ e]
  ·rw[dC] at hk;refine aH (hs acc v s hx (by lia)) λaD h1 h2=>?_;refine kE (jlM hs r (acc++[.str (told s)]) (some (.str (told s))) hr (by simp only[bz,dC,jJ];lia)) λv' h3=>?_;refine⟨v',pD h1 h2 ?_⟩;rw[h3];rw[dm];rfl
theorem jse:Runs Mj (iU spV 12 ["email_header_fields"] T9 (defOf bj 6).2.1):=by
 intro l p h;refine aM h ?_;clear h;intro q hq h;refine aM h ?_;clear h;intro l hl' h;refine cY h ?_;clear h;intro hl h;cases h;rw[gQ hq,PV.sy hl'];refine⟨rfl,?_⟩;simp only[eN,iw] at hl;obtain⟨v',hv⟩:=jlM (body:=λη=>dK (bh spV 11) η (jC (cA (defOf bj 6).2.1 1))) (tgt:=rI (cA (defOf bj 6).2.1 1)) (f:=CK l) (λacc v s hs hk=>by
  refine aW (CK l acc (some (.str s))) ⋯ ?_;have hc:v8 [.str s]=some (.bool (check s)):=aX hs;refine bu (aD:=CK l acc (some (.str (told s)))) (eZ (c:= !check s) (QT (J3 (d9 rfl rfl rfl (aK (az rfl rfl) aO) rfl hc) rfl)) ?_) (bu (aD:=CK l (acc++[.str (told s)]) (some (.str (told s)))) (za rfl rfl (az rfl rfl) rfl (by unfold aL;simp only[iw];lia) ⋯) dz);unfold told;cases hq:check s with
  |true=>exact dz
  |false=>kernel_rfl) l [] none hl.2 (by simp only[jJ];lia)
 exact jM (η:=[mk T9 [some (.lst l)]]) (aq:=CK l (l.map λv=>.str (told (strOf v))) v') ⋯ (bu (aD:=CK l [] none) ⋯ (bu (uJ rfl (az rfl rfl) rfl hv) (gK ⋯)))
set_option tactic.hygienic false
abbrev Ml:Scope:=(dw bj 17 9).2.2
noncomputable def CN:List Stmt->PE
 | .Return (some e) _::_=>e|_=>default
theorem rK(ha:a.plain=true)(hb:b.plain=true)(h1:bM x a η=some aD)(h2:bM y b aD=some cN):d8 (.Tuple [.Name x xp,.Name y yp] k pos) (.tup [a,b]) η=some cN:=by
 show(if a.plain then(bM x a η).bind (cH [.Name y yp] [b]) else none)=_;refine bN ha (bk h1 ?_);show(if b.plain then(bM y b aD).bind (cH [] []) else none)=_;exact bN hb (bk h2 rfl)
theorem ji4{step:PV->Option (LV)}(hs:∀k v,v.plain=true->step (.tup [.str k,v])=some [.str k]):
  ∀rows:LV,rows.all (λp=>(lM p).any λq=>q.2.plain)=true->∃ks,mJ step rows=some ks/\LK rows=some ks
 |[],_=>aW ([]) rfl rfl
 |x::r,h=>by
  refine kA (bD (show(((lM x).any λq=>q.2.plain)&&r.all (λp=>(lM p).any λq=>q.2.plain))=true from h)) λhx hr=>?_;refine aH (ji4 hs r hr) λks h1 h2=>?_;refine aH (ux hx) λq h3 h4=>?_;refine aW (.str q.1::ks) (bk (show step x=some [.str q.1] by rw[Bl h3];exact hs _ _ h4) (bk h1 rfl)) (aK (by rw[h3];rfl) h2)
theorem joH:Runs yU (iU nY 12 ["self"] Ml (dw bj 17 9).2.1):=by
 intro l p h;refine aH (bx h) λq h1 h=>?_;refine aH (bx h) λrows h2 h=>?_;refine kA (dq h) λhr h=>?_;refine aH (bx h) λks h3 h=>?_;refine gJ p (uD h) λhk=>?_;rw[gQ h1,PV.sE h2];refine⟨rfl,?_⟩;have hl:=ji4 (step:=qG nY 10 [mk Ml [some (.hdr rows)]] (uK (CN (dw bj 17 9).2.1)) (Hc (CN (dw bj 17 9).2.1)) (Ma (CN (dw bj 17 9).2.1))) (λk v hv=>?_) rows hr
 ·refine aH hl λks' h4 h5=>?_;rw[h3] at h5;cases h5;exact jM (η:=[mk Ml [some (.hdr rows)]]) ⋯ (gK (j0 rfl (Br rfl (QQ rfl rfl rfl) rfl rfl h4 hk) rfl))
 ·refine iZ (aD:=[mk (uK (CN (dw bj 17 9).2.1)) [none,some (.str k),some v],mk Ml [some (.hdr rows)]]) ?_ iC (az rfl rfl) rfl;exact rK rfl hv rfl rfl
abbrev Wd:=List Nat
noncomputable def dG{α:Type}(f:α->Int):List α->Int
 |[]=>0|x::r=>f x+dG f r
theorem Mm(f:α->Int):∀l r:List α,dG f (l++r)=dG f l+dG f r:=λl=>l.rec
  (λZ=>(Aj _).symm)
  λx l ih r=>(aU (f x+·) (ih r)).trans (Ah ..).symm
theorem Ua(f:β->Int)(g:α->List β):∀l:List α,dG f (l.flatMap g)=dG (λx=>dG f (g x)) l:=λl=>l.rec
  rfl
  λx l ih=>(Mm ..).trans (aU (dG f (g x)+·) (ih))
theorem zj(f:β->Int)(g:α->β):∀l:List α,dG f (l.map g)=dG (λx=>f (g x)) l:=λl=>l.rec
  rfl
  λx l ih=>aU (f (g x)+·) (ih)
theorem Mp{a b c d:Int}(h:a=b)(k:c=d):a+c=b+d:=h▸k▸rfl
theorem rM{α:Type}{f g:α->Int}:∀{l:List α},(∀x∈l,f x=g x)->dG f l=dG g l:=λ{l}=>l.rec
  (λZ=>rfl)
  λZ Z ih h=>Mp (h _ (.head _)) (ih λy hy=>h y (.tail _ hy))
theorem Ub(p x y z:Int):p+x+(y+z)=p+y+(x+z):=by rw[Ah,Ah,Int.add_left_comm x]
theorem Mq(f g:α->Int):∀l:List α,dG (λx=>f x+g x) l=dG f l+dG g l:=λl=>l.rec
  rfl
  λx l ih=>(aU (f x+g x+·) (ih)).trans (Ub ..)
theorem zm(c:Int)(f:α->Int):∀l:List α,dG (λx=>c*f x) l=c*dG f l:=λl=>l.rec
  ((Jj c).symm)
  λx l ih=>(aU (c*f x+·) (ih)).trans (Int.mul_add ..).symm
theorem Uc:∀l:List α,dG (λZ=>0) l=0:=λl=>l.rec
  rfl
  λZ l ih=>(Aj _).trans (ih)
theorem Ud(f:α->β->Int):∀(l:List α) (r:List β),dG (λx=>dG (f x) r) l=dG (λy=>dG (λx=>f x y) l) r:=λl=>l.rec
  (λr=>(Uc r).symm)
  λx l ih r=>(aU (dG (f x) r+·) (ih r)).trans (Mq ..).symm
noncomputable def jAw(a:Nat)(u:Wd)(F:Wd->List Wd):Wd->List Wd
 |[]=>[a::u]|b::v=>(F (b::v)).map (a::·)++(jAw a u F v).map (b::·)
def fj:Wd->Wd->List Wd
 |[],v=>[v]|a::u,v=>jAw a u (fj u) v
theorem jr2(v:Wd):fj [] v=[v]:=rfl
theorem jo1(a:Nat)(u:Wd):fj (a::u) []=[a::u]:=rfl
theorem jo0(a b:Nat)(u v:Wd):fj (a::u) (b::v)=(fj u (b::v)).map (a::·)++(fj (a::u) v).map (b::·):=rfl
theorem Mr{P:Wd->Wd->Prop}(h0:∀v,P [] v)(h1:∀a u,P (a::u) [])(h2:∀a b u v,P u (b::v)->P (a::u) v->P (a::u) (b::v))(u:Wd):∀v,P u v:=by
 induction u with
 |nil=>exact h0
 |cons a u ih=>
  intro v;induction v with|nil=>exact h1 a u|cons b v iv=>exact h2 a b u v (ih _) iv
theorem jo2{Q:Wd->Wd->Wd->Prop}(h0:∀v,Q [] v v)(h1:∀a u,Q (a::u) [] (a::u))(h2:∀a b u v m,Q u (b::v) m->Q (a::u) (b::v) (a::m))(h3:∀a b u v m,Q (a::u) v m->Q (a::u) (b::v) (b::m)):∀u v,∀m∈fj u v,Q u v m:=
 Mr (λv Z h=>oG.mp h▸h0 v) (λa u Z h=>oG.mp h▸h1 a u) λa b u v iu iv m h=>(wN.mp h).elim
  (λh=>let ⟨x,hx,e⟩:=gY.mp h;e▸h2 a b u v x (iu x hx)) λh=>let ⟨x,hx,e⟩:=gY.mp h;e▸h3 a b u v x (iv x hx)
theorem Ue:∀u v,∀m∈fj u v,m.length=u.length+v.length:=
 jo2 (λZ=>(mC _).symm) (λZ Z=>rfl) (λZ Z Z Z Z h=>(aU (·+1) h).trans (zY ..)) λZ Z Z Z Z h=>aU (·+1) h
theorem Ug:∀u v:Wd,(fj u v).length<=2 ^ (u.length+v.length):=
 Mr (λZ=>Aa) (λZ Z=>Aa) λa b u v h k=>by
  show(List.map _ _++List.map _ _).length<=2 ^ (u.length+1+v.length)*2;rw[bz,bH,bH,Nat.mul_two];exact ue (aF h (fH (aU (2 ^ ·) (Nat.succ_add_eq_add_succ ..).symm))) k
theorem jup(f:Nat->Nat):∀u v:Wd,fj (u.map f) (v.map f)=(fj u v).map (List.map f):=
 Mr (λZ=>rfl) (λZ Z=>rfl) λa b u v h k=>by
  show(fj (u.map f) ((b::v).map f)).map _++(fj ((a::u).map f) (v.map f)).map _=List.map _ (List.map _ _++List.map _ _);rw[h,k,il,jn,jn,jn,jn];rfl
noncomputable def jAn:Wd->List (Wd×Wd)
 |[]=>[([],[])]|a::u=>([],a::u)::(jAn u).map λp=>(a::p.1,p.2)
def S1(h:Wd->Wd->Int)(u:Wd):Int:=dG (λp=>h p.1 p.2) (jAn u)
theorem uL(h:Wd->Wd->Int):S1 h []=h [] []:=vd _
theorem CP(h:Wd->Wd->Int)(a:Nat)(u:Wd):S1 h (a::u)=h [] (a::u)+S1 (λp q=>h (a::p) q) u:=aU (h [] (a::u)+·) (zj ..)
theorem qH{h h':Wd->Wd->Int}(e:∀p q,h p q=h' p q)(u:Wd):S1 h u=S1 h' u:=rM λp Z=>e p.1 p.2
theorem jsI(h h':Wd->Wd->Int)(u:Wd):S1 (λp q=>h p q+h' p q) u=S1 h u+S1 h' u:=Mq ..
theorem jnk(e:∀p q,h p q=0)(u:Wd):S1 h u=0:=(qH e u).trans (Uc _)
theorem Uh(e:∀a p q,h (a::p) q=0):∀u,S1 h u=h [] u
 |[]=>uL h|a::u=>(CP h a u).trans ((aU (_+·) (jnk (e a) u)).trans (vd _))
theorem jnj:∀(u:Wd) {h:Wd->Wd->Int},(∀p b q,h p (b::q)=0)->S1 h u=h u []
 |[],h,_=>uL h|a::u,h,e=>(CP h a u).trans (by rw[e,Aj];exact jnj u λp=>e (a::p))
def fU(f:Wd->Int)(u v:Wd):Int:=dG f (fj u v)
theorem zq(f:Wd->Int):∀u,fU f u []=f u
 |[]=>vd _|_::_=>vd _
theorem uM(f:Wd->Int)(v:Wd):fU f [] v=f v:=vd _
theorem Ui(f:Wd->Int)(a b:Nat)(u v:Wd):fU f (a::u) (b::v)=fU (λw=>f (a::w)) u (b::v)+fU (λw=>f (b::w)) (a::u) v:=
 (Mm ..).trans (by rw[zj,zj];rfl)
def conv(f g:Wd->Int):Wd->Int:=S1 λp q=>f p*g q
theorem CQ(f g:Wd->Int)(a:Nat)(w:Wd):conv f g (a::w)=f []*g (a::w)+conv (λp=>f (a::p)) g w:=CP ..
theorem jqU(f f' g:Wd->Int)(w:Wd):conv (λp=>f p+f' p) g w=conv f g w+conv f' g w:=(qH (λZ Z=>Int.add_mul ..) w).trans (jsI ..)
def zr(F G:Wd->Wd->Int)(u v:Wd):Int:=S1 (λp q=>conv (F p) (G q) v) u
theorem jl9(f:Wd->Int)(G:Wd->Wd->Int)(a b:Nat)(u v:Wd):
  zr (fU f) G (a::u) (b::v)=f []*G (a::u) (b::v)+zr (fU λw=>f (a::w)) G u (b::v)+zr (fU λw=>f (b::w)) G (a::u) v:=by
 have inner:∀p q:Wd,conv (fU f (a::p)) (G q) (b::v)=conv (fU (λw=>f (a::w)) p) (G q) (b::v)+conv (fU (λw=>f (b::w)) (a::p)) (G q) v:=λp q=>by
  rw[CQ,CQ,zq,zq,Ah,←jqU];exact aU (_+·) (qH (λZ Z=>aU (·*_) (Ui ..)) v)
 have front:conv (fU f []) (G (a::u)) (b::v)=f []*G (a::u) (b::v)+conv (fU (λw=>f (b::w)) []) (G (a::u)) v:=by
  rw[CQ,uM];exact aU (_+·) (qH (λZ Z=>aU (·*_) ((uM ..).trans (uM ..).symm)) v)
 have l:zr (fU f) G (a::u) (b::v)=_:=CP ..;have r:zr (fU λw=>f (b::w)) G (a::u) v=_:=CP ..;rw[l,r,front,qH inner u,jsI];exact Ub ..
theorem jkY:∀(u v:Wd) (f g:Wd->Int),fU (conv f g) u v=zr (fU f) (fU g) u v:=
 Mr (λv f g=>by
  rw[uM];exact((uL _).trans (qH (λp q=>by rw[uM,uM]) v)).symm) (λa u f g=>by
  rw[zq];exact(qH (λp q=>(uL _).trans (by rw[zq,zq])) (a::u)).symm) λa b u v hu hv f g=>by
  have c:∀(x:Nat) (p q:Wd),fU (λw=>conv f g (x::w)) p q=f []*fU (λw=>g (x::w)) p q+fU (conv (λw=>f (x::w)) g) p q:=λx p q=>by
   rw[show(λw=>conv f g (x::w))=_ from funext λw=>CQ f g x w];exact(Mq ..).trans (aU (·+_) (zm ..))
  rw[Ui,c,c,jl9,Ui,hu,hv,Int.mul_add];exact(Ub ..).trans (Ah ..).symm
abbrev Poly:=List (Wd×Int)
noncomputable def iD(u:Wd)(s:Int)(w:Wd):Int:=if u=w then s else 0
def cB(P:Poly)(w:Wd):Int:=dG (λp=>iD p.1 p.2 w) P
noncomputable def jb(P Q:Poly):Poly:=P.flatMap λp=>Q.map λq=>(p.1++q.1,p.2*q.2)
def m5(P Q:Poly):Poly:=jb P Q++P.flatMap λp=>Q.map λq=>(q.1++p.1,0-p.2*q.2)
theorem Hg(u:Wd)(s:Int):iD u s u=s:=aX rfl
theorem qI(h:u≠w):iD u s w=0:=aZ h
theorem jlG(a:Nat)(u:Wd)(s:Int)(p:Wd):iD (a::u) s (a::p)=iD u s p:=by
 by_cases e:u=p
 ·rw[e,Hg,Hg]
 ·rw[qI e,qI λh=>e (sG h).2]
theorem jpa(u:Wd)(s:Int)(w:Wd)(c:Int):iD u (c*s) w=c*iD u s w:=by
 by_cases e:u=w
 ·rw[e,Hg,Hg]
 ·rw[qI e,qI e,Jj]
theorem jqV(s:Int)(v:Wd)(t:Int):∀u w:Wd,conv (iD u s) (iD v t) w=iD (u++v) (s*t) w:=λu=>u.rec
  (λw=>by
  rw[jpa,conv,Uh λa p q=>by rw[qI (vh _ _).symm,xg]];exact aU (·*_) (Hg ..))
  λa u ih=>fun
  |[]=>(uL _).trans (by rw[qI (vh _ _),xg];exact(qI (vh a _)).symm)
  |b::w=>by
    rw[CQ,qI (vh _ _),xg,Aj];by_cases e:a=b
    ·rw[←e,show(λp=>iD (a::u) s (a::p))=iD u s from funext λp=>jlG ..];exact(ih w).trans (jlG ..).symm
    ·rw[conv,jnk λp q=>by rw[qI λh=>e (sG h).1,xg]];exact(qI λh=>e (sG h).1).symm
theorem jp0{α:Type}(f:α->Int)(c:Int)(l:List α):dG (λx=>f x*c) l=dG f l*c:=by
 rw[w7,←zm];exact rM λZ Z=>w7 ..
theorem Uj(A:α->Wd->Int)(g:Wd->Int)(l:List α)(w:Wd):conv (λp=>dG (λx=>A x p) l) g w=dG (λx=>conv (A x) g w) l:=
 (qH (λZ Z=>(jp0 ..).symm) w).trans (Ud ..)
theorem jm4(f:Wd->Int)(A:α->Wd->Int)(l:List α)(w:Wd):conv f (λp=>dG (λx=>A x p) l) w=dG (λx=>conv f (A x) w) l:=
 (qH (λZ Z=>(zm ..).symm) w).trans (Ud ..)
theorem jlc(c:Int)(f g:Wd->Int)(w:Wd):conv (λp=>c*f p) g w=c*conv f g w:=(qH (λZ Z=>Int.mul_assoc ..) w).trans (zm ..)
theorem Uk(P Q:Poly):cB (jb P Q)=conv (cB P) (cB Q):=funext λw=>
 (Ua ..).trans (.trans (rM λx Z=>(zj ..).trans ((rM λy Z=>(jqV x.2 y.1 y.2 x.1 w).symm).trans (jm4 (iD x.1 x.2) (λy=>iD y.1 y.2) Q w).symm)) (Uj (λx=>iD x.1 x.2) (cB Q) P w).symm)
theorem jiJ(P Q:Poly):cB (m5 P Q)=λw=>conv (cB P) (cB Q) w+ -1*conv (cB Q) (cB P) w:=funext λw=>by
 rw[←Uk,←Uk];refine(Mm ..).trans (aU (_+·) ?_);refine((Ua ..).trans (rM λx Z=>zj ..)).trans ((Ud ..).trans (.trans ?_ (aU (-1*·) ((Ua ..).trans (rM λx Z=>zj ..)).symm)));rw[←zm];refine rM λy Z=>(rM λx Z=>?_).trans (zm ..);rw[Int.zero_sub,w7,←Int.neg_one_mul,jpa]
structure uN(f:Wd->Int):Prop where
 nil:f []=0
 two:∀u v,u≠[]->v≠[]->fU f u v=0
theorem jkZ{f:Wd->Int}{u v:Wd}(h:∀w,w.length=u.length+v.length->f w=0):fU f u v=0:=(rM λw hw=>h w (Ue u v w hw)).trans (Uc _)
theorem juW(hu:u≠[])(hv:v≠[]):2<=u.length+v.length:=ue (List.length_pos_iff.mpr hu) (List.length_pos_iff.mpr hv)
theorem jpg(c:Nat):uN (cB [([c],1)]) where
 nil:=rfl
 two:=λu v hu hv=>jkZ λw hw=>(vd _).trans (qI λe=>absurd (juW hu hv) (by rw[←hw,←e];exact(by decide:¬2<=1)))
theorem jgS(G:uN g)(v:Wd):∀(u:Wd) (F:Wd->Wd->Int),zr F (fU g) u v=conv (λw=>F w v) g u+conv (λw=>F u w) g v:=λu=>u.rec
  (λF=>by
  refine(uL _).trans ((qH (λp q=>aU (F [] p*·) (uM g q)) v).trans ?_);rw[show conv (λw=>F w v) g []=0 from(uL _).trans (by rw[G.nil,Jj]),Aj];rfl)
  λa u ih F=>by
  have inner:∀p:Wd,conv (F p) (fU g (a::u)) v=F p v*g (a::u):=λp=>(jnj v λZ b q=>by rw[G.two _ _ (vh _ _) (vh _ _),Jj]).trans (aU (_*·) (zq ..))
  refine(CP ..).trans ?_;rw[inner,CQ,Ah];exact aU (_+·) (ih λw=>F (a::w))
theorem jgR{f g:Wd->Int}(F:uN f)(G:uN g){u v:Wd}(hu:u≠[])(hv:v≠[]):fU (conv f g) u v=f v*g u+f u*g v:=by
 rw[jkY,jgS G];refine Mp ((Uh (λa p q=>?_) u).trans (aU (·*_) (uM ..))) ((Uh (λa p q=>?_) v).trans (aU (·*_) (zq ..)))
 ·exact(aU (·*_) (F.two _ _ (vh _ _) hv)).trans (xg _)
 ·exact(aU (·*_) (F.two _ _ hu (vh _ _))).trans (xg _)
theorem jph{P Q:Poly}(F:uN (cB P))(G:uN (cB Q)):uN (cB (m5 P Q)) where
 nil:=by
  rw[jiJ];show S1 _ []+ -1*S1 _ []=0;rw[uL,uL,F.nil,G.nil];rfl
 two:=λu v hu hv=>by
  rw[jiJ];refine(Mq ..).trans ((Mp (jgR F G hu hv) ((zm ..).trans (aU (-1*·) (jgR G F hu hv)))).trans ?_);rw[w7 (cB Q v),w7 (cB Q u)];lia
def nZ:List Poly->Poly:=λl=>l.foldl jb [([],1)]
noncomputable def bit(d k:Nat):Bool:=d / 2 ^ k % 2==1
theorem Hh(d k:Nat):bit d k=d.testBit k:=Nat.testBit_eq_decide_div_mod_eq.symm
def cz{α:Type}[Inhabited α](T:List α)(d:Nat):List α:=((List.range T.length).filter (bit d)).map λk=>T.getD k default
section
variable[Inhabited α]
theorem jgY(T:List α)(x:α)(d e:Nat)(h:∀k,k<T.length->bit d k=bit e k):cz (T++[x]) d=cz T e++if bit d T.length then [x] else []:=by
 unfold cz;rw[bz,mD,List.range_succ,List.filter_append,il];refine congr (aU HAppend.hAppend ?_) ?_
 ·rw[List.filter_congr λk hk=>h k (uc.mp hk)];exact Ih λk hk=>by rw[g8,g8,Pz (uc.mp (List.mem_filter.mp hk).1)]
 ·rw[Py,List.filter_nil];cases bit d T.length with|true=>exact aU (λy=>[y]) (by show(T++[x]).getD T.length default=x;rw[g8,Ao (aN _),Ec];rfl)|false=>rfl
theorem joo(T:List α)(x:α)(h:d<2 ^ T.length):cz (T++[x]) d=cz T d:=by
 rw[jgY T x d d λZ Z=>rfl,Hh,Nat.testBit_lt_two_pow h];exact fV _
theorem jon(T:List α)(x:α)(h:d<2 ^ T.length):cz (T++[x]) (2 ^ T.length+d)=cz T d++[x]:=by
 rw[jgY T x _ d λk hk=>by rw[Hh,Hh,Nat.testBit_two_pow_add_gt hk],Hh,Nat.testBit_two_pow_add_eq,Nat.testBit_lt_two_pow h];rfl
theorem jlq(T:List α):(List.range T.length).map (λk=>T.getD k default)=T:=by
 refine List.ext_getElem (by rw[bH,Jr]) λk h1 h2=>?_;rw[PJ,List.getElem_range,g8,iy h2];rfl
theorem Ms(T:List α)(d:Nat):(cz T d).Sublist T:=by
 have:=(List.filter_sublist (p:=bit d) (l:=List.range T.length)).map λk=>T.getD k default;rw[jlq] at this;exact this
theorem jq1(uY:α->Poly)(hp:∀x,uN (cB (uY x))):∀(l:List α) (u v:Wd),fU (cB (nZ (l.reverse.map uY))) u v=dG (λd=>cB (nZ ((cz l.reverse d).map uY)) u*cB (nZ ((cz l.reverse (2 ^ l.reverse.length-1-d)).map uY)) v) (List.range (2 ^ l.reverse.length)):=λl=>l.rec
  (λu v=>by
  refine .trans ?_ (vd _).symm;show fU (cB [([],1)]) u v=cB [([],1)] u*cB [([],1)] v;have e:∀w:Wd,cB [([],1)] w=iD [] 1 w:=λw=>vd _;cases u with
  |nil=>rw[uM,e []];exact(Int.one_mul _).symm
  |cons a u=>
   have z:cB [([],1)] (a::u)=0:=rfl;rw[z,xg];exact jkZ λw hw=>(e w).trans (qI λh=>absurd (h▸hw:([]:Wd).length=_) (iI (Nat.add_pos_left (Nat.succ_pos _) _))))
  λx l ih' u v=>by
  have ih:=ih';rw[Oh];generalize l.reverse=T at ih⊢;have step:∀r:List α,cB (nZ ((r++[x]).map uY))=conv (cB (nZ (r.map uY))) (cB (uY x)):=λr=>by
   rw[←Uk,nZ,il,lC];rfl
  have hd:∀d,2 ^ T.length-1-d<2 ^ T.length:=λd=>mz (pW ..) (Nat.sub_lt (Oz _) Nat.one_pos);rw[step,jkY,jgS (hp x),bz,mD,Nat.pow_succ,Nat.mul_two,List.range_add,Mm,zj,Int.add_comm];refine Mp ?_ ?_
  ·rw[show(λw=>fU (cB (nZ (T.map uY))) u w)=_ from funext λw=>ih u w,Uj];refine rM λd hr=>?_;have hr:=uc.mp hr;rw[jlc,←step,joo T x hr,show 2 ^ T.length+2 ^ T.length-1-d=2 ^ T.length+(2 ^ T.length-1-d) by rw[Om (Oz _),Om (Nat.le_sub_one_of_lt hr)],jon T x (hd d)]
  ·rw[show(λw=>fU (cB (nZ (T.map uY))) w v)=_ from funext λw=>ih w v,Uj];refine rM λd hr=>?_;have hr:=uc.mp hr;rw[jon T x hr,step,show 2 ^ T.length+2 ^ T.length-1-(2 ^ T.length+d)=2 ^ T.length-1-d by rw[Om (Oz _),Nat.add_sub_add_left],joo T x (hd d),w7,←jlc];exact qH (λZ Z=>aU (·*_) (w7 ..)) u
end
theorem uO(a b:Nat)(hb:0<b)(hb':b<1073741824):iR .FloorDiv (.int (a:Int)) (.int (b:Int))=some (.int ((a / b:Nat):Int)):=by
 show(if ((b:Int)==0)=true then none else if decide ((b:Int).natAbs<1073741824)=true then some (PV.int (Int.fdiv a b)) else none)=_;rw[aZ (by simp;lia),aX (by simp;exact hb')];rw[V2 _ (by lia),←Pq]
theorem qJ(a b:Nat)(hb:0<b):iR .Mod (.int (a:Int)) (.int (b:Int))=some (.int ((a % b:Nat):Int)):=by
 show(if ((b:Int)==0)=true then none else some (PV.int (Int.fmod a b)))=_;rw[aZ (by simp;lia)];rw[Pk _ (by lia),←Pr]
theorem qK(a b:Nat):iR .Add (.int (a:Int)) (.int (b:Int))=some (.int ((a+b:Nat):Int)):=rfl
theorem CT{α:Type}{l:List α}{i:Nat}{a:α}(h:l[i]?=some a)(hs:i<=1000000000):rz l (i:Int)=some a:=by
 unfold rz;have e1:decide ((i:Int)<0)=false:=wV (by lia);have e2:cX (i:Int)=true:=by
  unfold cX;simp only[eN,iw];lia
 simp only[e1,e2,Bool.not_true,Jb,kj,jH];rw[xf,h]
theorem jow{l:LV}{i:Nat}{a:PV}(h:l[i]?=some a)(hs:i<=1000000000):iz (.tup l) (.int (i:Int))=some a:=CT h hs
theorem lW{l:LV}{i:Nat}{a:PV}(h:l[i]?=some a)(hs:i<=1000000000):iz (.lst l) (.int (i:Int))=some a:=CT h hs
theorem Ul{l:List Nat}{i:Nat}{a:Nat}(h:l[i]?=some a)(hs:i<=1000000000):iz (.str l) (.int (i:Int))=some (.str [a]):=by
 show(rz l (i:Int)).map _=_;rw[CT h hs];rfl
theorem getD_some{α:Type}{l:List α}{i:Nat}(d:α)(h:i<l.length):l[i]?=some (l.getD i d):=by
 rw[g8,iy h,Ef]
theorem j6{α β:Type}(f:α->β){l:List α}{i:Nat}(d:α)(h:i<l.length):(l.map f)[i]?=some (f (l.getD i d)):=by
 rw[uo,getD_some d h,Option.map_some]
noncomputable def Hi:List Nat:=[173,847,6150,6155,6156,6157,8203,8204,8205,8288,65279,65024,65025,65026,65027,65028,65029,65030,65031,65032,65033,65034,65035,65036,65037,65038,65039]
theorem ie(h:aL (x++y).length=true):iR .Add (.str x) (.str y)=some (.str (x++y)):=by
 show lH (x++y)=_;rw[lH,aX h]
theorem jsX{n:Nat}(h:n<=1000000):QK [.int (n:Int)]=some (.str [n]):=by
 show(if decide (0<=(n:Int))&&decide ((n:Int)<=0x10FFFF) then some (PV.str [(n:Int).toNat]) else none)=_;refine bN ?_ rfl;rw[b8 (oJ n),u9];exact b8 (by lia)
section
variable{S:Sp}{n:Nat}{η:ME}
theorem Hj{α:Type}{step:PV->Option (LV)}{f:α->PV}{h:α->LV}:∀xs:List α,(∀x∈xs,step (f x)=some (h x))->mJ step (xs.map f)=some (xs.flatMap h):=λxs=>xs.rec
  (λZ=>rfl)
  λx r ih H=>by
  exact bk (H x (.head _)) (bk (ih λy hy=>H y (.tail _ hy)) rfl)
theorem Hk(h:α->β):∀xs:List α,(xs.flatMap λx=>[h x])=xs.map h:=λxs=>xs.rec
  rfl
  λx r ih=>by rw[uh,ih];rfl
theorem jgW(p:α->Bool)(h:α->β):∀xs:List α,(xs.flatMap λx=>if p x then [h x] else [])=(xs.filter p).map h:=λxs=>xs.rec
  rfl
  λx r ih=>by
  rw[uh,ih,Py];split<;>rfl
theorem lq{α:Type}(xs:List α)(f:α->PV)(h:α->PV)(hc:(gw sc η&&jX g)=true)(ha:aG S n η g.iter=some a)(hi:fQ a=some (xs.map f))(hf:freshT (bQ sc::η) g.target=true)
  (hs:∀x∈xs,qG S n η sc g elt (f x)=some [h x])(hk:aL xs.length=true):aG S (n+1) η (.ListComp elt [g] sc pos)=some (.lst (xs.map h)):=by
 rw[←Hk h xs];refine Br hc ha hi hf (Hj xs hs) ?_;rw[Hk,bH];exact hk
theorem Um{α:Type}(xs:List α)(f:α->PV)(p:α->Bool)(h:α->PV)(hc:(gw sc η&&jX g)=true)(ha:aG S n η g.iter=some a)(hi:fQ a=some (xs.map f))(hf:freshT (bQ sc::η) g.target=true)
  (hs:∀x∈xs,qG S n η sc g elt (f x)=some (if p x then [h x] else []))(hk:aL xs.length=true):aG S (n+1) η (.ListComp elt [g] sc pos)=some (.lst ((xs.filter p).map h)):=by
 rw[←jgW p h xs];refine Br hc ha hi hf (Hj xs hs) ?_;rw[jgW,bH];have:=List.length_filter_le p xs;unfold aL at*;simp only[iw] at*;lia
theorem Un(ha:d8 g.target x (bQ sc::η)=some aD)(ht:jW (bI S n) aD g.ifs=some b)(he:aG S n aD elt=some v)(hv:v.plain=true):
  qG S n η sc g elt x=some (if b then [v] else []):=by
 cases b
 ·exact T5 ha ht
 ·exact iZ ha ht he hv
theorem jrf(hc:(gw sc η&&jX g)=true)(ha:aG S n η g.iter=some a)(hi:fQ a=some items)(hf:freshT (bQ sc::η) g.target=true)
  (hl:mJ (λx=>(d8 g.target x (bQ sc::η)).bind λaD=>(jW (bI S n) aD g.ifs).bind λok=>if ok then((aG S n aD k).bind λa=>(aG S n aD v).bind λb=>some [.tup [a,b]]) else some []) items=some out)(hk:aL out.length=true)(hp:putAll out []=some d):
  aG S (n+1) η (.DictComp k v [g] sc pos)=some (.dct d):=by
 show(if !(gw sc η&&jX g) then .none else((aG S n η g.iter).bind fQ).bind λitems=>(lK (bI S n) (bQ sc::η) g.target g.ifs (λaD=>(aG S n aD k).bind λa=>(aG S n aD v).bind λb=>some [.tup [a,b]]) items).bind λl=>
  if aL l.length then(putAll l []).map PV.dct else .none)=_
 refine jY (by rw[hc];rfl) (bk (bk ha hi) (bk (show lK (bI S n) (bQ sc::η) g.target g.ifs _ items=some out from jY (by rw[hf];rfl) hl) (bN hk ?_)));rw[hp];rfl
theorem jq4{sc:Scope}{g:Comprehension}{k v:PE}{x a b:PV}{aD:ME}(ha:d8 g.target x (bQ sc::η)=some aD)(ht:jW (bI S n) aD g.ifs=some true)(hk:aG S n aD k=some a)(hv:aG S n aD v=some b):
  ((d8 g.target x (bQ sc::η)).bind λaD=>(jW (bI S n) aD g.ifs).bind λok=>if ok then((aG S n aD k).bind λa=>(aG S n aD v).bind λb=>some [PV.tup [a,b]]) else some [])=some [.tup [a,b]]:=by
 simp only[ha,ht,hk,hv,nD,gZ]
end
theorem Mt{a:Nat}(h:a<=1000):cX (a:Int)=true:=by
 unfold cX;rw[b8 (jr ∅ (oJ a)),b8 (jr (qZ.mpr h) ∅)];rfl
theorem ne_str(h:(!(a==b))=c):gk .NotEq (.str a) (.str b)=some c:=by
 rw[J1 rfl,rJ,h]
noncomputable def Hl:Stmt->PE
 | .Assign _ e _=>e|_=>default
section
variable{S:Sp}{n:Nat}{η:ME}
abbrev jxA(S:Sp)(n:Nat)(aD:ME)(g:Comprehension)(elt:PE)(x:PV):Option (LV):=
 (d8 g.target x aD).bind λcN=>(jW (bI S n) cN g.ifs).bind λok=>if ok then Bm (aG S n) elt cN else some []
theorem Uo(ha:d8 g.target x η=some aD)(ht:jW (bI S n) aD g.ifs=some true)(he:aG S n aD elt=some v)(hv:v.plain=true):jxA S n η g elt x=some [v]:=
 bk ha (bk ht (bk he (bN hv rfl)))
theorem Up{α β:Type}(xs:List α)(f:α->PV)(ys:α->List β)(k:α->β->PV)(h:α->β->PV)(aD:α->ME)(a':α->PV)
  (hc:(gw sc η&&jX g&&jX g')=true)(ha:aG S n η g.iter=some a)(hi:fQ a=some (xs.map f))(hf:freshT (bQ sc::η) g.target=true)(hif:g.ifs=[])
  (hs:∀x∈xs,d8 g.target (f x) (bQ sc::η)=some (aD x)/\aG S n (aD x) g'.iter=some (a' x)/\fQ (a' x)=some ((ys x).map (k x))/\freshT (aD x) g'.target=true/\∀y∈ys x,jxA S n (aD x) g' elt (k x y)=some [h x y])
  (hk:aL (xs.flatMap λx=>(ys x).map (h x)).length=true):aG S (n+1) η (.ListComp elt [g,g'] sc pos)=some (.lst (xs.flatMap λx=>(ys x).map (h x))):=by
 show(if !(gw sc η&&jX g&&jX g') then .none else((aG S n η g.iter).bind fQ).bind λitems=>
  (lK (bI S n) (bQ sc::η) g.target g.ifs (λaD=>((aG S n aD g'.iter).bind fQ).bind λitems'=>lK (bI S n) aD g'.target g'.ifs (Bm (aG S n) elt) items') items).bind gj)=_
 refine jY (by rw[hc];rfl) (bk (bk ha hi) (bk (jY (by rw[hf];rfl) (Hj xs λx hx=>?_)) (bN hk rfl)));refine rm (hs x hx) λh1 h2 h3 h4 h5=>?_;refine bk h1 (bk (by rw[hif];rfl) ?_);exact bN rfl (bk (bk h2 h3) (jY (by rw[h4];rfl) (by rw[←Hk (h x)];exact Hj (ys x) h5)))
end
noncomputable def ig(q:List Nat×Int):PV:=.tup [.str q.1,.int q.2]
def bZ(P:Poly):PV:=.lst (P.map ig)
def Uq(p:PV):Option (List Nat×Int):=(lM p).bind λq=>q.2.asInt.map λi=>(q.1,i)
def wi(p:PV):Option Poly:=p.sJ.bind (cF Uq)
theorem jxg(h:Uq p=some q):p=ig q:=by
 refine aH (bx h) λr h1 h=>?_;refine eY q (iM h) λi h2=>?_;rw[Bl h1,PV.nF h2];rfl
theorem Mu{α β:Type}{f:α->Option β}{g:β->α}(hf:∀x y,f x=some y->x=g y):∀{l:List α} {r:List β},cF f l=some r->l=r.map g
 |[],r,h=>by cases h;rfl
 |x::l,r,h=>by
  refine aH (bx h) λy h1 h=>?_;refine aH (bx h) λr' h2 h=>?_;cases h;rw[hf x y h1,Mu hf h2];rfl
theorem Ur{α β:Type}{f:α->Option β}{g:β->α}(hf:∀y,f (g y)=some y):∀r:List β,cF f (r.map g)=some r:=λr=>r.rec
  rfl
  λy r ih=>aK (hf y) (ih)
theorem Us{p:PV}{P:Poly}(h:wi p=some P):p=bZ P:=by
 refine aH (bx h) λl h1 h=>?_;rw[PV.sy h1,Mu (λZ Z=>jxg) h];rfl
theorem Ut(P:Poly):wi (bZ P)=some P:=Ur (f:=Uq) (g:=ig) (λZ=>rfl) P
def jAN(q:List Nat×Int):Bool:=decide (q.1.length<=500)&&cX q.2
def fG(P:Poly):Bool:=decide (P.length<=500)&&P.all jAN
def Hm:PF:=λl=>(kI l).bind λq=>(wi q.1).bind λP=>(wi q.2).bind λQ=>if fG P&&fG Q then some (bZ (m5 P Q)) else none
abbrev wj:Scope:=(defOf bj 20).2.2
abbrev m6:Sp:=lU [] [] false
noncomputable def CV:PE->Scope
 | .ListComp _ _ sc _=>sc|_=>default
noncomputable def jAS:PE->PE
 | .BinOp _ _ b _=>b|_=>default
abbrev eW1:PE:=Hl (cA (defOf bj 20).2.1 0)
abbrev eW2:PE:=jAS (CN [cA (defOf bj 20).2.1 1])
theorem Mw(h:cX s=true):iR .Mult (.int s) (.int t)=some (.int (s*t)):=by
 show(if cX s=true then sV _ else none)=_;rw[aX h];rfl
theorem Uu(n:Nat)(f:α->List β):∀xs:List α,(∀x∈xs,(f x).length=n)->(xs.flatMap f).length=xs.length*n:=λxs=>xs.rec
  (λZ=>by simp)
  λx r ih h=>by
  rw[uh,bz,ih λy hy=>h y (pO _ hy),h x (nA ..),dC,Ed,ud]
theorem zu(h:fG P=true)(hq:q∈P):q.1.length<=500/\cX q.2=true:=by
 have:=cU.mp (bD h).2 q hq;exact⟨dB (bD this).1,(bD this).2⟩
theorem Uv{x y:List Nat}(h:x.length<=500)(k:y.length<=500):aL (x++y).length=true:=bG (aF (jB h k) ∅)
theorem Uw{α:Type}{f:(List Nat×Int)->(List Nat×Int)->α}(h:fG P=true)(k:fG Q=true):(P.flatMap λp=>Q.map (f p)).length<=250000:=by
 rw[Uu Q.length _ P λx Z=>bH ..];exact Ow (dB (bD h).1) (dB (bD k).1)
theorem je9(g:β->γ)(f:α->List β):∀xs:List α,(xs.flatMap f).map g=xs.flatMap λx=>(f x).map g:=λxs=>xs.rec
  rfl
  λx r ih=>by rw[uh,il,ih];rfl
theorem jzQ(P Q:Poly):bZ (m5 P Q)=.lst ((P.flatMap λp=>Q.map λq=>ig (p.1++q.1,p.2*q.2))++(P.flatMap λp=>Q.map λq=>ig (q.1++p.1,0-p.2*q.2))):=by
 simp only[bZ,m5,jb,il,je9,jn];rfl
theorem jjz:Runs Hm (iU m6 14 ["left","right"] wj (defOf bj 20).2.1):=by
 intro l p h;refine aH (bx h) λq h1 h=>?_;refine aH (bx h) λP hP h=>?_;refine aH (bx h) λQ hQ h=>?_;refine kA (dq h) λhk h=>?_;cases h;refine kA (bD hk) λkP kQ=>?_;rw[qx h1,Us hP,Us hQ,jzQ];refine⟨rfl,?_⟩;have l1:(P.flatMap λp=>Q.map λq=>ig (p.1++q.1,p.2*q.2)).length<=250000:=Uw kP kQ;have l2:(P.flatMap λp=>Q.map λq=>ig (q.1++p.1,0-p.2*q.2)).length<=250000:=Uw kP kQ;refine jM (η:=[mk wj [some (bZ P),some (bZ Q)]]) (aq:=[mk wj [some (bZ P),some (bZ Q),some (.lst (P.flatMap λp=>Q.map λq=>ig (p.1++q.1,p.2*q.2)))]]) ⋯ (bu (aD:=[mk wj [some (bZ P),some (bZ Q),some (.lst (P.flatMap λp=>Q.map λq=>ig (p.1++q.1,p.2*q.2)))]]) ?_ (gK (j0 rfl (bA (b:=.lst (P.flatMap λp=>Q.map λq=>ig (q.1++p.1,0-p.2*q.2))) (az rfl rfl) ?_ ?_) rfl)))
 ·refine fD rfl (Up P ig (λZ=>Q) (λZ=>ig) (λp q=>ig (p.1++q.1,p.2*q.2)) (λp=>[mk (CV eW1) [none,some (.str p.1),some (.int p.2)],mk wj [some (bZ P),some (bZ Q)]]) (λZ=>bZ Q) rfl (az rfl rfl) rfl rfl rfl (λp hp=>nM (rK rfl rfl rfl rfl) (az rfl rfl) rfl rfl (λq hq=>?_)) (bG (aF l1 ∅))) rfl rfl;have a:=zu kP hp;have b:=zu kQ hq;exact Uo (aD:=[mk (CV eW1) [none,some (.str p.1),some (.int p.2),some (.str q.1),some (.int q.2)],mk wj [some (bZ P),some (bZ Q)]]) (rK rfl rfl rfl rfl) iC (jZ (aK (bA (az rfl rfl) (az rfl rfl) (ie (Uv a.1 b.1))) (aK (bA (az rfl rfl) (az rfl rfl) (Mw a.2)) aO)) rfl) rfl
 ·refine Up P ig (λZ=>Q) (λZ=>ig) (λp q=>ig (q.1++p.1,0-p.2*q.2)) (λp=>[mk (CV eW2) [none,some (.str p.1),some (.int p.2)],mk wj [some (bZ P),some (bZ Q),some (.lst (P.flatMap λp=>Q.map λq=>ig (p.1++q.1,p.2*q.2)))]]) (λZ=>bZ Q) rfl (az rfl rfl) rfl rfl rfl (λp hp=>nM (rK rfl rfl rfl rfl) (az rfl rfl) rfl rfl (λq hq=>?_)) (bG (aF l2 ∅));have a:=zu kP hp;have b:=zu kQ hq;exact Uo (aD:=[mk (CV eW2) [none,some (.str p.1),some (.int p.2),some (.str q.1),some (.int q.2)],mk wj [some (bZ P),some (bZ Q),some (.lst (P.flatMap λp=>Q.map λq=>ig (p.1++q.1,p.2*q.2)))]]) (rK rfl rfl rfl rfl) iC (jZ (aK (bA (az rfl rfl) (az rfl rfl) (ie (Uv b.1 a.1))) (aK (bA (aQ rfl) (bA (az rfl rfl) (az rfl rfl) (Mw a.2)) rfl) aO)) rfl) rfl
 ·show gj _=_;rw[gj,aX];rw[bz];exact bG (aF (ue l1 l2) ∅)
noncomputable def wk:List Nat:=[102,105,108,115,116]
noncomputable def wu:List Nat:=[8497,8464,8466,383,84]
noncomputable def Mx:List Nat:=[119808,119860,119912,120016,120172,120224,120276,120328,120380,120432]
def dW(x:Nat):Nat:=wk.getD (x % 5) 0
def qL(x:Nat):Nat:=Hi.getD (x / 40 % 27) 0
noncomputable def CW(u:Nat):List (List Nat):=[[],[92,41],[34,40,34],[u],[92,92],[34,92,34,41,34],[92,34],[34,41]++[u]++[34]]
def wy(x:Nat):List Nat:=(CW (qL x)).getD (x / 5 % 8) []
def Hn(c f:Nat):List Nat:=[c,cI c,f]++Mx.map λs=>s+c-97
def rN(x:Nat):Nat:=(Hn (dW x) (wu.getD (x % 5) 0)).getD (x / 1080 % 13) 0
def Ux(x:Nat):PV:=.tup [.str [dW x],.str (wy x++[rN x]),bZ [([dW x],1)]]
def My:PF:=λl=>(dF l).bind λp=>p.asInt.bind λi=>if decide (0<=i)&&decide (i<=10000000) then some (Ux i.toNat) else none
abbrev lr:Scope:=(defOf bj 19).2.2
abbrev zx(i:Nat):Stmt:=cA (defOf bj 19).2.1 i
abbrev vNo:PV:=.lst (Hi.map λi=>.int (i:Nat))
abbrev vSt:PV:=.tup (Mx.map λi=>.int (i:Nat))
theorem ji6:∀i,i<5->97<=wk.getD i 0/\wk.getD i 0<123:=by decide
theorem Uy(x:Nat):97<=dW x:=(ji6 _ (jf _ ∅)).1
theorem Mz(x:Nat):dW x<123:=(ji6 _ (jf _ ∅)).2
theorem jzF:∀i,i<27->Hi.getD i 0<=1000000:=by decide
theorem jzM:∀s∈Mx,s<=200000:=by decide
theorem jos(u:Nat)(i:Nat)(hi:i<8):((CW u).getD i []).length<=5:=by
 have h:((CW u).map List.length).all (λn=>decide (n<=5))=true:=rfl;rw[g8,iy (show i<(CW u).length from hi)];exact dB (cU.mp h _ (gY.mpr (aW _ (qi _) rfl)))
theorem Ho{S:Sp}{n:Nat}{η aD:ME}{x y:Str}{xp yp tp ep pos:Pos}{k k':Nat}{e e':PE}{a b:PV}{sw:Bool}(hm:(([.Name x xp,.Name y yp]:List PySem.Expr).any (vL S))=false)(ha:aG S n η e=some a)(hb:aG S n η e'=some b)
  (hc:(qC [.Name x xp,.Name y yp] η&&([a,b].all PV.plain))=true)(hs:qz [.Name x xp,.Name y yp] [e,e'] η=some sw)(hst:Bo S [.Name x xp,.Name y yp] [e,e'] [a,b] η sw=some aD):
  bh S (n+1) η (.Assign [.Tuple [.Name x xp,.Name y yp] k tp] (.Tuple [e,e'] k' ep) pos)=some (.next,aD):=by
 refine kA (bD hc) λh1 h2=>?_;show(if ([.Name x xp,.Name y yp]:List PySem.Expr).any (vL S) then Fv S (aG S n) η [.Name x xp,.Name y yp] [e,e'] else(cF (aG S n η) [e,e']).bind λvs=>
  if qC [.Name x xp,.Name y yp] η&&vs.length==2&&2==2&&aL vs.length&&vs.all PV.plain then(qz [.Name x xp,.Name y yp] [e,e'] η).bind λsw=>(Bo S [.Name x xp,.Name y yp] [e,e'] vs η sw).map iT else .none)=_
 refine jY hm (bk (aK ha (aK hb aO)) (bN (by rw[h1,h2];rfl) (bk hs ?_)));rw[hst];rfl
section
variable(x:Nat)
noncomputable abbrev f0:List (OV):=[some (.int (x:Nat))]
abbrev f1:List (OV):=f0 x++[some vNo]
abbrev f2:List (OV):=f1 x++[some (.str [qL x])]
abbrev f3:List (OV):=f2 x++[some (.str (wy x))]
abbrev f4:List (OV):=f3 x++[some (.str [dW x]),some vSt]
abbrev f5:List (OV):=f4 x++[some (.lst [.str [dW x],.str [cI (dW x)],.str [wu.getD (x % 5) 0]])]
abbrev f6:List (OV):=f5 x++[some (.str [rN x])]
theorem Uz{S:Sp}{n:Nat}{η:ME}{y:Str}{p1 p2 p3 p4 p5:Pos}{k1 k2 d m:Nat}(hl:look y η=some (.int (x:Nat)))(hd:(y==("__debug__":Str))=false)(h1:0<d)(h2:d<1073741824)(h3:0<m):
  aG S (n+3) η (.BinOp (.BinOp (.Name y p1) .FloorDiv (.Constant (.int d) k1 p2) p3) .Mod (.Constant (.int m) k2 p4) p5)=some (.int ((x / d % m:Nat):Int)):=
 bA (bA (az hl hd) (aQ rfl) (uO x d h1 h2)) (aQ rfl) (qJ (x / d) m h3)
theorem jzs:bh m6 12 [mk lr (f0 x)] (zx 0)=some (.next,[mk lr (f1 x)]):=⋯
theorem jzt:bh m6 12 [mk lr (f1 x)] (zx 1)=some (.next,[mk lr (f2 x)]):=
 have h:=jf (x / 40) (show 0<27 by decide)
 fD rfl (dN rfl rfl rfl rfl (aK (bT rfl (az rfl rfl) (Uz x rfl rfl ∅ ∅ ∅) (lW (j6 _ 0 h) (aF (fL h) ∅))) aO) (jsX (jzF _ h))) rfl ⋯
theorem jzu:bh m6 12 [mk lr (f2 x)] (zx 2)=some (.next,[mk lr (f3 x)]):=
 have h:=jf (x / 5) (show 0<8 by decide)
 fD rfl (bT rfl (a:=.tup ((CW (qL x)).map .str)) ⋯ (Uz x rfl rfl ∅ ∅ ∅) (jow (j6 _ [] h) (aF (fL h) ∅))) rfl ⋯
theorem jzv:bh m6 12 [mk lr (f3 x)] (zx 3)=some (.next,[mk lr (f4 x)]):=by
 have h:=jf x (show 0<5 by decide);have e:iz (.str wk) (.int ((x % 5:Nat):Int))=some (.str [dW x]):=Ul (getD_some 0 h) (aF (fL h) ∅);exact Ho (a:=.str [dW x]) (b:=vSt) rfl (bT rfl (aQ rfl) (bA (az rfl rfl) (aQ rfl) (qJ x 5 ∅)) e) ⋯ rfl (sw:=false) ⋯ ⋯
theorem jzw:bh m6 12 [mk lr (f4 x)] (zx 4)=some (.next,[mk lr (f5 x)]):=by
 have h:=jf x (show 0<5 by decide);have e:iz (.str wu) (.int ((x % 5:Nat):Int))=some (.str [wu.getD (x % 5) 0]):=Ul (getD_some 0 h) (aF (fL h) ∅);refine fD rfl (qD (aK (az rfl rfl) (aK (gA (p:=.str [cI (dW x)]) rfl (az rfl rfl) aO ?_) (aK (bT rfl (aQ rfl) (bA (az rfl rfl) (aQ rfl) (qJ x 5 ∅)) e) aO))) rfl) rfl ⋯;show(if ([]:LV).isEmpty&&(eQ [dW x]&&aL 1) then some (PV.str ([dW x].map cI)) else none)=_;refine bN ?_ rfl;rw[show eQ [dW x]=true from cU.mpr λy hy=>by
  rw[oG.mp hy];exact b8 (qT (Mz x) ∅)]
 rfl
theorem jzx:bh m6 12 [mk lr (f5 x)] (zx 5)=some (.next,[mk lr (f6 x)]):=by
 have h:=jf (x / 1080) (show 0<13 by decide);refine fD rfl (bT rfl (a:=.lst ((Hn (dW x) (wu.getD (x % 5) 0)).map λk=>.str [k])) (bA (az rfl rfl) (lq Mx (λi=>.int (i:Nat)) (λi=>.str [i+dW x-97]) rfl (az rfl rfl) rfl rfl (λs hs=>?_) rfl) ⋯) (Uz x rfl rfl ∅ ∅ ∅) (lW (j6 _ 0 h) (aF (fL h) ∅))) rfl ⋯;have h1:=Uy x;have h2:=Mz x;have h3:=jzM s hs;refine iZ rfl iC (dN rfl rfl rfl rfl (aK (bA (p:=.int ((s+dW x-97:Nat):Int)) (bA (az rfl rfl) (dN rfl rfl rfl rfl (aK (az rfl rfl) aO) rfl) (qK s (dW x))) (aQ rfl) ?_) aO) (jsX (n:=s+dW x-97) (aF (pW ..) (aF (ue h3 (fL h2)) ∅)))) rfl;show some (PV.int (((s+dW x:Nat):Int)-97))=some (PV.int ((s+dW x-97:Nat):Int));exact aU (λi=>some (PV.int i)) (xd (aF h1 (lu ..))).symm
theorem jzy:bh m6 12 [mk lr (f6 x)] (zx 6)=some (.ret (Ux x),[mk lr (f6 x)]):=by
 have hl:=jos (qL x) _ (jf (x / 5) (show 0<8 by decide));have hk:aL (wy x++[rN x]).length=true:=by
  rw[bz];exact bG (aF (rY hl 1) ∅)
 refine j0 rfl (jZ (aK (az rfl rfl) (aK (bA (az rfl rfl) (az rfl rfl) (ie hk)) (aK (y:=bZ [([dW x],1)]) (qD (aK (jZ (aK (az rfl rfl) (aK (aQ rfl) aO)) rfl) aO) rfl) aO))) rfl) rfl
end
theorem joL:Runs My (iU m6 12 ["x"] lr (defOf bj 19).2.1):=by
 intro l p h;refine aH (bx h) λq h1 h=>?_;refine aH (bx h) λi h2 h=>?_;refine kA (dq h) λhk h=>?_;cases h;rw[gQ h1,PV.nF h2];refine⟨rfl,?_⟩;have hi:i=(i.toNat:Nat):=(Jl (dB (bD hk).1)).symm;rw[hi,xf];generalize i.toNat=x;exact jM (η:=[mk lr (f0 x)]) (aq:=[mk lr (f6 x)]) ⋯ (bu (jzs x) (bu (jzt x) (bu (jzu x) (bu (jzv x) (bu (jzw x) (bu (jzx x) (gK (jzy x))))))))
def gq:List Nat->List Nat->List (List Nat)
 |_,[]=>[]|cur,c::r=>if (cur.isEmpty||c==41)&&check (cur++[c]) then(cur++[c])::gq [] r else gq (cur++[c]) r
theorem CX{cur:List Nat}{c:Nat}{r:List Nat}(h:((cur.isEmpty||c==41)&&check (cur++[c]))=false):gq cur (c::r)=gq (cur++[c]) r:=aZ (by rw[h];decide)
theorem MJ{cur:List Nat}{c:Nat}{r:List Nat}(h:((cur.isEmpty||c==41)&&check (cur++[c]))=true):gq cur (c::r)=(cur++[c])::gq [] r:=aX h
def Hp:PF:=λl=>(txt l).bind λs=>if jD s then some (.lst ((gq [] s).map .str)) else none
abbrev UG:Scope:=(defOf bj 22).2.2
abbrev CZ:Sp:=lU [("_check_parenthesis",v8)] ["pieces"] false
abbrev frC(s:List Nat)(acc:LV)(b:Nat)(e:OV):ME:=[mk UG [some (.str s),some (.own acc),some (.int (b:Nat)),e]]
theorem jt7:gk .Is (.bool b) (.bool true)=some b:=by cases b<;>rfl
theorem zy{S:Sp}{n:Nat}{η:ME}{x:PE}{b:Bool}(h:bI S (n+1) η x=some b):rB S (n+2) η .Or [x]=some b:=vN h (by cases b<;>rfl)
theorem jp9{S:Sp}{n:Nat}{η:ME}{x:PE}{b:Bool}(h:bI S (n+1) η x=some b):rB S (n+2) η .And [x]=some b:=QV h (by cases b<;>rfl)
theorem juz(n:Nat):jx 1 ((n:Int)+1)=(List.range' 0 n).map λk=>PV.int ((k+1:Nat):Int):=by
 unfold jx;rw[show((n:Int)+1-1).toNat=n by lia,zW];refine Ih λk Z=>aU PV.int ?_;rw[Jk];exact Int.add_comm ..
noncomputable def zA:List Stmt->PE
 | .If t _ _ _::_=>t|_=>default
noncomputable def jDj:PE->PE
 | .BoolOp _ (x::_) _=>x|_=>default
noncomputable def jAL:PE->PE
 | .BoolOp _ (_::x::_) _=>x|_=>default
theorem jpk(a b:Int)(h:(cX a&&cX b&&aL (b-a).toNat)=true):Fw [.int a,.int b]=some (.gf a b):=by
 show XM a b=_;exact bN h rfl
theorem ji2(a b:Int)(h:(cX a&&cX b&&aL (b-a).toNat)=true):Bk g (.gf a b)=some (jx a b):=by
 show(if cX a&&cX b&&aL (b-a).toNat then some (jx a b) else none)=_;exact bN h rfl
theorem jqX(s:List Nat)(hs:s.length<=10000)(pre cur r:List Nat)(c:Nat)(acc:LV)(e:s=pre++cur++c::r)(hk:acc.length<=pre.length):
  dK (bh CZ 12) (frC s acc pre.length (some (.int ((pre.length+cur.length+1:Nat):Int)))) (jC (cA (defOf bj 22).2.1 1))=
   some (.next,if (cur.isEmpty||c==41)&&check (cur++[c]) then frC s (acc++[.str (cur++[c])]) (pre.length+cur.length+1) (some (.int ((pre.length+cur.length+1:Nat):Int)))
    else frC s acc pre.length (some (.int ((pre.length+cur.length+1:Nat):Int)))):=by
 have hlen:s.length=pre.length+cur.length+1+r.length:=by rw[e,bz,bz,dC];lia
 have hsl:gm (.str s) (some ((pre.length:Nat):Int)) (some ((pre.length+cur.length+1:Nat):Int))=some (.str (cur++[c])):=by
  rw[T8 (s:=s) (bG (aF hs ∅)) (by lia) (by lia)];have e2:s=(pre++(cur++[c]))++r:=by rw[e];simp
  have e3:s.take (pre.length+cur.length+1)=pre++(cur++[c]):=by
   rw[e2];exact DQ (by simp;lia)
  rw[e3,List.drop_left' rfl]
 have hck:v8 [.str (cur++[c])]=some (.bool (check (cur++[c]))):=aX (by
  show decide _=true;refine b8 ?_;rw[bz,mD];lia)
 have hix:iz (.str s) (.int ((pre.length+cur.length:Nat):Int))=some (.str [c]):=Ul (by
  rw[e,Ao (by rw[bz];exact aN _),bz,Ec];rfl) (by lia)
 have t1:bI CZ 9 (frC s acc pre.length (some (.int ((pre.length+cur.length+1:Nat):Int)))) (jDj (zA (jC (cA (defOf bj 22).2.1 1))))=some (cur.isEmpty||c==41):=by
  refine uA (vN (b:=cur.isEmpty) (cM rfl (bA (az rfl rfl) (az rfl rfl) rfl) (aQ rfl) (v9 ?_)) ?_)
  ·cases cur with|nil=>rw[show([]:List Nat).isEmpty=true from rfl,bO];simp only[jJ];lia|cons x y=>rw[show(x::y).isEmpty=false from rfl,gD];simp only[dC];lia
  ·cases cur.isEmpty with
   |true=>rfl
   |false=>
    refine zy (cM rfl (bT (k:=.int ((pre.length+cur.length:Nat):Int)) rfl (az rfl rfl) (bA (az rfl rfl) (aQ rfl) (aU (λi=>some (PV.int i)) (show((pre.length+cur.length+1:Nat):Int)-1=((pre.length+cur.length:Nat):Int) by lia))) hix) (aQ rfl) (eq_str ?_));rw[Bool.false_or,qX,bO,bO];exact⟨λh=>(sG h).1,λh=>aU (λx=>[x]) h⟩
 have t2:bI CZ 8 (frC s acc pre.length (some (.int ((pre.length+cur.length+1:Nat):Int)))) (jAL (zA (jC (cA (defOf bj 22).2.1 1))))=some (check (cur++[c])):=
  cM rfl (d9 rfl rfl rfl (aK (jL (az rfl rfl) (gU (az rfl rfl)) (gU (az rfl rfl)) hsl) aO) rfl hck) (aQ rfl) jt7
 have t3:bI CZ 11 (frC s acc pre.length (some (.int ((pre.length+cur.length+1:Nat):Int)))) (zA (jC (cA (defOf bj 22).2.1 1)))=some ((cur.isEmpty||c==41)&&check (cur++[c])):=
  uA (QV t1 (by
   cases cur.isEmpty||c==41 with
   |true=>exact jp9 t2
   |false=>rfl))
 refine bu (eZ t3 ?_) dz;cases (cur.isEmpty||c==41)&&check (cur++[c]) with|true=>exact bu (aD:=frC s (acc++[.str (cur++[c])]) pre.length (some (.int ((pre.length+cur.length+1:Nat):Int)))) (za rfl rfl (jL (az rfl rfl) (gU (az rfl rfl)) (gU (az rfl rfl)) hsl) rfl (bG (by lia)) ⋯) (bu ⋯ dz)|false=>exact dz
theorem jqZ(s:List Nat)(hs:s.length<=10000):∀(r cur pre:List Nat) (acc:LV) (x:OV),s=pre++cur++r->acc.length<=pre.length->
  ∃b x',dD (λη=>dK (bh CZ 12) η (jC (cA (defOf bj 22).2.1 1))) (rI (cA (defOf bj 22).2.1 1)) (frC s acc pre.length x) ((List.range' (pre.length+cur.length) r.length).map λk=>PV.int ((k+1:Nat):Int))=some (.next,frC s (acc++(gq cur r).map .str) b x'):=λr=>r.rec
  (λcur pre acc x e hk=>kW pre.length x (aU (λa=>some (Out.next,frC s a pre.length x)) (fV acc).symm))
  λc r ih cur pre acc x e hk=>by
  have hb:=jqX s hs pre cur r c acc e hk;rw[dC,Ij,fu];have hl:s.length=pre.length+cur.length+1+r.length:=by rw[e,bz,bz,dC];lia
  cases hc:(cur.isEmpty||c==41)&&check (cur++[c]) with
  |true=>
   rw[hc,aX rfl] at hb;refine kO (ih [] (pre++(cur++[c])) (acc++[.str (cur++[c])]) (some (.int ((pre.length+cur.length+1:Nat):Int))) (by rw[e];simp) (by simp only[bz,mD];lia)) λb x' h=>?_;refine kW b x' (pD ⋯ hb ?_);have e1:(pre++(cur++[c])).length=pre.length+cur.length+1:=by simp only[bz,mD];lia
   rw[e1] at h;refine h.trans ?_;rw[MJ hc,fu,dm];rfl
  |false=>
   rw[hc,aZ ∅] at hb;refine kO (ih (cur++[c]) pre acc (some (.int ((pre.length+cur.length+1:Nat):Int))) (by rw[e];simp) hk) λb x' h=>?_;refine kW b x' (pD ⋯ hb ?_);rw[bz,mD,←rW] at h;refine h.trans ?_;rw[CX hc]
theorem jq0:Runs Hp (iU CZ 13 ["text"] UG (defOf bj 22).2.1):=by
 intro l p h;refine aH (bx h) λs hs h=>?_;refine kA (dq h) λhl h=>?_;cases h;rw[Cw hs];refine⟨rfl,?_⟩;have hl:=dB hl;refine kO (jqZ s hl s [] [] [] none rfl (aN _)) λb x' h=>?_;have hk:aL s.length=true:=bG (aF hl ∅);have h1:cX ((s.length:Int)+1)=true:=by
  unfold cX;rw[b8 (show-1000000000000000000<=(s.length:Int)+1 by lia),b8 (show(s.length:Int)+1<=1000000000000000000 by lia)];rfl
 have h2:aL ((s.length:Int)+1-1).toNat=true:=by
  rw[show((s.length:Int)+1-1).toNat=s.length by lia];exact hk
 have h3:(cX 1&&cX ((s.length:Int)+1)&&aL ((s.length:Int)+1-1).toNat)=true:=by
  rw[h1,h2,show cX 1=true from Mt (a:=1) ∅];rfl
 refine jM (η:=[mk UG [some (.str s)]]) (aq:=frC s ((gq [] s).map .str) b x') ⋯ (bu (aD:=frC s [] 0 none) ⋯ (bu (uJ rfl (dN rfl rfl rfl rfl (aK (aQ rfl) (aK (bA (a:=.int (s.length:Nat)) (b:=.int 1) (p:=.int ((s.length:Int)+1)) (dN rfl rfl rfl rfl (aK (az rfl rfl) aO) ?_) (aQ rfl) rfl) aO)) (p:=.gf 1 ((s.length:Int)+1)) ?_) ?_ h) (gK ⋯)))
 ·show(if aL s.length then some (PV.int s.length) else none)=_;exact bN hk rfl
 ·dsimp only;exact jpk 1 ((s.length:Int)+1) h3
 ·exact(ji2 1 ((s.length:Int)+1) h3).trans (aU some (juz s.length))
def zB:Poly->List Poly->Bool
 |P,[]=>fG P&&P.all λq=>eQ q.1|P,Q::r=>fG P&&fG Q&&zB (jb P Q) r
def markV(q:List Nat×Int):PV:=if q.2<0 then .tup [.str (q.1.map cI),.str [45]] else .tup [.str q.1,.str [43]]
def MK:PF:=λl=>(dF l).bind λp=>p.sJ.bind λq=>(cF wi q).bind λPs=>if zB [([],1)] Ps then some (.lst ((nZ Ps).map markV)) else none
abbrev Dd:Scope:=(defOf bj 24).2.2
abbrev Hq(i:Nat):Stmt:=cA (defOf bj 24).2.1 i
abbrev wz(m:LV)(P:Poly)(x:OV):ME:=[mk Dd [some (.lst m),some (bZ P),x]]
abbrev eR1:PE:=Hl (cA (jC (Hq 1)) 0)
abbrev eR2:PE:=CN [Hq 2]
theorem jA6(P Q:Poly):bZ (jb P Q)=.lst (P.flatMap λp=>Q.map λq=>ig (p.1++q.1,p.2*q.2)):=by
 simp only[bZ,jb,je9,jn];rfl
theorem jpw(m:LV)(P Q:Poly)(kP:fG P=true)(kQ:fG Q=true):dK (bh m6 13) (wz m P (some (bZ Q))) (jC (Hq 1))=some (.next,wz m (jb P Q) (some (bZ Q))):=by
 have l1:(P.flatMap λp=>Q.map λq=>ig (p.1++q.1,p.2*q.2)).length<=250000:=Uw kP kQ;rw[wz,wz,jA6];refine bu (fD rfl (Up P ig (λZ=>Q) (λZ=>ig) (λp q=>ig (p.1++q.1,p.2*q.2)) (λp=>[mk (CV eR1) [none,some (.str p.1),some (.int p.2)],mk Dd [some (.lst m),some (bZ P),some (bZ Q)]]) (λZ=>bZ Q) rfl (az rfl rfl) rfl rfl rfl (λp hp=>nM (rK rfl rfl rfl rfl) (az rfl rfl) rfl rfl (λq hq=>?_)) (bG (aF l1 ∅))) rfl rfl) dz;have a:=zu kP hp;have b:=zu kQ hq;exact Uo (aD:=[mk (CV eR1) [none,some (.str p.1),some (.int p.2),some (.str q.1),some (.int q.2)],mk Dd [some (.lst m),some (bZ P),some (bZ Q)]]) (rK rfl rfl rfl rfl) iC (jZ (aK (bA (az rfl rfl) (az rfl rfl) (ie (Uv a.1 b.1))) (aK (bA (az rfl rfl) (az rfl rfl) (Mw a.2)) aO)) rfl) rfl
theorem jpq(m:LV):∀(Ps:List Poly) (P:Poly) (x:OV),zB P Ps=true->∃x',dD (λη=>dK (bh m6 13) η (jC (Hq 1))) (rI (Hq 1)) (wz m P x) (Ps.map bZ)=some (.next,wz m (Ps.foldl jb P) x')/\fG (Ps.foldl jb P)=true/\((Ps.foldl jb P).all λq=>eQ q.1)=true:=λPs=>Ps.rec
  (λP x h=>cG x rfl ((bD h).1) ((bD h).2))
  λQ r ih P x h=>by
  refine kA (bD h) λh1 h2=>?_;refine kA (bD h1) λh3 h4=>?_;refine aH (ih (jb P Q) (some (bZ Q)) h2) λx' h5 h6=>?_;exact aW x' (pD ⋯ (jpw m P Q h3 h4) h5) h6
theorem jlS(h:eQ s=true)(k:aL s.length=true):nU 140 145 "upper" (.str s) []=some (.str (s.map cI)):=by
 show(if ([]:LV).isEmpty&&(eQ s&&aL s.length) then some (PV.str (s.map cI)) else none)=_;exact bN (by rw[h,k];rfl) rfl
theorem jpu:Runs MK (iU m6 14 ["many"] Dd (defOf bj 24).2.1):=by
 intro l p h;refine aH (bx h) λq h1 h=>?_;refine aH (bx h) λm h2 h=>?_;refine aH (bx h) λPs h3 h=>?_;refine kA (dq h) λhk h=>?_;cases h;have em:m=Ps.map bZ:=Mu (λZ Z=>Us) h3;rw[gQ h1,PV.sy h2];refine⟨rfl,?_⟩;refine eO (jpq m Ps [([],1)] none hk) λx' h4 h5 h6=>?_;rw[←em] at h4;refine jM (η:=[mk Dd [some (.lst m)]]) (aq:=wz m (nZ Ps) x') ⋯ (bu (aD:=wz m [([],1)] none) ⋯ (bu (uJ rfl (az rfl rfl) rfl h4) (gK (j0 rfl (lq (nZ Ps) ig markV rfl (az rfl rfl) rfl rfl (λq hq=>?_) (bG (aF (dB (bD h5).1) ∅))) rfl))));have a:=zu h5 hq;have b:=cU.mp h6 q hq;have t:gk .Lt (.int q.2) (.int 0)=some (decide (q.2<0)):=rfl;refine iZ (aD:=[mk (uK eR2) [none,some (.str q.1),some (.int q.2)],mk Dd [some (.lst m),some (bZ (nZ Ps)),x']]) (rK rfl rfl rfl rfl) iC (QR (cM rfl (az rfl rfl) (aQ rfl) t) ?_) (by unfold markV;split<;>rfl);unfold markV;by_cases hs:q.2<0
 ·rw[aX (b8 hs),aX hs];exact jZ (aK (gA rfl (az rfl rfl) aO (jlS b (bG (aF a.1 ∅)))) (aK (aQ rfl) aO)) rfl
 ·rw[aZ (by rw[wV hs];decide),aZ hs];exact jZ (aK (az rfl rfl) (aK (aQ rfl) aO)) rfl
def De(a b:PV):OV:=lJ (λx y=>some (.int (x-y))) a b
noncomputable def lX(w v:List Nat):PV:=.tup [.str w,.str v]
def zE:PF:=λl=>(kI l).bind λq=>q.1.sJ.bind λrows=>q.2.bV.bind λw=>if eQ w&&aL w.length then
 (countM (.lst rows) [lX (w.map du) [43]]).bind λa=>(countM (.lst rows) [lX (w.map cI) [45]]).bind λb=>De a b else none
def wA:PF:=λl=>(kI l).bind λq=>q.1.xq.bind λrows=>q.2.bV.bind λw=>(j5 w rows).bind λvs=>if aL (vs.length+1) then
 (countM (.own (vs++[.str [43]])) [.str [43]]).bind λa=>(countM (.own (vs++[.str [43]])) [.str [45]]).bind λb=>(De a b).bind λc=>De c (.int 1) else none
abbrev scD:Scope:=(defOf bj 25).2.2
abbrev MN:Scope:=(defOf bj 26).2.2
abbrev spN:Sp:=spT [] ["told"]
theorem jja(h:eQ s=true)(k:aL s.length=true):nU 140 145 "lower" (.str s) []=some (.str (s.map du)):=by
 show(if ([]:LV).isEmpty&&(eQ s&&aL s.length) then some (PV.str (s.map du)) else none)=_;exact bN (by rw[h,k];rfl) rfl
theorem jq6:Runs zE (iU m6 14 ["rows","word"] scD (defOf bj 25).2.1):=by
 intro l p h;refine aH (bx h) λq h1 h=>?_;refine aH (bx h) λrows h2 h=>?_;refine aH (bx h) λw h3 h=>?_;refine kA (dq h) λhk h=>?_;refine aH (bx h) λa h4 h=>?_;refine aH (bx h) λb h5 h=>?_;refine kA (bD hk) λk1 k2=>?_;rw[qx h1,PV.sy h2,PV.fJ h3];have hp:p.plain=true:=by refine eX (xM h) λx y Z Z e=>?_;cases e;rfl
 refine⟨rfl,jM (η:=[mk scD [some (.lst rows),some (.str w)]]) ⋯ (gK (j0 rfl (bA (gA rfl (az rfl rfl) (aK (jZ (aK (gA rfl (az rfl rfl) aO (jja k1 k2)) (aK (aQ rfl) aO)) rfl) aO) h4) (gA rfl (az rfl rfl) (aK (jZ (aK (gA rfl (az rfl rfl) aO (jlS k1 k2)) (aK (aQ rfl) aO)) rfl) aO) h5) h) hp))⟩
theorem joj(h:j5 w rows=some vs):rH 140 145 j5 "get_all" (.hdr rows) [.str w]=some (.lst vs):=by
 show(j5 w rows).map PV.lst=_;rw[h];rfl
theorem jiM(h:countM a l=some p):rH 140 145 j5 "count" a l=some p:=h
theorem js1{S:Sp}{n:Nat}{η aD:ME}{x:Str}{xp pos:Pos}{e:PE}{l:LV}(hm:S.dX.contains x=true)(he:aG S n η e=some (.lst l))(hF:JX e=true)(hs:bM x (.own l) η=some aD):bh S (n+1) η (.Assign [.Name x xp] e pos)=some (.next,aD):=by
 show((aG S n η e).bind λv=>(store S x e v η).map iT)=_;refine bk he ?_;rw[show store S x e (.lst l) η=some aD from bN hm (bN hF hs)];rfl
theorem jmc:Runs wA (iU spN 14 ["table","word"] MN (defOf bj 26).2.1):=by
 intro l p h;refine aH (bx h) λq h1 h=>?_;refine aH (bx h) λrows h2 h=>?_;refine aH (bx h) λw h3 h=>?_;refine aH (bx h) λvs h4 h=>?_;refine kA (dq h) λhk h=>?_;refine aH (bx h) λa h5 h=>?_;refine aH (bx h) λb h6 h=>?_;refine aH (bx h) λc h7 h=>?_;rw[qx h1,PV.sE h2,PV.fJ h3];have hp:p.plain=true:=by refine eX (xM h) λx y Z Z e=>?_;cases e;rfl
 refine⟨rfl,?_⟩;obtain⟨X,hX⟩:∃X,X=vs++[PV.str [43]]:=⟨_,rfl⟩;rw[←hX] at h5 h6;refine jM (η:=[mk MN [some (.hdr rows),some (.str w)]]) ⋯ (bu (aD:=[mk MN [some (.hdr rows),some (.str w),some (.own vs)]]) ?_ (bu (aD:=[mk MN [some (.hdr rows),some (.str w),some (.own X)]]) (za (v:=.str [43]) rfl rfl (aQ rfl) rfl hk (by rw[←hX];kernel_rfl)) (gK (j0 rfl (bA (bA (gA rfl (az rfl rfl) (aK (aQ (p:=.str [43]) rfl) aO) (jiM h5)) (gA rfl (az rfl rfl) (aK (aQ (p:=.str [45]) rfl) aO) (jiM h6)) h7) (aQ rfl) h) hp))));exact js1 rfl (gA rfl (az rfl rfl) (aK (az rfl rfl) aO) (joj h4)) rfl ⋯
def zF(n:Nat):PF:=λl=>(kI l).bind λq=>q.1.bV.bind λu=>q.2.bV.bind λv=>if decide (u.length+v.length<n)&&decide (n<=12) then some (.lst ((fj u v).map .str)) else none
abbrev Hr:Scope:=(defOf bj 27).2.2
abbrev spM(n:Nat):Sp:=lU [("_law_mixed",zF n)] [] false
theorem UJ(h:u.length+v.length<n)(hn:n<=12):zF n [.str u,.str v]=some (.lst ((fj u v).map .str)):=by
 show(if decide (u.length+v.length<n)&&decide (n<=12) then some (PV.lst ((fj u v).map .str)) else none)=_;exact bN (by rw[b8 h,b8 hn];rfl) rfl
theorem jr3(n:Nat):Runs (zF (n+1)) (iU (spM n) 14 ["u","v"] Hr (defOf bj 27).2.1):=by
 intro l p h;refine aH (bx h) λq h1 h=>?_;refine aH (bx h) λu h2 h=>?_;refine aH (bx h) λv h3 h=>?_;refine kA (dq h) λhk h=>?_;cases h;refine kA (bD hk) λk1 k2=>?_;have k1:=dB k1;have k2:=dB k2;rw[qx h1,PV.fJ h2,PV.fJ h3];refine⟨rfl,?_⟩;have hc:aL (u++v).length=true:=bG (by rw[bz];lia);have tU:∀w:List Nat,gk .Eq (.str w) (.str [])=some w.isEmpty:=λw=>eq_str (by cases w<;>rfl);have pN:bI (spM n) 13 [mk Hr [some (.str u),some (.str v)]] (zA [cA (defOf bj 27).2.1 0])=some (u.isEmpty||v.isEmpty):=
  uA (vN (b:=u.isEmpty) (cM rfl (az rfl rfl) (aQ rfl) (tU u)) (by
   cases u.isEmpty with
   |true=>rfl
   |false=>exact zy (cM rfl (az rfl rfl) (aQ rfl) (tU v))))
 match u,v with
 |[],v=>
  rw[jr2];exact jM (η:=[mk Hr [some (.str []),some (.str v)]]) ⋯ (gK (eZ pN (gK (j0 rfl (qD (aK (bA (az rfl rfl) (az rfl rfl) (ie hc)) aO) rfl) rfl))))
 |a::u,[]=>
  rw[jo1];exact jM (η:=[mk Hr [some (.str (a::u)),some (.str [])]]) ⋯ (gK (eZ pN (gK (j0 rfl (qD (aK (bA (p:=.str (a::u)) (az rfl rfl) (az rfl rfl) ((ie hc).trans (by rw[fV]))) aO) rfl) rfl))))
 |a::u,b::v=>
  have kA:u.length+(b::v).length<n:=by simp only[dC] at k1⊢;lia
  have kB:(a::u).length+v.length<n:=by simp only[dC] at k1⊢;lia
  have kn:n<=12:=pP k2;have wL:∀k,k<n->2 ^ k<=4096:=λk h=>aF (pU (n:=2) ∅ (aF (fL h) kn)) ∅;have lA:=aF (Ug _ _) (wL _ kA);have lB:=aF (Ug _ _) (wL _ kB);have wd:∀(c:Nat) {u v w:List Nat},u.length+v.length<n->w∈fj u v->aL ([c]++w).length=true:=λc {u v w} h hw=>bG (aF (Ue _ _ w hw▸h:w.length<n) (aF kn ∅));have sU:∀(c:Nat) (w:List Nat),aL (c::w).length=true->gm (.str (c::w)) (some ((1:Nat):Int)) none=some (.str w):=λc w h=>jhg h (pX (jq _));have oU:aL (a::u).length=true:=bG (by simp only[dC] at k1⊢;lia);have oV:aL (b::v).length=true:=bG (by simp only[dC] at k1⊢;lia);refine jM (η:=[mk Hr [some (.str (a::u)),some (.str (b::v))]]) ⋯ (bu (eZ pN dz) (gK (j0 rfl (bA (a:=.lst ((fj u (b::v)).map λw=>.str ([a]++w))) (b:=.lst ((fj (a::u) v).map λw=>.str ([b]++w)))
   (lq (fj u (b::v)) .str _ rfl (d9 rfl rfl rfl (aK (jL (az rfl rfl) (gU (aQ rfl)) oZ (sU a u oU)) (aK (az rfl rfl) aO)) rfl (UJ kA kn)) rfl rfl (λw hw=>?_) (bG (aF lA ∅)))
   (lq (fj (a::u) v) .str _ rfl (d9 rfl rfl rfl (aK (az rfl rfl) (aK (jL (az rfl rfl) (gU (aQ rfl)) oZ (sU b v oV)) aO)) rfl (UJ kB kn)) rfl rfl (λw hw=>?_) (bG (aF lB ∅))) ?_) rfl)))
  ·exact iZ rfl iC (bA (bT rfl (az rfl rfl) (aQ rfl) ⋯) (az rfl rfl) (ie (wd _ kA hw))) rfl
  ·exact iZ rfl iC (bA (bT rfl (az rfl rfl) (aQ rfl) ⋯) (az rfl rfl) (ie (wd _ kB hw))) rfl
  ·show gj _=_;rw[gj,aX (bG (by rw[bz,bH,bH];lia)),jo0,il,jn,jn];rfl
noncomputable def rO(s:List Nat):List Nat:=(s.take (s.length-1)).drop 1
def rP:Nat->List Nat->Option Poly
 |0,_=>none|n+1,s=>if s.length=1 then some [(s,1)] else(kI (gq [] (rO s))).bind λq=>(rP n q.1).bind λP=>(rP n q.2).bind λQ=>if fG P&&fG Q then some (m5 P Q) else none
def Hs(n:Nat):PF:=λl=>(txt l).bind λs=>if jD s then(rP n s).map bZ else none
abbrev Ht:Scope:=(defOf bj 23).2.2
abbrev jAK(n:Nat):Sp:=lU [("_law_cut",Hp),("_law_swapped",Hm),("_law_readings",Hs n)] [] false
theorem UL(m n:Nat):jw (Int.negSucc m) n=n-(m+1):=by
 unfold jw;rw[aX (Int.negSucc_lt_zero m),show Int.negSucc m+(n:Int)=Int.subNatNat n (m+1) from rfl];rcases uZ n (m+1) with h|h
 ·rw[Int.subNatNat_of_lt h,Ji (jr (Int.negSucc_le_zero _) (oJ _)),Int.max_eq_left (Int.negSucc_le_zero _),Nat.sub_eq_zero_of_le (fL h)];rfl
 ·rw[Int.subNatNat_of_le h,Ji (qZ.mpr (pW ..)),Et (oJ _)];rfl
theorem jpF(h:aL s.length=true):gm (.str s) (some ((1:Nat):Int)) (some (-1))=some (.str (rO s)):=by
 show(if aL s.length then some (PV.str ((s.take (jw (-1) s.length)).drop (jw ((1:Nat):Int) s.length))) else none)=_;rw[aX h,show jw (-1) s.length=_ from UL 0 _,zb,rO];cases s with|nil=>rfl|cons c r=>rw[pR (by simp)]
theorem jum(s:List Nat):(rO s).length<=s.length:=by
 unfold rO;rw[uq];exact aF (pW ..) (Aq ..)
theorem jnP:∀(r cur:List Nat),∀x∈gq cur r,x.length<=cur.length+r.length:=λr=>r.rec
  (λcur x h=>nomatch h)
  λc r ih cur x h=>by
  cases hc:(cur.isEmpty||c==41)&&check (cur++[c]) with
  |true=>
   rw[MJ hc] at h;rcases gO.mp h with rfl|h
   ·simp only[bz,dC,jJ];lia
   ·have:=ih [] x h;simp only[dC,jJ] at this⊢;lia
  |false=>
   rw[CX hc] at h;have:=ih (cur++[c]) x h;simp only[bz,dC,jJ] at this⊢;lia
theorem wB(h:s.length<=10000):jD s=true:=b8 h
theorem js2{S:Sp}{n:Nat}{η aD:ME}{x y:Str}{xp yp tp pos:Pos}{k:Nat}{e:PE}{a b v:PV}(ht:uy e=none)(he:aG S n η e=some v)(hu:v.zU=some [a,b])(ha:a.plain=true)(hb:b.plain=true){Jw:ME}(h1:bM x a η=some Jw)(h2:bM y b Jw=some aD):
  bh S (n+1) η (.Assign [.Tuple [.Name x xp,.Name y yp] k tp] e pos)=some (.next,aD):=by
 show(match uy e with
  |some es=>if ([.Name x xp,.Name y yp]:List PySem.Expr).any (vL S) then Fv S (aG S n) η [.Name x xp,.Name y yp] es else(cF (aG S n η) es).bind λvs=>if qC [.Name x xp,.Name y yp] η&&vs.length==2&&es.length==2&&aL vs.length&&vs.all PV.plain then(qz [.Name x xp,.Name y yp] es η).bind λsw=>(Bo S [.Name x xp,.Name y yp] es vs η sw).map iT else .none
  | .none=>(aG S n η e).bind λv=>v.zU.bind λl=>(cH [.Name x xp,.Name y yp] l η).map iT)=_
 rw[ht];refine bk he (bk hu ?_);have h:cH [.Name x xp,.Name y yp] [a,b] η=some aD:=by
  show(if a.plain then(bM x a η).bind (cH [.Name y yp] [b]) else none)=_;refine bN ha (bk h1 ?_);show(if b.plain then(bM y b Jw).bind (cH [] []) else none)=_;exact bN hb (bk h2 rfl)
 rw[h];rfl
theorem UT(h:s.length<=10000):Hp [.str s]=some (.lst ((gq [] s).map .str)):=aX (wB h)
theorem jp5(h:(fG P&&fG Q)=true):Hm [bZ P,bZ Q]=some (bZ (m5 P Q)):=by
 show(wi (bZ P)).bind (λP=>(wi (bZ Q)).bind λQ=>if fG P&&fG Q then some (bZ (m5 P Q)) else none)=_;rw[Ut,Ut];exact bN h rfl
theorem UW(h:s.length<=10000)(hr:rP n s=some P):Hs n [.str s]=some (bZ P):=by
 show(if jD s then(rP n s).map bZ else none)=_;exact bN (wB h) (by rw[hr];rfl)
theorem jpn(n:Nat):Runs (Hs (n+1)) (iU (jAK n) 14 ["nest"] Ht (defOf bj 23).2.1):=by
 intro l p h;refine aH (bx h) λs hs h=>?_;refine kA (dq h) λhl h=>?_;refine eY p (iM h) λR hR=>?_;have hl:=dB hl;have hk:aL s.length=true:=bG (aF hl ∅);rw[Cw hs];refine⟨rfl,?_⟩;have pN:bI (jAK n) 13 [mk Ht [some (.str s)]] (zA [cA (defOf bj 23).2.1 0])=some (((s.length:Nat):Int)==1):=
  cM rfl (dN rfl rfl rfl rfl (aK (az rfl rfl) aO) (by
   show(if aL s.length then some (PV.int s.length) else none)=_;exact bN hk rfl)) (aQ rfl) (v9 rfl)
 replace hR:(if s.length=1 then _ else _)=some _:=hR;split at hR
 ·rename_i h1;cases hR;have e:(((s.length:Nat):Int)==1)=true:=by rw[h1];rfl
  rw[e] at pN;exact jM (η:=[mk Ht [some (.str s)]]) ⋯ (gK (eZ pN (gK (j0 rfl (qD (aK (jZ (aK (az rfl rfl) (aK (aQ rfl) aO)) rfl) aO) rfl) rfl))))
 ·rename_i h1;refine aH (bx hR) λq h2 h=>?_;refine aH (bx h) λP h3 h=>?_;refine aH (bx h) λQ h4 h=>?_;refine kA (dq h) λh5 h=>?_;cases h;have e:(((s.length:Nat):Int)==1)=false:=by rw[gD];lia
  rw[e] at pN;have hm:=jum s;have l1:q.1.length<=10000:=by
   have:=jnP (rO s) [] q.1 (by rw[qx h2];simp);simp only[jJ] at this;lia
  have l2:q.2.length<=10000:=by
   have:=jnP (rO s) [] q.2 (by rw[qx h2];simp);simp only[jJ] at this;lia
  have hc:=UT (s:=rO s) (by lia);rw[qx h2] at hc;exact jM (η:=[mk Ht [some (.str s)]]) ⋯ (bu (eZ pN dz) (bu (aD:=[mk Ht [some (.str s),some (.str q.1),some (.str q.2)]]) (js2 rfl (d9 rfl rfl rfl (aK (jL (az rfl rfl) (gU (aQ rfl)) (gU (i:= -1) ⋯) (jpF hk)) aO) rfl hc) rfl rfl rfl rfl ⋯)
   (gK (j0 rfl (d9 rfl rfl rfl (aK (d9 rfl rfl rfl (aK (az rfl rfl) aO) rfl (UW l1 h3)) (aK (d9 rfl rfl rfl (aK (az rfl rfl) aO) rfl (UW l2 h4)) aO)) rfl (jp5 h5)) rfl))))
inductive Tr where
 |leaf (x:Nat)
 |node (b:Bool) (l r:Tr)
 deriving Inhabited
noncomputable def jP(k:List Nat):Option Nat:=if k==[102,102] then some 64256 else if k==[102,105] then some 64257 else if k==[102,108] then some 64258 else if k==[115,116] then some 64261 else if k==[115,115] then some 223 else none
noncomputable def wC:List (PV×PV):=[(.str [102,102],.str [64256]),(.str [102,105],.str [64257]),(.str [102,108],.str [64258]),(.str [115,116],.str [64261]),(.str [115,115],.str [223])]
def Tr.bare:Tr->List Nat
 | .leaf x=>[dW x]| .node _ l r=>40::(l.bare++r.bare)++[41]
noncomputable def jQ(s:List Nat):List Nat:=s.take (s.length-1)
def Tr.typed:Tr->List Nat
 | .leaf x=>wy x++[rN x]| .node b l r=>40::(if b then jQ l.typed++[(jP (l.bare++r.bare)).getD 0]++jQ r.typed else l.typed++r.typed)++[41]
def Tr.poly:Tr->Poly
 | .leaf x=>[([dW x],1)]| .node _ l r=>m5 l.poly r.poly
noncomputable def Tr.size:Tr->Nat
 | .leaf _=>1| .node _ l r=>l.size+r.size
def Tr.val(t:Tr):PV:=.tup [.str t.bare,.str t.typed,bZ t.poly]
theorem jqb(k:List Nat):gR k wC=(jP k).map λc=>.str [c]:=by
 have e:∀y:List Nat,((PV.str y).bV==some k)=(k==y):=λy=>by
  show(some y==some k)=_;rw[qX,bO,bO];exact⟨λh=>(ir h).symm,λh=>aU some h.symm⟩
 unfold wC jP;simp only[gR,e]
 repeat (split;rfl)
 rfl
theorem Hu:∀t:Tr,1<=t.size:=λt=>t.rec
  (λZ=>aN 1)
  λZ l r ihl ihr=>aF (ihl) (je ..)
theorem Hv(h:2<=n):p % (n-1)+2<=n:=show p % (n-1)+1+1<=n from Nat.add_le_of_le_sub (pP h) (jf p (Ip h))
theorem U0(b:Bool)(l r:Tr):(Tr.node b l r).bare.length=l.bare.length+r.bare.length+2:=(bz ..).trans (aU (·+2) (bz ..))
theorem Df:∀t:Tr,t.bare.length+2<=3*t.size:=λt=>t.rec
  (λZ=>aN _)
  λZ l r ihl ihr=>by
  rw[U0];show _<=3*(l.size+r.size);rw[Nat.mul_add];exact aF (fH (Nat.add_add_add_comm l.bare.length r.bare.length 2 2)) (ue ihl ihr)
theorem jDk{a b x y:Nat}(h1:a+3<=9*x)(h2:b+3<=9*y):a+b+6<=9*(x+y):=by rw[Nat.mul_add];exact aF (fH (Nat.add_add_add_comm a b 3 3)) (ue h1 h2)
theorem Dg(s:List Nat):(jQ s).length<=s.length:=Aq ..
theorem jjH:∀t:Tr,t.typed.length+3<=9*t.size:=λt=>t.rec
  (λx=>show(wy x++[rN x]).length+3<=5+1+3 from rY (jB (jos (qL x) _ (jf (x / 5) (show 0<8 by decide))) (aN 1)) 3)
  λb l r ihl ihr=>by
  refine aF (rY (jB (l:=40::_) (r:=[41]) (n:=l.typed.length+r.typed.length+2) ?_ (aN 1)) 3) (jDk ihl ihr);cases b
  ·exact wQ (pX (fH (bz ..)))
  ·exact pX (aF (jB (jB (Dg _) (aN 1)) (Dg _)) (fH (zY ..)))
def qM(n:Nat)(q:List Nat×Int):Prop:=q.1.length=n/\(q.2=1\/q.2= -1)
theorem jsz(h:qM n p)(k:qM m q):qM (n+m) (p.1++q.1,p.2*q.2):=by
 refine⟨by rw[bz,h.1,k.1],?_⟩;show p.2*q.2=1\/p.2*q.2= -1;rcases h.2 with a|a<;>rcases k.2 with b|b<;>rw[a,b]<;>decide
theorem jsA(h:qM n p)(k:qM m q):qM (n+m) (q.1++p.1,0-p.2*q.2):=by
 refine⟨by rw[bz,h.1,k.1,ud],?_⟩;show 0-p.2*q.2=1\/0-p.2*q.2= -1;rcases h.2 with a|a<;>rcases k.2 with b|b<;>rw[a,b]<;>decide
theorem jjI(h:∀q∈P,qM n q)(k:∀q∈Q,qM m q):∀q∈jb P Q,qM (n+m) q:=λq hq=>by
 refine aH (Dz.mp hq) λp hp hq=>?_;refine eY q (gY.mp hq) λr hr=>?_;exact jsz (h p hp) (k r hr)
theorem MP(P Q:Poly):(jb P Q).length=P.length*Q.length:=Uu _ _ P λZ Z=>bH ..
theorem jp4(P Q:Poly):(m5 P Q).length=2*(P.length*Q.length):=by
 unfold m5;rw[bz,MP,Uu Q.length _ P λZ Z=>bH ..];lia
theorem jjJ:∀t:Tr,∀q∈t.poly,qM t.size q:=λt=>t.rec
  (λx q h=>by
  cases oG.mp (show q∈[_] from h);exact⟨rfl,.inl rfl⟩)
  λZ l r ihl ihr q h=>by
  rcases wN.mp h with h|h
  ·exact jjI (ihl) (ihr) q h
  ·refine aH (Dz.mp h) λp hp h=>?_;refine eY q (gY.mp h) λs hs=>?_;exact jsA (ihl p hp) (ihr s hs)
theorem MT:∀t:Tr,2*t.poly.length=2 ^ t.size:=λt=>t.rec
  (λZ=>rfl)
  λZ l r ihl ihr=>by
  show 2*(m5 l.poly r.poly).length=2 ^ (l.size+r.size);rw[jp4,Nat.pow_add,←ihl,←ihr];exact(zZ 2 2 _).symm.trans (Nat.mul_mul_mul_comm ..).symm
theorem jr8(h:i=1\/i= -1):cX i=true:=by rcases h with rfl|rfl<;>rfl
theorem jqh(hl:P.length<=500)(hn:n<=500)(h:∀q∈P,qM n q):fG P=true:=by
 unfold fG;rw[b8 hl,u9,cU];intro q hq;refine kA (h q hq) λh1 h2=>?_;unfold jAN;rw[b8 (h1▸hn),jr8 h2];rfl
theorem Hw{t:Tr}(h:t.size<=8):fG t.poly=true:=
 jqh (n:=t.size) (by
  have h1:=MT t;have h2:2 ^ t.size<=256:=pU (n:=2) ∅ h;lia) (aF h ∅) (jjJ t)
def Dh(w:Bool)(l r:Tr):Tr:=.node ((jP (l.bare++r.bare)).isSome&&w) l r
def stepT(p:Nat)(w:Bool)(T:List Tr):List Tr:=T.take p++[Dh w (T.getD p default) (T.getD (p+1) default)]++T.drop (p+2)
def Di(c6:Nat):Nat->Nat->Nat->List Tr->List Tr
 |0,_,_,T=>T|n+1,t,rest,T=>Di c6 n (t+1) (rest / (T.length-1)) (stepT (rest % (T.length-1)) (c6 / 2 ^ t % 2==1) T)
noncomputable def cT:List Tr->Nat
 |[]=>0|t::r=>t.size+cT r
theorem M3:∀l r:List Tr,cT (l++r)=cT l+cT r:=λl=>l.rec
  (λr=>(mC _).symm)
  λt l ih r=>(aU (t.size+·) (ih r)).trans (rW ..).symm
theorem Hx:∀{l:List Tr} {t:Tr},t∈l->t.size<=cT l
 |x::l,t,h=>by
  rcases gO.mp h with rfl|h
  ·exact je ..
  ·exact aF (Hx h) (lu ..)
theorem jxw(T:List Tr)(h:p+1<T.length):T=T.take p++[T.getD p default,T.getD (p+1) default]++T.drop (p+2):=by
 have h1:T.drop p=T.getD p default::T.drop (p+1):=by
  rw[Ak (by lia),g8,iy (by lia),Ef]
 have h2:T.drop (p+1)=T.getD (p+1) default::T.drop (p+2):=by
  rw[Ak (by omega),g8,iy (by lia),Ef]
 have h3:=(DP p T).symm;rw[h1,h2] at h3;rw[dm];exact h3
theorem step_size(w:Bool)(h:p+1<T.length):cT (stepT p w T)=cT T/\(stepT p w T).length+1=T.length:=by
 have e:=jxw T h;refine⟨?_,?_⟩
 ·conv=>rhs;rw[e]
  show cT (T.take p++[_]++_)=_;rw[M3,M3,M3,M3];exact aU (λk=>_+k+_) (rW ..)
 ·have e:=aU List.length e;show(T.take p++[Dh w _ _]++T.drop (p+2)).length+1=_;rw[bz,bz] at e⊢;exact(zY ..).trans e.symm
def gV(c:List Nat):List Tr:=Di (c.getD 6 0) (2+c.getD 5 0 % 3) 0 (c.getD 5 0 / 3) ((c.take 5).map .leaf)
abbrev Hy:Scope:=(defOf bj 21).2.2
abbrev stI(i:Nat):Stmt:=cA (defOf bj 21).2.1 i
abbrev zG(i:Nat):Stmt:=cA (jC (stI 3)) i
abbrev tX:Sp:=lU [("_law_leaf",My),("_law_swapped",Hm)] [] false
noncomputable abbrev vC(c:List Nat):PV:=.lst (c.map λi=>.int (i:Nat))
abbrev jE(c:List Nat)(T:List Tr)(rest:Nat)(x1 x2 x3 x4 x5 x6 x7:OV):ME:=[mk Hy [some (vC c),some (.dct wC),some (.lst (T.map Tr.val)),some (.int (rest:Nat)),x1,x2,x3,x4,x5,x6,x7]]
theorem jnT(a b:Nat)(h1:0<b)(h2:b<1073741824):QL [.int (a:Int),.int (b:Int)]=some (.tup [.int ((a / b:Nat):Int),.int ((a % b:Nat):Int)]):=by
 show(if ((b:Int)==0)=true then none else if decide ((b:Int).natAbs<1073741824)=true then some (PV.tup [.int (Int.fdiv a b),.int (Int.fmod a b)]) else none)=_;rw[aZ (by simp;lia),aX (by simp;exact h2)];rw[V2 _ (by lia),←Pq,Pk _ (by lia),←Pr]
theorem jwS(k:List Nat):gk .In (.str k) (.dct wC)=some (jP k).isSome:=by
 show some (gR k wC).isSome=_;rw[jqb,Option.isSome_map]
theorem jp7{l:LV}{p:Nat}(h:aL l.length=true)(hp:p<=l.length):gm (.lst l) none (some (p:Int))=some (.lst (l.take p)):=by
 unfold gm fX;simp only[h,gZ,zb];rw[pR hp,Al]
theorem jtT{l:LV}{p:Nat}(h:aL l.length=true)(hp:p<=l.length):gm (.lst l) (some (p:Int)) none=some (.lst (l.drop p)):=by
 unfold gm fX;simp only[h,gZ,zb];rw[pR hp,zX]
theorem U3(h:aL s.length=true):gm (.str s) none (some (-1))=some (.str (jQ s)):=by
 show(if aL s.length then some (PV.str ((s.take (jw (-1) s.length)).drop 0)) else none)=_;rw[aX h,show jw (-1) s.length=_ from UL 0 _,Al];rfl
theorem M4{t:Nat}(h:t<=20):iR .Pow (.int 2) (.int (t:Int))=some (.int ((2 ^ t:Nat):Int)):=by
 show(if decide (0<=(t:Int))&&decide ((t:Int)<=60)&&(2:Int)==2 then some (PV.int (2 ^ (t:Int).toNat)) else none)=_;rw[b8 (oJ t),b8 (show(t:Int)<=60 by lia),xf];exact aU (λi=>some (PV.int i)) (Int.natCast_pow 2 t).symm
def zH(b:Bool)(L R:Tr):List Nat:=if b then jQ L.typed++[(jP (L.bare++R.bare)).getD 0]++jQ R.typed else L.typed++R.typed
theorem Dj{t:Tr}(h:t.size<=8):t.typed.length<=80:=aF (Oq (jjH t)) (aF (wR 9 h) ∅)
theorem M5{t:Tr}(h:t.size<=8):t.bare.length<=80:=aF (Oq (Df t)) (aF (wR 3 h) ∅)
theorem jt4(hL:L.size<=8)(hR:R.size<=8):(zH b L R).length<=200:=by
 have h1:=Dj hL;have h2:=Dj hR;have h3:=Dg L.typed;have h4:=Dg R.typed;unfold zH;cases b
 ·exact aF (jB h1 h2) ∅
 ·exact aF (jB (jB (aF h3 h1) (aN 1)) (aF h4 h2)) ∅
section
variable(c:List Nat)(hc:c.length=8)(T:List Tr)(rest t:Nat)(hs:cT T<=8)(hl:2<=T.length)(oF:T.length<=8)(ht:t<=20)(x2 x3 x4 x5 x6 x7:OV)
noncomputable abbrev vt:OV:=some (.int (t:Nat))
noncomputable abbrev vp:OV:=some (.int ((rest % (T.length-1):Nat):Int))
noncomputable abbrev tL:Tr:=T.getD (rest % (T.length-1)) default
noncomputable abbrev tR:Tr:=T.getD (rest % (T.length-1)+1) default
include hl oF in
theorem jzV:bh tX 11 (jE c T rest (vt t) x2 x3 x4 x5 x6 x7) (zG 0)=some (.next,jE c T (rest / (T.length-1)) (vt t) (vp T rest) x3 x4 x5 x6 x7):=by
 have e:((T.map Tr.val).length:Int)-1=((T.length-1:Nat):Int):=by rw[bH];exact(xd (fL hl)).symm
 have hk:aL (T.map Tr.val).length=true:=uI (by rw[bH];exact oF) ∅;refine js2 (a:=.int ((rest / (T.length-1):Nat):Int)) (b:=.int ((rest % (T.length-1):Nat):Int)) (Jw:=jE c T (rest / (T.length-1)) (vt t) x2 x3 x4 x5 x6 x7) rfl (dN rfl rfl rfl rfl (aK (az rfl rfl) (aK (bA (p:=.int ((T.length-1:Nat):Int)) (dN (p:=.int ((T.map Tr.val).length:Nat)) rfl rfl rfl rfl (aK (az rfl rfl) aO) ?_) (aQ rfl) ?_) aO)) (jnT rest (T.length-1) (Ip hl) (mz (pW ..) (mz oF ∅)))) rfl rfl rfl ⋯ ⋯
 ·show(if aL (T.map Tr.val).length then some (PV.int (T.map Tr.val).length) else none)=_;exact bN hk rfl
 ·exact aU (λi=>some (PV.int i)) e
include hl oF in
theorem jzW(x2':Nat):bh tX 11 (jE c T rest (vt t) (vp T x2') x3 x4 x5 x6 x7) (zG 1)=some (.next,jE c T rest (vt t) (vp T x2') (some (tL T x2').val) (some (tR T x2').val) x5 x6 x7):=by
 have hp:=Hv (p:=x2') hl;have hb:=aF (aF hp oF) (show 8<=1000000000 by decide);exact Ho (sw:=true) (a:=(tL T x2').val) (b:=(tR T x2').val) rfl (bT rfl (az rfl rfl) (az rfl rfl) (lW (j6 Tr.val default (Ou hp)) (pP (pP hb)))) (bT rfl (az rfl rfl) (bA (az rfl rfl) (aQ rfl) (qK _ 1)) (lW (j6 Tr.val default hp) (pP hb))) rfl ⋯ ⋯
variable(L R:Tr)(hL:L.size<=8)(hR:R.size<=8)
include hL hR in
theorem jzX:bh tX 11 (jE c T rest (vt t) x2 (some L.val) (some R.val) x5 x6 x7) (zG 2)=some (.next,jE c T rest (vt t) x2 (some L.val) (some R.val) (some (.str (L.bare++R.bare))) (some (.str (L.typed++R.typed))) x7):=by
 have h1:=Dj hL;have h2:=Dj hR;have h3:=M5 hL;have h4:=M5 hR;exact Ho (sw:=true) (a:=.str (L.bare++R.bare)) (b:=.str (L.typed++R.typed)) rfl (bA (bT rfl (az rfl rfl) (aQ rfl) rfl) (bT rfl (az rfl rfl) (aQ rfl) rfl) (ie (bG (aF (jB h3 h4) ∅)))) (bA (bT rfl (az rfl rfl) (aQ rfl) rfl) (bT rfl (az rfl rfl) (aQ rfl) rfl) (ie (bG (aF (jB h1 h2) ∅)))) rfl ⋯ ⋯
include hL hR hc ht in
theorem jzY:bh tX 11 (jE c T rest (vt t) x2 (some L.val) (some R.val) (some (.str (L.bare++R.bare))) (some (.str (L.typed++R.typed))) x7) (zG 3)=
  some (.next,jE c T rest (vt t) x2 (some L.val) (some R.val) (some (.str (L.bare++R.bare))) (some (.str (zH ((jP (L.bare++R.bare)).isSome&&c.getD 6 0 / 2 ^ t % 2==1) L R))) x7):=by
 have h1:=Dj hL;have h2:=Dj hR;have p20:2 ^ t<=1048576:=pU (n:=2) ∅ ht;have pN:bI tX 10 (jE c T rest (vt t) x2 (some L.val) (some R.val) (some (.str (L.bare++R.bare))) (some (.str (L.typed++R.typed))) x7) (zA [zG 3])=some ((jP (L.bare++R.bare)).isSome&&c.getD 6 0 / 2 ^ t % 2==1):=
  uA (QV (cM rfl (az rfl rfl) (az rfl rfl) (jwS _)) (by
   cases (jP (L.bare++R.bare)).isSome with
   |false=>rfl
   |true=>
    refine jp9 (cM rfl (bA (bA (bT rfl (az rfl rfl) (aQ rfl) (lW (i:=6) (j6 _ 0 (hc▸(by decide:6<8))) ∅)) (bA (aQ rfl) (az rfl rfl) (M4 ht)) (uO _ _ (Nat.pow_pos ∅) (by lia))) (aQ rfl) (qJ _ 2 ∅)) (aQ rfl) (v9 ?_));rw[u9,qX,bO,bO];lia))
 cases hb:(jP (L.bare++R.bare)).isSome&&c.getD 6 0 / 2 ^ t % 2==1 with
 |false=>
  rw[hb] at pN;exact eZ pN dz
 |true=>
  rw[hb] at pN;refine kE (iQ (bD hb).1) λk hk=>?_;have hd:iz (.dct wC) (.str (L.bare++R.bare))=some (.str [k]):=by
   show gR _ _=_;rw[jqb,hk];rfl
  have h3:=Dg L.typed;have h4:=Dg R.typed;rw[show zH true L R=jQ L.typed++[k]++jQ R.typed by unfold zH;rw[hk];rfl];refine eZ pN (bu (fD rfl (bA (bA (jL (bT rfl (az rfl rfl) (aQ rfl) rfl) oZ (gU (i:= -1) ⋯) (U3 (bG (aF h1 ∅)))) (bT rfl (az rfl rfl) (az rfl rfl) hd) (ie (bG ?_))) (jL (bT rfl (az rfl rfl) (aQ rfl) rfl) oZ (gU (i:= -1) ⋯) (U3 (bG (aF h2 ∅)))) (ie (bG ?_))) rfl ⋯) dz)
  ·exact aF (jB (aF h3 h1) (aN 1)) ∅
  ·exact aF (jB (jB (aF h3 h1) (aN 1)) (aF h4 h2)) ∅
include hL hR in
theorem jzZ(w:Bool):bh tX 11 (jE c T rest (vt t) x2 (some L.val) (some R.val) (some (.str (L.bare++R.bare))) (some (.str (zH ((jP (L.bare++R.bare)).isSome&&w) L R))) x7) (zG 4)=
  some (.next,jE c T rest (vt t) x2 (some L.val) (some R.val) (some (.str (L.bare++R.bare))) (some (.str (zH ((jP (L.bare++R.bare)).isSome&&w) L R))) (some (Dh w L R).val)):=by
 have h1:=jt4 (b:=(jP (L.bare++R.bare)).isSome&&w) hL hR;have h3:=M5 hL;have h4:=M5 hR;have k:(fG L.poly&&fG R.poly)=true:=by rw[Hw hL,Hw hR];rfl
 have l1:=jB (l:=[40]) (aN 1) (jB h3 h4);have l3:=jB (l:=[40]) (aN 1) h1;have o1:=uI l1 ∅;have o2:=uI (jB (r:=[41]) l1 (aN 1)) ∅;have o3:=uI l3 ∅;have o4:=uI (jB (r:=[41]) l3 (aN 1)) ∅;refine fD (v:=(Dh w L R).val) rfl (jZ (aK (y:=.str (Dh w L R).bare) (bA (bA (aQ rfl) (az rfl rfl) (ie o1)) (aQ rfl) (ie o2)) (aK (y:=.str (Dh w L R).typed) (bA (bA (aQ rfl) (az rfl rfl) (ie o3)) (aQ rfl) (ie o4)) (aK (d9 rfl rfl rfl (aK (bT rfl (az rfl rfl) (aQ rfl) rfl) (aK (bT rfl (az rfl rfl) (aQ rfl) rfl) aO)) rfl (jp5 k)) aO))) rfl) rfl ⋯
include hl oF in
theorem jz0(x2':Nat)(N:Tr):bh tX 11 (jE c T rest (vt t) (vp T x2') x3 x4 x5 x6 (some N.val)) (zG 5)=
  some (.next,jE c (T.take (x2' % (T.length-1))++[N]++T.drop (x2' % (T.length-1)+2)) rest (vt t) (vp T x2') x3 x4 x5 x6 (some N.val)):=by
 have hp:=Hv (p:=x2') hl;have hm:(T.map Tr.val).length=T.length:=bH ..;have h8:=aF (fH hm) oF;have hk:=uI h8 (show 8<=1000000 by decide);have hq:=aF hp (fH hm.symm);have ht:=jB (r:=[N.val]) (aF (Aq (x2' % (T.length-1)) _) h8) (aN 1);unfold jE;rw[show(T.take (x2' % (T.length-1))++[N]++T.drop (x2' % (T.length-1)+2)).map Tr.val=(T.map Tr.val).take (x2' % (T.length-1))++[N.val]++(T.map Tr.val).drop (x2' % (T.length-1)+2) by rw[il,il,wM,Ii];rfl];refine fD (v:=.lst ((T.map Tr.val).take (x2' % (T.length-1))++[N.val]++(T.map Tr.val).drop (x2' % (T.length-1)+2))) rfl (bA (a:=.lst ((T.map Tr.val).take (x2' % (T.length-1))++[N.val])) (bA (b:=.lst [N.val]) (jL (az rfl rfl) oZ (gU (az rfl rfl)) (jp7 hk (pP (pP hq)))) (qD (aK (az rfl rfl) aO) rfl) ?_) (jL (az rfl rfl) (gU (bA (az rfl rfl) (aQ rfl) (qK _ 2))) oZ (jtT hk hq)) ?_) rfl ⋯
 ·show gj _=_;rw[gj,aX (uI ht ∅)]
 ·show gj _=_;rw[gj,aX (uI (jB ht (aF (by rw[uq];exact pW ..) h8)) ∅)]
end
theorem jmw(c:List Nat)(hc:c.length=8)(T:List Tr)(rest t:Nat)(hs:cT T<=8)(hl:2<=T.length)(oF:T.length<=8)(ht:t<=20)(x2 x3 x4 x5 x6 x7:OV):
  ∃y2 y3 y4 y5 y6 y7,dK (bh tX 11) (jE c T rest (vt t) x2 x3 x4 x5 x6 x7) (jC (stI 3))=some (.next,jE c (stepT (rest % (T.length-1)) (c.getD 6 0 / 2 ^ t % 2==1) T) (rest / (T.length-1)) (vt t) y2 y3 y4 y5 y6 y7):=by
 have hp:=Hv (p:=rest) hl;have mem:∀i,i<T.length->T.getD i default∈T:=λi hi=>by
  rw[g8,iy hi,Ef];exact qi hi
 have hL:(tL T rest).size<=8:=aF (Hx (mem _ (Ou hp))) hs;have hR:(tR T rest).size<=8:=aF (Hx (mem _ hp)) hs;exact⟨_,_,_,_,_,_,bu (jzV T rest t hl oF x2 x3 x4 x5 x6 x7 (c:=c)) (bu (jzW (c:=c) T (rest / (T.length-1)) t hl oF x3 x4 x5 x6 x7 rest) (bu (jzX c T (rest / (T.length-1)) t _ x5 x6 x7 _ _ hL hR) (bu (jzY c hc T (rest / (T.length-1)) t ht _ x7 _ _ hL hR) (bu (jzZ c T (rest / (T.length-1)) t _ x7 _ _ hL hR _) (bu (jz0 (c:=c) T (rest / (T.length-1)) t hl oF _ _ _ _ rest _) dz)))))⟩
theorem jmu(c:List Nat)(hc:c.length=8):∀(n t rest:Nat) (T:List Tr) (x1 x2 x3 x4 x5 x6 x7:OV),cT T<=8->n+1<=T.length->T.length<=8->t+n<=20->
  ∃rest' y1 y2 y3 y4 y5 y6 y7,dD (λη=>dK (bh tX 11) η (jC (stI 3))) (rI (stI 3)) (jE c T rest x1 x2 x3 x4 x5 x6 x7) ((List.range' t n).map λk=>PV.int (k:Nat))=some (.next,jE c (Di (c.getD 6 0) n t rest T) rest' y1 y2 y3 y4 y5 y6 y7):=λn=>n.recAux
  (λt rest T x1 x2 x3 x4 x5 x6 x7 Z Z Z Z=>⟨rest,x1,x2,x3,x4,x5,x6,x7,rfl⟩)
  λn ih t rest T x1 x2 x3 x4 x5 x6 x7 hs hl oF ht=>by
  have h2:=aF (lu 2 n) hl;have ht':t+1+n<=20:=aF (fH (zY t 1 n)) ht;refine uw (jmw c hc T rest t hs h2 oF (Oq ht) x2 x3 x4 x5 x6 x7) λz2 z3 z4 z5 zz=>kO zz λz6 z7 h1=>?_;refine kA (step_size (T:=T) (p:=rest % (T.length-1)) (c.getD 6 0 / 2 ^ t % 2==1) (Hv h2)) λk1 k2=>?_;refine uw (ih (t+1) (rest / (T.length-1)) _ (vt t) z2 z3 z4 z5 z6 z7 (by rw[k1];exact hs) (Ik (aF hl (fH k2.symm))) (pP (aF (fH k2) oF)) ht') λrest' y1 y2 y3 zz=>uw zz λy4 y5 y6 y7 h2=>?_;refine⟨rest',y1,y2,y3,y4,y5,y6,y7,?_⟩;rw[Ij,fu];exact pD ⋯ h1 h2
def M6(p:PV):Option Nat:=p.asInt.bind λi=>if decide (0<=i) then some i.toNat else none
theorem juq(h:M6 p=some n):p=.int (n:Nat):=by
 refine aH (bx h) λi h1 h=>?_;refine kA (dq h) λh2 h=>?_;cases h;rw[PV.nF h1,Jl (dB h2)]
def M7:PF:=λl=>(dF l).bind λp=>p.sJ.bind λq=>(cF M6 q).bind λc=>if decide (c.length=8)&&c.all (λn=>decide (n<1000000)) then some (.lst ((gV c).map Tr.val)) else none
theorem jsh(n:Nat):jx 0 (n:Int)=(List.range' 0 n).map λk=>PV.int (k:Nat):=by
 unfold jx;rw[Int.sub_zero,xf,zW];exact Ih λk Z=>aU PV.int (Aj _)
theorem jug(h:x<1000000):My [.int (x:Nat)]=some (Tr.leaf x).val:=by
 show(if decide (0<=(x:Int))&&decide ((x:Int)<=10000000) then some (Ux (x:Int).toNat) else none)=_;exact bN (by rw[b8 (oJ x),b8 (qZ.mpr (aF (fL h) ∅))];rfl) rfl
theorem jfV:∀c:List Nat,cT (c.map Tr.leaf)=c.length:=λc=>c.rec
  rfl
  λx r ih=>(aU (1+·) ih).trans (ud ..)
theorem zJ(h:n<=1000):Fw [.int (n:Nat)]=some (.gf 0 (n:Nat)):=by
 show(if cX (n:Int)&&aL (n:Int).toNat then some (PV.gf 0 (n:Int)) else none)=_;exact bN (by rw[Mt h,xf,bG (aF h ∅)];rfl) rfl
theorem joC(h:n<=1000):Bk g (.gf 0 (n:Nat))=some ((List.range' 0 n).map λk=>PV.int (k:Nat)):=by
 rw[←jsh];refine ji2 0 (n:Int) ?_;rw[Mt h,show cX 0=true from Mt (a:=0) ∅,Int.sub_zero,xf,bG (aF h ∅)];rfl
theorem jmv:Runs M7 (iU tX 12 ["cells"] Hy (defOf bj 21).2.1):=by
 intro l p h;refine aH (bx h) λq h1 h=>?_;refine aH (bx h) λm h2 h=>?_;refine aH (bx h) λc h3 h=>?_;refine kA (dq h) λhk h=>?_;cases h;refine kA (bD hk) λhc hb=>?_;have hc:=dB hc;have em:m=c.map λi=>PV.int (i:Nat):=Mu (λZ Z=>juq) h3;rw[gQ h1,PV.sy h2,em];refine⟨rfl,?_⟩;have lc:(c.map λi=>PV.int (i:Nat)).length=8:=by rw[bH];exact hc
 have l5:(c.take 5).length=5:=by rw[sH,hc];rfl
 have lt:∀x∈c.take 5,x<1000000:=λx hx=>dB (cU.mp hb x (DK hx));have h5:=jf (c.getD 5 0) (show 0<3 by decide);refine uw (jmu c hc (2+c.getD 5 0 % 3) 0 (c.getD 5 0 / 3) ((c.take 5).map .leaf) none none none none none none none (by rw[jfV,l5];decide) (by rw[bH,l5];lia) (by rw[bH,l5];decide) (by lia)) λrest' y1 y2 y3 zz=>uw zz λy4 y5 y6 y7 hl=>?_;have i5:iz (vC c) (.int ((5:Nat):Int))=some (.int (c.getD 5 0:Nat)):=lW (j6 _ 0 (by omega)) ∅;refine jM (η:=[mk Hy [some (vC c)]]) ⋯ (bu (aD:=[mk Hy [some (vC c),some (.dct wC)]]) ⋯ (bu (aD:=[mk Hy [some (vC c),some (.dct wC),some (.lst (((c.take 5).map Tr.leaf).map Tr.val))]]) ?_ (bu (aD:=jE c ((c.take 5).map .leaf) (c.getD 5 0 / 3) none none none none none none none)
  (fD rfl (bA (bT rfl (az rfl rfl) (aQ rfl) i5) (aQ rfl) (uO _ 3 ∅ ∅)) rfl ⋯) (bu (uJ rfl (dN rfl rfl rfl rfl (aK (bA (aQ rfl) (bA (bT rfl (az rfl rfl) (aQ rfl) i5) (aQ rfl) (qJ _ 3 ∅)) (qK 2 _)) aO) (zJ (by lia))) (joC (by lia)) hl) (gK (j0 rfl (az rfl rfl) rfl))))))
 refine fD (v:=.lst (((c.take 5).map Tr.leaf).map Tr.val)) rfl ?_ rfl ⋯;rw[jn];refine lq (c.take 5) (λi=>PV.int (i:Nat)) (λx=>(Tr.leaf x).val) rfl (jL (az rfl rfl) oZ (gU (aQ rfl)) (jp7 (p:=5) (bG (by rw[lc];decide)) (by rw[lc];decide))) (aU some wM.symm) rfl (λx hx=>?_) (bG (by rw[l5];decide));exact iZ rfl iC (d9 rfl rfl rfl (aK (az rfl rfl) aO) rfl (jug (lt x hx))) rfl
inductive St where
 |out (k:Nat)|esc (k:Nat)|q (k:Nat) (r:Option Nat)|qe (k:Nat) (r:Option Nat)|dead
noncomputable def Dk:Option Nat->Option Nat
 |some (k+1)=>some k|_=>none
def stp:St->Nat->St
 | .out k,c=>if c==92 then .esc k else if c==34 then .q k (some k) else if c==40 then .out (k+1) else if c==41 then(match k with|0=>.dead|k+1=>.out k) else .out k
 | .esc k,_=>.out k| .q k r,c=>if c==92 then .qe k r else if c==34 then .out k else if c==40 then .q k (r.map (·+1)) else if c==41 then .q k (Dk r) else .q k r| .qe k r,_=>.q k r| .dead,_=>.dead
noncomputable def qN:St->Bool
 | .out k=>k==0| .esc k=>k==0| .q _ r=>r==some 0| .qe _ r=>r==some 0| .dead=>false
theorem juN(k c:Nat):stp (.out k) c=if c==92 then .esc k else if c==34 then .q k (some k) else if c==40 then .out (k+1) else if c==41 then(match k with|0=>.dead|k+1=>.out k) else .out k:=rfl
theorem jzN(k c:Nat)(r:Option Nat):stp (.q k r) c=if c==92 then .qe k r else if c==34 then .out k else if c==40 then .q k (r.map (·+1)) else if c==41 then .q k (Dk r) else .q k r:=rfl
theorem jld:∀s:List Nat,s.foldl stp .dead=.dead:=λs=>s.rec
  rfl
  λZ r ih=>ih
def m7(e:Bool)(r:Option Nat)(x:List Nat):Bool:=match r with
 |none=>false|some j=>raw e j x
theorem jlN(e:Bool)(r:Option Nat):m7 e r []=(r==some 0):=by
 cases r with|none=>rfl|some j=>rfl
theorem jpl(r:Option Nat)(c:Nat)(x:List Nat):m7 false r (c::x)=(if c==92 then m7 true r x else if c==40 then m7 false (r.map (·+1)) x else if c==41 then m7 false (Dk r) x else m7 false r x):=by
 cases r with
 |none=>cases c==92<;>cases c==40<;>cases c==41<;>rfl
 |some j=>
  show(if c==92 then raw true j x else if c==40 then raw false (j+1) x else if c==41 then(if j==0 then false else raw false (j-1) x) else raw false j x)=_;cases c==92<;>cases c==40<;>cases c==41<;>first|rfl|(cases j<;>rfl)
theorem jkD(r:Option Nat)(c:Nat)(x:List Nat):m7 true r (c::x)=m7 false r x:=by
 cases r<;>rfl
structure SRun(s:List Nat):Prop where
 o:∀k,raw false k (fs 0 [] s)=qN (s.foldl stp (.out k))
 e:∀k,raw true k (fs 1 [] s)=qN (s.foldl stp (.esc k))
 q:∀k buf r,(∀x,raw false k (buf++x)=m7 false r x)->raw false k (fs 2 buf s)=qN (s.foldl stp (.q k r))
 p:∀k buf r,(∀x,raw false k (buf++x)=m7 true r x)->raw false k (fs 3 buf s)=qN (s.foldl stp (.qe k r))
theorem jxx(S:SRun s)(k:Nat):raw false k (fs 0 [] (c::s))=qN ((c::s).foldl stp (.out k)):=by
 show raw false k (if c==92 then 92::fs 1 [] s else if c==34 then fs 2 [34] s else c::fs 0 [] s)=qN (s.foldl stp (if c==92 then .esc k else if c==34 then .q k (some k) else if c==40 then .out (k+1) else if c==41 then(match k with|0=>.dead|k+1=>.out k) else .out k));cases h9:c==92 with
 |true=>exact S.e k
 |false=>
  cases c==34 with
  |true=>exact S.q k [34] (some k) λx=>rfl
  |false=>
   show(if c==92 then raw true k (fs 0 [] s) else if c==40 then raw false (k+1) (fs 0 [] s) else if c==41 then(if k==0 then false else raw false (k-1) (fs 0 [] s)) else raw false k (fs 0 [] s))=_;rw[h9];cases c==40 with
   |true=>exact S.o (k+1)
   |false=>
    cases c==41 with
    |true=>
     cases k with|zero=>exact(aU qN (jld s)).symm|succ k=>exact S.o k
    |false=>exact S.o k
theorem jxy(S:SRun s)(k:Nat)(buf:List Nat)(r:Option Nat)(h:∀x,raw false k (buf++x)=m7 false r x):raw false k (fs 2 buf (c::s))=qN ((c::s).foldl stp (.q k r)):=by
 have hx:∀x,raw false k (buf++[c]++x)=(if c==92 then m7 true r x else if c==40 then m7 false (r.map (·+1)) x else if c==41 then m7 false (Dk r) x else m7 false r x):=λx=>(by rw[dm];exact(h ([c]++x)).trans (jpl r c x));show raw false k (if c==92 then fs 3 (buf++[92]) s else if c==34 then fs 0 [] s else fs 2 (buf++[c]) s)=qN (s.foldl stp (if c==92 then .qe k r else if c==34 then .out k else if c==40 then .q k (r.map (·+1)) else if c==41 then .q k (Dk r) else .q k r));by_cases h9:c=92
 ·subst h9;exact S.p k _ r hx
 rw[gD.mpr h9] at hx⊢;cases c==34 with
 |true=>exact S.o k
 |false=>
  revert hx;cases c==40 with
  |true=>exact λhx=>S.q k _ _ hx
  |false=>
   cases c==41 with|true=>exact λhx=>S.q k _ _ hx|false=>exact λhx=>S.q k _ _ hx
theorem jpX:∀(s:List Nat),SRun s:=λs=>s.rec
  (⟨λk=>rfl,λk=>rfl,λk buf r h=>(aU (raw false k) (fV buf)).symm.trans ((h []).trans (jlN ..)),λk buf r h=>(aU (raw false k) (fV buf)).symm.trans ((h []).trans (jlN ..))⟩)
  λc s ih=>
  have S:=ih
  ⟨jxx S,S.o,jxy S,λk buf r h=>S.q k (buf++[c]) r λx=>by rw[dm];exact(h ([c]++x)).trans (jkD r c x)⟩
theorem zK(s:List Nat):check s=qN (s.foldl stp (.out 0)):=(jpX s).o 0
noncomputable def jc:Bool->List Nat->List (List Nat)
 |e,[]=>if e then [[92]] else []|e,c::r=>if e then [92,c]::jc false r else if c==92 then jc true r else [c]::jc false r
noncomputable def n6(c:Nat):Bool:= !(c==92)&& !(c==34)&& !(c==40)&& !(c==41)
theorem Hz(h:n6 c=true):(c==92)=false/\(c==34)=false/\(c==40)=false/\(c==41)=false:=by
 unfold n6 at h;simp only[eN,qY] at h;exact jh h.1.1.1 h.1.1.2 h.1.2 h.2
theorem M8(h:n6 c=true)(k:Nat):stp (.out k) c=.out k:=by
 refine cW (Hz h) λh1 h2 h3 h4=>?_;rw[juN,h1,h2,h3,h4];rfl
theorem jjt(h:n6 c=true)(r:List Nat):jc false (fs 0 [] (c::r))=[c]::jc false (fs 0 [] r):=by
 refine cW (Hz h) λh1 h2 Z Z=>?_;show jc false (if c==92 then 92::fs 1 [] r else if c==34 then fs 2 [34] r else c::fs 0 [] r)=_;rw[h1,h2];show(if false then _ else if c==92 then jc true (fs 0 [] r) else [c]::jc false (fs 0 [] r))=_;rw[h1];rfl
noncomputable def Dl(u:Nat):List (List (List Nat)):=[[],[[92,41]],[],[[u]],[[92,92]],[],[[92,34]],[]]
def jxe:List Nat->List Nat
 |[c]=>if gM.contains (c:Int) then [] else(jO c).getD []|_=>[]
def uP(us:List (List Nat)):List Nat:=us.flatMap jxe
def wD(u:List Nat):Bool:=match u with
 |[c]=>gM.contains (c:Int)||(jO c).isSome|_=>true
theorem U4(a b:List (List Nat)):uP (a++b)=uP a++uP b:=List.flatMap_append
structure Seen(s:List Nat)(u:List (List Nat))(w:List Nat):Prop where
 see:∀r,jc false (fs 0 [] (s++r))=u++jc false (fs 0 [] r)
 run:∀k,s.foldl stp (.out k)=.out k
 prep:uP u=w
 all:u.all wD=true
theorem Seen.app(h:Seen s u w)(k:Seen s' u' w'):Seen (s++s') (u++u') (w++w') where
 see r:=by rw[dm,h.see,k.see,dm]
 run n:=by rw[lC,h.run,k.run]
 prep:=by rw[U4,h.prep,k.prep]
 all:=by rw[vf,h.all,k.all];rfl
theorem Seen.sig(h1:n6 c=true)(h2:gM.contains (c:Int)=false)(h3:jO c=some w):Seen [c] [[c]] w where
 see:=jjt h1
 run:=M8 h1
 prep:=by
  show(if gM.contains (c:Int) then [] else(jO c).getD [])++[]=w;rw[h2,h3,fV];rfl
 all:=by
  show((gM.contains (c:Int)||(jO c).isSome)&&true)=true;rw[h3];show((_||true)&&true)=true;rw[Jc];rfl
theorem Seen.nest(h:Seen s u w):Seen (40::(s++[41])) ([40]::(u++[[41]])) (40::(w++[41])) where
 see r:=aU ([40]::·) (by
  show jc false (fs 0 [] (s++[41]++r))=u++[[41]]++_;rw[dm,h.see,dm];rfl)
 run k:=by
  show(s++[41]).foldl stp (.out (k+1))=_;rw[lC,h.run];rfl
 prep:=by
  show uP ([[40]]++(u++[[41]]))=_;rw[U4,U4,h.prep,show uP [[40]]=[40] by kernel_rfl,show uP [[41]]=[41] by kernel_rfl];rfl
 all:=by
  show(wD [40]&&(u++[[41]]).all wD)=true;rw[vf,h.all,show wD [40]=true by kernel_rfl,jR,show wD [41]=true by kernel_rfl];rfl
theorem jrq(hu:n6 u=true)(hb:gM.contains (u:Int)=true):∀j,j<8->Seen ((CW u).getD j []) ((Dl u).getD j []) []
 |0,_|1,_|2,_|4,_|5,_|6,_=>⟨λZ=>rfl,λZ=>rfl,rfl,rfl⟩
 |3,_=>by
  refine⟨jjt hu,M8 hu,?_,?_⟩
  ·show(if gM.contains (u:Int) then [] else(jO u).getD [])++[]=[];rw[hb];rfl
  ·show((gM.contains (u:Int)||(jO u).isSome)&&true)=true;rw[hb];rfl
 |7,_=>by
  refine cW (Hz hu) λh1 h2 h3 h4=>?_;refine⟨λr=>?_,λk=>?_,rfl,rfl⟩
  ·show jc false (if u==92 then fs 3 ([34,41]++[92]) (34::r) else if u==34 then fs 0 [] (34::r) else fs 2 ([34,41]++[u]) (34::r))=jc false (fs 0 [] r);rw[h1,h2];rfl
  ·show stp (stp (.q k (Dk (some k))) u) 34=_;rw[jzN,h1,h2,h3,h4];rfl
 |j+8,h=>absurd h (bw (lu ..))
def jz1:Bool:=(List.range 27).all λi=>n6 (Hi.getD i 0)&&gM.contains (Hi.getD i 0:Int)
theorem jxQ:jz1=true:=⋯
theorem jjK(x:Nat):n6 (qL x)=true/\gM.contains (qL x:Int)=true:=
 bD (cU.mp jxQ (x / 40 % 27) (uc.mpr (jf _ ∅)))
def jzL:Bool:=(List.range 5).all λi=>(List.range 13).all λj=>n6 ((Hn (wk.getD i 0) (wu.getD i 0)).getD j 0)&&(!gM.contains ((Hn (wk.getD i 0) (wu.getD i 0)).getD j 0:Int)&&jO ((Hn (wk.getD i 0) (wu.getD i 0)).getD j 0)==some [wk.getD i 0])
theorem jxq:jzL=true:=⋯
theorem U5(x:Nat):n6 (rN x)=true/\gM.contains (rN x:Int)=false/\jO (rN x)=some [dW x]:=by
 have h:=cU.mp (cU.mp jxq (x % 5) (uc.mpr (jf _ ∅))) (x / 1080 % 13) (uc.mpr (jf _ ∅));refine kA (bD h) λh1 h2=>?_;refine kA (bD h2) λh2 h3=>?_;exact⟨h1,(qY _).mp h2,eq_of_beq h3⟩
def M9(k:List Nat)(c:Nat):Bool:=n6 c&&(!gM.contains (c:Int)&&(jO c==some k&&k.length==2))
theorem HB(h:(if k==l then some a else x)=some c)(p:M9 l a=true)(q:x=some c->M9 k c=true):M9 k c=true:=by
 by_cases e:(k==l)=true
 ·rw[←ir ((aX e).symm.trans h),eq_of_beq e];exact p
 ·exact q ((aZ e).symm.trans h)
theorem jjB(h:jP k=some c):(n6 c=true/\gM.contains (c:Int)=false/\jO c=some k)/\k.length=2:=by
 have t:M9 k c=true:=HB h ⋯ λh=>HB h ⋯ λh=>HB h ⋯ λh=>HB h ⋯ λh=>HB h ⋯ nn;exact⟨⟨(bD t).1,(qY _).mp (bD (bD t).2).1,eq_of_beq (bD (bD (bD t).2).2).1⟩,eq_of_beq (bD (bD (bD t).2).2).2⟩
def Tr.ok:Tr->Prop
 | .leaf _=>True| .node b l r=>(b=true->(jP (l.bare++r.bare)).isSome=true)/\l.ok/\r.ok
theorem jk5:∀t:Tr,1<=t.bare.length/\(t.bare.length=1->∃x,t=.leaf x):=λt=>t.rec
  (λx=>⟨aN 1,λZ=>⟨x,rfl⟩⟩)
  λb l r ihl ihr=>by
  exact⟨lu ..,λe=>absurd (aF (rY (aF ihl.1 (je ..)) 2) (fH ((U0 b l r).symm.trans e))) ∅⟩
theorem jm7{l r:Tr}(h:(jP (l.bare++r.bare)).isSome=true):∃x y,l=.leaf x/\r=.leaf y:=by
 refine kE (iQ h) λc hc=>?_;have e:=(jjB hc).2;rw[bz] at e;have h1:=jk5 l;have h2:=jk5 r;refine kE (h1.2 (by lia)) λx hx=>?_;refine kE (h2.2 (by lia)) λy hy=>?_;exact fP x y hx hy
theorem ji5(h:List Nat)(c:Nat):jQ (h++[c])=h:=by
 unfold jQ;rw[bz,mD,DR,DQ rfl]
def Tr.units:Tr->List (List Nat)
 | .leaf x=>(Dl (qL x)).getD (x / 5 % 8) []++[[rN x]]| .node b l r=>[40]::(if b then Wn l++[[(jP (l.bare++r.bare)).getD 0]]++Wn r else l.units++r.units)++[[41]]
where Wn:Tr->List (List Nat)
 | .leaf x=>(Dl (qL x)).getD (x / 5 % 8) []| .node .. =>[]
theorem U6(x:Nat):Seen (wy x) ((Dl (qL x)).getD (x / 5 % 8) []) []:=jrq (jjK x).1 (jjK x).2 _ (jf _ ∅)
theorem seen:∀t:Tr,t.ok->Seen t.typed t.units t.bare
 | .leaf x,_=>(U6 x).app (.sig (U5 x).1 (U5 x).2.1 (U5 x).2.2)| .node false a b,h=>((seen a h.2.1).app (seen b h.2.2)).nest
 | .node true a b,h=>by
  refine eV (jm7 (h.1 rfl)) λx y eq1 eq2=>?_;subst eq1;subst eq2;refine kE (iQ (h.1 rfl)) λc hc=>?_;refine cD (jjB hc).1 λt1 t2 t3=>?_;have:=(((U6 x).app (.sig t1 t2 t3)).app (U6 y)).nest;rw[Og,fV] at this;show Seen (40::((jQ (wy x++[rN x])++[(jP _).getD 0]++jQ (wy y++[rN y]))++[41])) ([40]::(((Dl (qL x)).getD (x / 5 % 8) []++[[(jP _).getD 0]]++(Dl (qL y)).getD (y / 5 % 8) [])++[[41]])) _;rw[ji5,ji5,hc];exact this
theorem Nb(x:Nat):n6 (dW x)=true:=by
 have h1:=Uy x;have h2:=Mz x;unfold n6;rw[show(dW x==92)=false from gD.mpr (by lia),show(dW x==34)=false from gD.mpr (by lia),show(dW x==40)=false from gD.mpr (by lia),show(dW x==41)=false from gD.mpr (by lia)];rfl
theorem Nf:∀(t:Tr) (k:Nat),t.bare.foldl stp (.out k)=.out k:=λt=>t.rec
  (λx k=>M8 (Nb x) k)
  λZ a b ihl ihr k=>by
  show((a.bare++b.bare)++[41]).foldl stp (.out (k+1))=_;rw[lC,lC,ihl,ihr];rfl
theorem jsY:∀(t:Tr) (cur r:List Nat) (k:Nat),cur≠[]->cur.foldl stp (.out 0)=.out (k+1)->gq cur (t.bare++r)=gq (cur++t.bare) r:=λt=>t.rec
  (λx cur r k hc h=>by
  refine CX ?_;have h2:cur.isEmpty=false:=by cases cur with|nil=>exact absurd rfl hc|cons=>rfl
  rw[h2,(Hz (Nb x)).2.2.2];rfl)
  λZ a b ihl ihr cur r k hc h=>by
  have h2:cur.isEmpty=false:=by cases cur with|nil=>exact absurd rfl hc|cons=>rfl
  have e1:gq cur (40::((a.bare++b.bare)++[41]++r))=gq (cur++[40]) ((a.bare++b.bare)++[41]++r):=CX (by rw[h2];rfl);have r1:(cur++[40]).foldl stp (.out 0)=.out (k+1+1):=by rw[lC,h];rfl
  have r2:(cur++[40]++a.bare).foldl stp (.out 0)=.out (k+1+1):=by rw[lC,r1,Nf]
  have r3:(cur++[40]++a.bare++b.bare).foldl stp (.out 0)=.out (k+1+1):=by rw[lC,r2,Nf]
  show gq cur (40::((a.bare++b.bare)++[41]++r))=_;rw[e1,dm,dm,ihl (cur++[40]) _ (k+1) (by simp) r1,ihr (cur++[40]++a.bare) _ (k+1) (by simp) r2];show gq (cur++[40]++a.bare++b.bare) (41::r)=_;rw[CX (by
   rw[zK,lC,r3];show(((cur++[40]++a.bare++b.bare).isEmpty||true)&&(k+1==0))=false;rw[Jc];rfl)]
  rw[Tr.bare];simp only[dm,vg,Og]
theorem jtR(t:Tr)(r:List Nat):gq [] (t.bare++r)=t.bare::gq [] r:=by
 cases t with
 |leaf x=>
  refine MJ ?_;have e:check ([]++[dW x])=true:=by
   rw[zK];show qN (stp (.out 0) (dW x))=true;rw[M8 (Nb x)];rfl
  rw[e];rfl
 |node b l r'=>
  have e1:gq [] (40::((l.bare++r'.bare)++[41]++r))=gq [40] ((l.bare++r'.bare)++[41]++r):=CX ⋯;have r2:([40]++l.bare).foldl stp (.out 0)=.out 1:=by rw[lC];exact Nf l 1
  have r3:([40]++l.bare++r'.bare).foldl stp (.out 0)=.out 1:=by rw[lC,r2,Nf]
  show gq [] (40::((l.bare++r'.bare)++[41]++r))=_;rw[e1,dm,dm,jsY l [40] _ 0 (by simp) rfl,jsY r' ([40]++l.bare) _ 0 (by simp) r2];show gq ([40]++l.bare++r'.bare) (41::r)=_;rw[MJ (by
   rw[zK,lC,r3];show((([40]++l.bare++r'.bare).isEmpty||true)&&true)=true;rw[Jc];rfl)]
  rfl
theorem U7:∀T:List Tr,gq [] (T.flatMap Tr.bare)=T.map Tr.bare:=λT=>T.rec
  rfl
  λt T ih=>by rw[uh,jtR,ih];rfl
theorem jr1(b:Bool)(l r:Tr):rO (Tr.node b l r).bare=l.bare++r.bare:=by
 unfold rO;show((40::(l.bare++r.bare)++[41]).take ((40::(l.bare++r.bare)++[41]).length-1)).drop 1=_;rw[bz,mD,DR,DQ rfl];rfl
theorem HD:∀(t:Tr) (n:Nat),t.size<=n->t.size<=8->rP n t.bare=some t.poly
 |t,0,h,_=>absurd (Hu t) (by lia)| .leaf x,n+1,_,_=>rfl
 | .node b l r,n+1,h,h8=>by
  have s1:=Hu l;have s2:=Hu r;have e:(Tr.node b l r).size=l.size+r.size:=rfl;have hl:(Tr.node b l r).bare.length≠1:=by
   rw[U0];exact λe=>absurd (aF (lu 2 _) (fH e)) ∅
  have hc:gq [] (l.bare++r.bare)=[l.bare,r.bare]:=by
   have:=U7 [l,r];simpa using this
  show(if (Tr.node b l r).bare.length=1 then _ else(kI (gq [] (rO (Tr.node b l r).bare))).bind λq=>(rP n q.1).bind λP=>(rP n q.2).bind λQ=>if fG P&&fG Q then some (m5 P Q) else none)=_;rw[aZ hl,jr1,hc];show((rP n l.bare).bind λP=>(rP n r.bare).bind λQ=>if fG P&&fG Q then some (m5 P Q) else none)=_;rw[HD l n (by lia) (by lia),HD r n (by lia) (by lia)];show(if fG l.poly&&fG r.poly then some (m5 l.poly r.poly) else none)=_;rw[Hw (by lia),Hw (by lia)];rfl
theorem jux:∀t:Tr,uN (cB t.poly):=λt=>t.rec
  (λx=>jpg (dW x))
  λZ l r ihl ihr=>jph (ihl) (ihr)
noncomputable def wF(c:Nat):Bool:=decide (97<=c)&&decide (c<=122)
def eU(w:List Nat):Bool:=w.all wF
theorem U8(h:wF c=true):du c=c/\du (cI c)=c/\cI (cI c)=cI c/\c<128:=by
 have h1:=dB (bD h).1;have h2:=dB (bD h).2;have key:∀c,c<128->97<=c->c<=122->du c=c/\du (cI c)=c/\cI (cI c)=cI c/\c<128:=by decide
 exact key c (by lia) h1 h2
theorem zL(h:eU w=true):w.map du=w/\(w.map cI).map du=w/\(w.map cI).map cI=w.map cI/\eQ w=true/\eQ (w.map cI)=true:=by
 induction w with
 |nil=>exact nM rfl rfl rfl rfl rfl
 |cons c r ih=>
  refine kA (bD (show(wF c&&r.all wF)=true from h)) λh1 h2=>?_;refine cW (U8 h1) λa1 a2 a3 a4=>?_;refine rm (ih h2) λb1 b2 b3 b4 b5=>?_;have up:cI c<128:=by
   have key:∀c,c<128->cI c<128:=by decide
   exact key c a4
  refine nM ?_ ?_ ?_ ?_ ?_
  ·rw[fu,a1,b1]
  ·rw[fu,fu,a2,b2]
  ·rw[fu,fu,a3,b3]
  ·show(decide (c<128)&&eQ r)=true;rw[b8 a4,b4];rfl
  ·show(decide (cI c<128)&&eQ (r.map cI))=true;rw[b8 up,b5];rfl
theorem jxR(ha:eU a=true)(hb:eU b=true):(a.map cI==b.map cI)=(a==b):=by
 rw[qX,bO,bO];refine⟨λh=>?_,λh=>h▸rfl⟩;rw[←(zL ha).2.1,h,(zL hb).2.1]
structure jd(n:Nat)(P:Poly):Prop where
 unit:∀q∈P,qM n q
 low:∀q∈P,eU q.1=true
theorem jd.tail(h:jd n (q::P)):jd n P:=⟨λx hx=>h.unit x (pO _ hx),λx hx=>h.low x (pO _ hx)⟩
theorem U9(h:q.2=1):markV q=lX q.1 [43]:=by unfold markV;rw[h];rfl
theorem Va(h:q.2= -1):markV q=lX (q.1.map cI) [45]:=by unfold markV;rw[h];rfl
theorem Ng(a b v w:List Nat):(lX a v).beq (lX b w)=((a==b)&&(v==w)):=by
 show((PV.str a).beq (.str b)&&((PV.str v).beq (.str w)&&true))=_;rw[rJ,rJ,mF]
theorem jq5{n:Nat}{w:List Nat}(hw:eU w=true):∀{P:Poly},jd n P->(((P.map markV).countP λp=>p.beq (lX w [43]):Nat):Int)-(((P.map markV).countP λp=>p.beq (lX (w.map cI) [45]):Nat):Int)=cB P w:=λ{P}=>P.rec
  (λZ=>rfl)
  λq P ih' h=>by
  have ih:=ih' h.tail;have e:cB (q::P) w=iD q.1 q.2 w+cB P w:=rfl;have hl:=h.low q (nA ..);rw[fu,vm,vm,e];rcases(h.unit q (nA ..)).2 with h1|h1
  ·rw[U9 h1,Ng,Ng,show(([43]:List Nat)==[45])=false from rfl,show(([43]:List Nat)==[43])=true from rfl,mF,xj,iD,h1];by_cases hq:q.1=w
   ·rw[aX hq,aX (by rw[hq,kh]),aZ ∅];lia
   ·rw[aZ hq,aZ (by rw[bO];exact hq),aZ ∅];lia
  ·rw[Va h1,Ng,Ng,show(([45]:List Nat)==[43])=false from rfl,show(([45]:List Nat)==[45])=true from rfl,mF,xj,jxR hl hw,iD,h1];by_cases hq:q.1=w
   ·rw[aX hq,aZ ∅,aX (by rw[hq,kh])];lia
   ·rw[aZ hq,aZ ∅,aZ (by rw[bO];exact hq)];lia
theorem jlU(hl:eU q.1=true)(h:q.2=1\/q.2= -1):valOf w (markV q)=if q.1==w then some (.str (if q.2=1 then [43] else [45])) else none:=by
 rcases h with h1|h1
 ·rw[U9 h1];show(if q.1.map du==w then some (PV.str [43]) else none)=_;rw[(zL hl).1,h1];rfl
 ·rw[Va h1];show(if (q.1.map cI).map du==w then some (PV.str [45]) else none)=_;rw[(zL hl).2.1,h1];rfl
theorem jjD{n:Nat}{w:List Nat}:∀{P:Poly},jd n P->(((lV w (P.map markV)).countP λp=>p.beq (.str [43]):Nat):Int)-(((lV w (P.map markV)).countP λp=>p.beq (.str [45]):Nat):Int)=cB P w/\(lV w (P.map markV)).all (λp=>p.bV.isSome)=true/\(lV w (P.map markV)).length<=P.length
 |[],_=>⟨rfl,rfl,aN _⟩
 |q::P,h=>by
  refine cD (jjD (w:=w) h.tail) λih ih2 ih3=>?_;have e:cB (q::P) w=iD q.1 q.2 w+cB P w:=rfl;have hu:=(h.unit q (nA ..)).2;have hv:=jlU (w:=w) (h.low q (nA ..)) hu;have hd:lV w ((q::P).map markV)=(if q.1==w then [.str (if q.2=1 then [43] else [45])] else [])++lV w (P.map markV):=by
   unfold lV;rw[fu,Jo,hv];cases q.1==w<;>rfl
  rw[hd,e,iD];by_cases hq:q.1=w
  ·rw[aX (by rw[hq,kh]),aX hq,List.singleton_append];refine⟨?_,?_,pX ih3⟩
   ·rw[vm,vm,rJ,rJ];rcases hu with h1|h1
    ·rw[h1,aX rfl,show(([43]:List Nat)==[45])=false from rfl,show(([43]:List Nat)==[43])=true from rfl,aX rfl,aZ ∅];lia
    ·rw[h1,show(if (-1:Int)=1 then [43] else [45])=([45]:List Nat) from rfl,show(([45]:List Nat)==[45])=true from rfl,show(([45]:List Nat)==[43])=false from rfl,aX rfl,aZ ∅];lia
   ·rw[jR,ih2];rfl
  ·rw[aZ (by rw[bO];exact hq),aZ hq,Og];exact⟨by lia,ih2,aF ih3 (iH _)⟩
theorem jr0(q:List Nat×Int):∃a b,markV q=lX a b:=by
 unfold markV;split<;>exact kW _ _ rfl
theorem jpv(P:Poly)(c d:List Nat):(P.map markV).all (λp=>tV p&&PV.cQ 3 p (lX c d))=true:=by
 rw[cU];intro p hp;refine eY p (gY.mp hp) λq Z=>?_;refine kO (jr0 q) λa b e=>?_;rw[e];rfl
theorem jfL(P:Poly)(c d:List Nat)(h:P.length<=500):countM (.lst (P.map markV)) [lX c d]=some (.int ((P.map markV).countP λp=>p.beq (lX c d):Nat)):=by
 show(if aL (P.map markV).length&&(P.map markV).all (λp=>tV p&&PV.cQ 3 p (lX c d)) then some (PV.int ((P.map markV).countP λp=>p.beq (lX c d):Nat)) else none)=_;exact bN (by rw[jpv,bH,bG (aF h ∅)];rfl) rfl
def asked(w lw:List Nat):Prop:=w=lw\/w=lw.map cI
theorem Nh(hl:eU lw=true)(h:asked w lw):w.map du=lw/\w.map cI=lw.map cI/\eQ w=true/\w.length=lw.length:=by
 refine rm (zL hl) λh1 h2 h3 h4 h5=>?_;rcases h with rfl|rfl
 ·exact jh h1 rfl h4 rfl
 ·exact jh h2 h3 h5 (bH ..)
theorem jwp(hP:jd n P)(hk:P.length<=500)(hl:eU lw=true)(ha:asked w lw)(hw:lw.length<=500):zE [.lst (P.map markV),.str w]=some (.int (cB P lw)):=by
 refine cW (Nh hl ha) λh1 h2 h3 h4=>?_;show(if eQ w&&aL w.length then(countM (.lst (P.map markV)) [lX (w.map du) [43]]).bind λa=>(countM (.lst (P.map markV)) [lX (w.map cI) [45]]).bind λb=>De a b else none)=_;refine bN (by rw[h3,h4,bG (aF hw ∅)];rfl) ?_;rw[h1,h2,jfL P _ _ hk,jfL P _ _ hk];show some (PV.int _)=_;rw[jq5 hl hP]
theorem Vb(h:eU w=true)(hk:w.length<=500):dU w=true:=by
 unfold dU;rw[b8 (show w.length<1000000000000 by lia),mF,cU];intro c hc;have h:=cU.mp h c hc;have h1:=dB (bD h).1;have h2:=dB (bD h).2;unfold jA;rw[b8 (show 31<c by lia),b8 (show c≠127 by lia)];rfl
theorem jo5(hP:jd n P)(hn:n<=500):(P.map markV).all Ha=true:=by
 rw[cU];intro p hp;refine eY p (gY.mp hp) λq hq=>?_;have hl:=hP.low q hq;refine kA (hP.unit q hq) λhu hs=>?_;refine rm (zL hl) λZ Z Z h4 h5=>?_;have hk:aL n=true:=bG (aF hn ∅);rcases hs with h1|h1
 ·rw[U9 h1];show((eQ q.1&&aL q.1.length)&&true)=true;rw[h4,hu,hk];rfl
 ·rw[Va h1];show((eQ (q.1.map cI)&&aL (q.1.map cI).length)&&true)=true;rw[h5,bH,hu,hk];rfl
theorem js4(hP:jd n P)(hn:n<=500)(hk:P.length<=500)(hl:eU lw=true)(ha:asked w lw)(hw:lw.length<=500):j5 w (P.map markV)=some (lV lw (P.map markV)):=by
 refine cW (Nh hl ha) λh1 h2 h3 h4=>?_;unfold j5;rw[h1,h3,h4,Vb hl hw,jo5 hP hn,bH,bG (aF hk ∅),bG (aF hw ∅)];rfl
theorem jiL(l:LV)(x c:List Nat)(h:l.length<=1000)(ht:l.all (λp=>p.bV.isSome)=true):countM (.own (l++[.str x])) [.str c]=some (PV.int (((l++[PV.str x]).countP λp=>PV.beq p (.str c):Nat):Int)):=by
 show(if aL (l++[PV.str x]).length&&(l++[PV.str x]).all (λp=>tV p&&PV.cQ 3 p (.str c)) then some (PV.int ((l++[PV.str x]).countP λp=>p.beq (.str c):Nat)) else none)=_;refine bN ?_ rfl;have e:(l++[PV.str x]).all (λp=>tV p&&PV.cQ 3 p (.str c))=true:=by
  rw[vf,eN];refine⟨?_,rfl⟩;rw[cU];intro p hp;refine kE (iQ (cU.mp ht p hp)) λy hy=>?_;rw[PV.fJ hy];rfl
 rw[e,bz,mD,bG (show l.length+1<=1000000 by lia)];rfl
theorem count_at(hP:jd n P)(hn:n<=500)(hk:P.length<=500)(hl:eU lw=true)(ha:asked w lw)(hw:lw.length<=500):wA [.hdr (P.map markV),.str w]=some (.int (cB P lw)):=by
 refine cD (jjD (w:=lw) hP) λt1 t2 t3=>?_;show((j5 w (P.map markV)).bind λvs=>if aL (vs.length+1) then(countM (.own (vs++[.str [43]])) [.str [43]]).bind λa=>(countM (.own (vs++[.str [43]])) [.str [45]]).bind λb=>(De a b).bind λc=>De c (.int 1) else none)=_;rw[js4 hP hn hk hl ha hw];refine bN (bG (by lia)) ?_;rw[jiL _ _ _ (by lia) t2,jiL _ _ _ (by lia) t2];show some (PV.int (_-_-1))=_;rw[←t1,List.countP_append,List.countP_append];have e1:(([PV.str [43]]:LV).countP λp=>p.beq (.str [43]))=1:=by rw[vm,rJ];rfl
 have e2:(([PV.str [43]]:LV).countP λp=>p.beq (.str [45]))=0:=by rw[vm,rJ];rfl
 rw[e1,e2];refine aU (λi=>some (PV.int i)) ?_;lia
def nameQ(q:List Nat×Int):List Nat:=if q.2<0 then q.1.map cI else q.1
theorem Vc(P:Poly)(hk:P.length<=500):yU [.hdr (P.map markV)]=some (.lst (P.map λq=>.str (nameQ q))):=by
 have hm:∀q:List Nat×Int,markV q=.tup [.str (nameQ q),.str (if q.2<0 then [45] else [43])]:=λq=>by
  unfold markV nameQ;split<;>rfl
 have hr:∀P:Poly,LK (P.map markV)=some (P.map λq=>.str (nameQ q)):=λP=>by
  induction P with
  |nil=>rfl
  |cons q P ih=>
   refine aK ?_ ih;rw[hm];rfl
 have hp:(P.map markV).all (λp=>(lM p).any λq=>q.2.plain)=true:=by
  rw[cU];intro p hp;refine eY p (gY.mp hp) λq Z=>?_;rw[hm];rfl
 show(if (P.map markV).all (λp=>(lM p).any λq=>q.2.plain) then(LK (P.map markV)).bind gj else none)=_;refine bN hp ?_;rw[hr];show gj _=_;rw[gj,aX (by rw[bH];exact bG (aF hk ∅))]
theorem Vd(hP:jd n P)(hq:q∈P):asked (nameQ q) q.1/\eU q.1=true/\q.1.length=n:=by
 refine⟨?_,hP.low q hq,(hP.unit q hq).1⟩;unfold nameQ asked;split
 ·exact .inr rfl
 ·exact .inl rfl
theorem Ni(h:eU a=true)(k:eU b=true):eU (a++b)=true:=by
 unfold eU at*;rw[vf,h,k];rfl
theorem jpr(h:jd n P)(k:jd m Q):jd (n+m) (jb P Q) where
 unit:=jjI h.unit k.unit
 low:=λq hq=>by
  refine aH (Dz.mp hq) λp hp hq=>?_;refine eY q (gY.mp hq) λr hr=>?_;exact Ni (h.low p hp) (k.low r hr)
theorem jrU:∀t:Tr,∀q∈t.poly,eU q.1=true:=λt=>t.rec
  (λx q h=>by
  cases oG.mp (show q∈[_] from h);show(wF (dW x)&&true)=true;unfold wF;rw[b8 (Uy x),b8 (show dW x<=122 from DY (Mz x))];rfl)
  λZ l r ihl ihr q h=>by
  rcases wN.mp h with h|h
  ·refine aH (Dz.mp h) λp hp h=>?_;refine eY q (gY.mp h) λs hs=>?_;exact Ni (ihl p hp) (ihr s hs)
  ·refine aH (Dz.mp h) λp hp h=>?_;refine eY q (gY.mp h) λs hs=>?_;exact Ni (ihr s hs) (ihl p hp)
theorem jpt(t:Tr):jd t.size t.poly:=⟨jjJ t,jrU t⟩
theorem juv(t:Tr):t.poly.length<=2 ^ t.size:=by
 have:=MT t;lia
theorem juw:∀t:Tr,1<=t.poly.length:=λt=>by
 have h:=MT t;have h2:2 ^ 1<=2 ^ t.size:=pU (n:=2) ∅ (Hu t);lia
theorem jps(h:jd n P)(hn:n<=8)(hl:P.length<=2 ^ n):fG P=true:=
 jqh (n:=n) (aF hl (aF (pU (n:=2) ∅ hn) ∅)) (aF hn ∅) h.unit
theorem prod_facts:∀(T:List Tr) (P:Poly) (n:Nat),jd n P->n+cT T<=8->P.length<=2 ^ n->1<=P.length->
  zB P (T.map Tr.poly)=true/\jd (n+cT T) ((T.map Tr.poly).foldl jb P)/\((T.map Tr.poly).foldl jb P).length<=2 ^ (n+cT T)/\1<=((T.map Tr.poly).foldl jb P).length:=λT=>T.rec
  (λP n h hn hl hp=>by
  refine jh ?_ h hl hp;show(fG P&&P.all λq=>eQ q.1)=true;rw[jps h hn hl,u9,cU];exact λq hq=>(zL (h.low q hq)).2.2.2.1)
  λt T ih P n h hn hl hp=>by
  have e:cT (t::T)=t.size+cT T:=rfl;rw[e] at hn;refine cW (ih (jb P t.poly) (n+t.size) (jpr h (jpt t)) (by lia) (by
   rw[MP,Nat.pow_add];exact Ow hl (juv t)) (by
   rw[MP];exact Nat.mul_pos hp (juw t))) λh1 h2 h3 h4=>?_
  rw[e,←rW];refine jh ?_ h2 h3 h4;show(fG P&&fG t.poly&&zB (jb P t.poly) (T.map Tr.poly))=true;rw[h1,jps h (by lia) hl,Hw (by lia)];rfl
def dH(T:List Tr):Poly:=nZ (T.map Tr.poly)
theorem Ve(h:cT T<=8):zB [([],1)] (T.map Tr.poly)=true/\jd (cT T) (dH T)/\(dH T).length<=500/\1<=(dH T).length:=by
 refine cW (prod_facts T [([],1)] 0 ⟨λq hq=>by rw[oG.mp hq];exact⟨rfl,.inl rfl⟩,λq hq=>by rw[oG.mp hq];rfl⟩ (by rw[mC];exact h) (aN _) (aN _)) λh1 h2 h3 h4=>?_;rw[mC] at h2 h3;exact jh h1 h2 (aF h3 (aF (pU (n:=2) ∅ h) ∅)) h4
theorem jpo(h:cT T<=8):MK [.lst ((T.map Tr.poly).map bZ)]=some (.lst ((dH T).map markV)):=by
 show((cF wi ((T.map Tr.poly).map bZ)).bind λPs=>if zB [([],1)] Ps then some (PV.lst ((nZ Ps).map markV)) else none)=_;rw[Ur Ut];exact bN (Ve h).1 rfl
theorem Vf:∀{l r:List Tr},l.Sublist r->cT l<=cT r
 |_,_,.slnil=>aN _|_,_,.cons _ h=>aF (Vf h) (lu ..)|_,_,.cons₂ _ h=>oH (Vf h) _
theorem HF(T:List Tr)(d:Nat):cT (cz T d)<=cT T:=Vf (Ms T d)
theorem jsg(T:List Tr)(u v:Wd):dG (cB (dH T)) (fj u v)=dG (λd=>cB (dH (cz T d)) u*cB (dH (cz T (2 ^ T.length-1-d))) v) (List.range (2 ^ T.length)):=by
 have h:=jq1 Tr.poly jux T.reverse u v;rw[List.reverse_reverse] at h;exact h
theorem getD_mem{T:List Tr}(h:∀t∈T,t.ok)(p:Nat):(T.getD p default).ok:=by
 rw[g8];cases hp:T[p]? with|none=>exact lz|some t=>exact h t (List.mem_of_getElem? hp)
theorem juM{T:List Tr}(h:∀t∈T,t.ok)(p:Nat)(w:Bool):∀t∈stepT p w T,t.ok:=λt ht=>by
 unfold stepT at ht;rcases wN.mp ht with ht|ht
 ·rcases wN.mp ht with ht|ht
  ·exact h t (DK ht)
  ·rw[oG] at ht;subst ht;exact⟨λe=>(bD e).1,getD_mem h p,getD_mem h (p+1)⟩
 ·exact h t (List.mem_of_mem_drop ht)
theorem jpx(c6:Nat):∀(n t rest:Nat) (T:List Tr),(∀x:Tr,x∈T->x.ok)->n+1<=T.length->(∀x:Tr,x∈Di c6 n t rest T->x.ok)/\cT (Di c6 n t rest T)=cT T/\(Di c6 n t rest T).length+n=T.length:=λn=>n.recAux
  (λZ Z T h Z=>⟨h,rfl,rfl⟩)
  λn ih t rest T h hl=>by
  refine kA (step_size (T:=T) (p:=rest % (T.length-1)) (c6 / 2 ^ t % 2==1) (Hv (aF (lu 2 n) hl))) λk1 k2=>?_;refine cD (ih (t+1) (rest / (T.length-1)) _ (juM h (rest % (T.length-1)) (c6 / 2 ^ t % 2==1)) (Ik (aF hl (fH k2.symm)))) λh1 h2 h3=>?_;exact⟨h1,h2.trans k1,(aU (·+1) h3).trans k2⟩
theorem jf4(hc:c.length=8):(∀t∈gV c,t.ok)/\cT (gV c)=5/\1<=(gV c).length/\(gV c).length<=3:=by
 have l5:(c.take 5).length=5:=by rw[sH,hc];rfl
 have h5:=jf (c.getD 5 0) (show 0<3 by decide);refine cD (jpx (c.getD 6 0) (2+c.getD 5 0 % 3) 0 (c.getD 5 0 / 3) ((c.take 5).map .leaf) (λt ht=>by
  refine eY t (gY.mp ht) λx Z=>?_;exact lz) (by rw[bH,l5];exact rY (oH (DY h5) 2) 1)) λh1 h2 h3=>?_
 rw[jfV,l5] at h2;rw[bH,l5] at h3;exact jh h1 h2 (Oo (b:=4) (aF (fH h3.symm) (oH (oH (DY h5) 2) _))) (Oo (b:=2) (aF (oH (je 2 _) _) (fH h3)))
set_option tactic.hygienic true
abbrev qO(D:Nat)(fs:List (Str×PF)):Prop:=∀x∈fs,∃f,bW x.1 f/\Callee D x.2 f
theorem Callee.up(x:Callee D F f)(h:D<=D'):Callee D' F f:=
 ⟨x.cw,λA s0 s C l vs p hA hh e hx hF=>x.ok A s0 s C l vs p (hA.mono h) hh e hx hF⟩
theorem Callee.spec(x:Callee D G f)(h:∀l p,F l=some p->G l=some p):Callee D F f:=
 ⟨x.cw,λA s0 s C l vs p hA hh e hx hF=>x.ok A s0 s C l vs p hA hh e hx (h l p hF)⟩
theorem n7(d:fc a fd sc body)(hbind:∀vals:List Value,vals.length=params.length->bindArgs fd ⟨vals,[]⟩=pure (params.zip vals))(O:Ops D T)(h:Runs F (iU T n params sc body)):Callee (D+1) F (.ref a):=
 Lj d hbind λl p hp=>by
  refine kA (h l p hp) λh1 h2=>?_;unfold iU at h2;refine aM h2 ?_;clear h2;intro η cL h2;refine aH (bx h2) λbC hb h2=>?_;obtain⟨out,aq⟩:=bC;refine kY h1 η cL (λA env C K KG s hA Z fa=>Wp.mono (yL (mV hA O n) body η env C K KG s out aq fa hb) λf s' q=>fP out aq q ?_);cases out<;>cases h2<;>rfl
theorem uQ:qO D []:=λZ h=>nomatch h
theorem Nj(D:Nat):qO D Cu:=by
 intro x hx;simp only[Cu,gO,wO,or_false] at hx;rcases hx with rfl|rfl|rfl|rfl|rfl|rfl|rfl|rfl
 ·exact aW _ jvZ jwY
 ·exact aW _ jvV jwf
 ·exact aW _ jv0 jw9
 ·exact aW _ jv1 jxD
 ·exact aW _ jno jnU
 ·exact aW _ jqC jsf
 ·exact aW _ Tp joQ
 ·exact aW _ jtD juX
theorem jwE:∀x∈Cv,∃v,bW x.1 v/\x.2.plain=true/\∀C h,VR C h x.2 v:=by
 intro x hx;simp only[Cv,gO,wO,or_false] at hx;rcases hx with rfl|rfl|rfl|rfl
 ·exact cG _ jyJ rfl (λZ Z=>.obj _)
 ·exact cG _ jyK rfl (λZ Z=>.obj _)
 ·exact cG _ jsU rfl (λZ Z=>.typ _)
 ·exact cG _ Tp rfl (λZ Z=>.typ _)
theorem jtj(h:aR A D):A.units+8<cLine:=by have:=h.units;lia
theorem HH:(V.h₀.get? sysModules).isSome=true:=⋯
theorem HJ{fs:List (Str×PF)}(hD:1<=D)(hfs:qO D fs)(dX:List Str)(hG:gens=true->4<=D):Ops D (lU fs dX gens):=
 LQ hD hG HH (λg F h=>yV (P:=λg F=>∃f,bW g f/\Callee D F f) hfs h) (λg F h=>yV (P:=λg F=>∃f,bW g f/\Callee D F f) (Nj D) h)
  (λx p h=>yV (P:=λx p=>∃v,bW x v/\p.plain=true/\∀C h,VR C h p v) jwE h)
  (λZ Z Z Z Z Z Z Z Z Z Z h=>by exact nn h)
  (λZ Z Z Z Z Z Z Z Z Z Z Z Z Z Z Z Z Z Z Z Z Z Z Z Z Z h=>by exact nn h)
  (λA s0 s C m a l ov o apos pos env trees p hA hh e x h1 h2 h3 h4 h=>jjf hh e x h1 h2 h3 h4 Tq Tt SN SQ (jtj hA) h)
  (λA s0 s C m a l ov o apos pos env trees q Z hh e x h1 h2 h3 h4 hm h=>by
   exfalso;have h:nU 140 145 m a l=some (.lst q):=h;simp only[ug,bO] at hm;rcases hm with rfl|rfl
   ·rw[show nU 140 145 "items" a l=none by kernel_rfl] at h;exact nn h
   ·rw[show nU 140 145 "get_all" a l=none by kernel_rfl] at h;exact nn h)
  (λZ Z Z Z Z Z Z Z Z Z Z h=>by exact nn h)
theorem jyU:jvg 1 (V.h₀.nsMap 273) dU where
 run:=QC 175 _ _ _ pF 10 ⋯ Th (HJ (aN 1) uQ [] (λh=>nomatch h)) jiE (λrows s b h=>jnM rows s b h)
theorem wG{fs:List (Str×PF)}(hD:2<=D)(hfs:qO D fs)(dX:List Str):Ops D (TY fs dX):=
 have O:=HJ (pP hD) hfs dX (gens:=false) (λh=>nomatch h)
 LQ (pP hD) (λh=>nomatch h) HH O.kJ (λg F h=>yV (P:=λg F=>∃f,bW g f/\Callee D F f) (Nj D) h) O.glob
  (λA s0 s C m a ov p hh e x h=>S9 nT hh e x h)
  (λA s0 s C m a l k b ov o apos pos env trees kt p hA hh e x h1 h2 h3 h4 h5 h=>jrH nT jyU (hA.mono hD) hh e x h1 h2 h3 h4 h5 h)
  O.meth O.sI (λZ Z Z Z Z Z Z Z Z Z Z h=>by exact nn h)
theorem items2:TQ 2 (V.h₀.nsMap 273) where
 run:=⟨238,_,_,_,_,_,_,_,_,nY,3,⋯,jog,wG (aN 2) uQ [],jl1,λrows=>aW ([mk (dw bj 17 11).2.2 [some (.hdr rows)]]) ⋯ ⋯⟩
theorem jok:TV 2 (V.h₀.nsMap 273) j5 where
 run:=⟨213,_,_,_,_,_,_,_,_,nY,⋯,jmk,wG (aN 2) uQ [],jj0,λnm rows q h=>jml nm rows q h⟩
theorem jyN(ov v:Value)(A:Around)(s:Shared)(hb:∀b o,V.h₀.get? b=some o->s.heap.get? b=some o):Wp A (bindArgs (d7 V.h₀ 168) ⟨[ov,v],[]⟩) (λb s'=>b=(["self","headers"]:List Str).zip [ov,v]/\s'=s) s:=by
 refine eO (jl0 ov v) λK h1 h2 h3=>?_;rw[h2];exact tbn (wpAny_seqItems (hb 161 _ (yR ⋯)) h1 (u6 h3 ⟨rfl,rfl⟩))
theorem jy4:jvh 2 (V.h₀.nsMap 273) tO where
 run:=⟨168,_,_,_,_,_,_,_,_,_,nY,12,⋯,jrn,wG (aN 2) uQ [],jyN,λa rows h=>jrw a rows h⟩
 sa:=⋯
theorem jwK:Callee 4 jAt (.ref 274):=jl3 nT jy4
theorem jy8:Callee 3 yU (.ref 226):=
 Lj jlo (nR ⋯) λl p hp=>by
  refine kA (joH l p hp) λh1 h2=>?_;unfold iU at h2;refine aM h2 ?_;clear h2;intro η cL h2;refine aH (bx h2) λbC hb h2=>?_;obtain⟨out,aq⟩:=bC;refine kY h1 η cL (λA env C K KG s hA Z fa=>Wp.mono (yL (mV hA (wG (aN 2) uQ []) 12) _ η env C K KG s out aq fa hb) λf s' q=>fP out aq q ?_);cases out<;>cases h2<;>rfl
theorem jAG{fs:List (Str×PF)}(hD:4<=D)(hfs:qO D fs)(dX:List Str):Ops D (spT fs dX):=
 have O:=wG (aF ∅ hD) hfs dX
 LQ (aF ∅ hD) (λh=>nomatch h) HH O.kJ (λg F h=>yV (P:=λg F=>∃f,bW g f/\Callee D F f) (Nj D) h) O.glob (λA s0 s C m a ov p hh e x h=>S9 nT hh e x h) O.mG
  (λA s0 s C m a l ov o apos pos env trees p hA hh e x h1 h2 h3 h4 h=>by
   rcases jkt h with ⟨hm,q,rfl⟩|⟨rfl,h⟩|h
   ·exact Wp.mono (jf1 hh x h1 h2 h3 h4 nT items2 jok (hA.mono (aF ∅ hD)) hm h) λv s' z=>(jj.post (λb hb=>hh.cJ b hb) z).imp e.trans id
   ·exact m_keys hh x h1 h2 h3 h4 nT ⋯ jlo jy8 (hA.mono (aF ∅ hD)) e h
   ·exact jjf hh e x h1 h2 h3 h4 Tq Tt SN SQ (jtj hA) h)
  (λA s0 s C m a l ov o apos pos env trees q hA hh e x h1 h2 h3 h4 hm h=>Wp.mono (jf1 hh x h1 h2 h3 h4 nT items2 jok (hA.mono (aF ∅ hD)) hm h) λv s' z=>z.up (λZ c=>c) e) (λZ Z Z Z Z Z Z Z Z Z Z h=>by exact nn h)
set_option tactic.hygienic false
theorem j7:qO D []:=λZ h=>nomatch h
theorem gB{D:Nat}{g:Str}{F:PF}{v:Value}{fs:List (Str×PF)}(hg:bW g v)(hc:Callee D F v)(h:qO D fs):qO D ((g,F)::fs):=λx hx=>by
 rcases gO.mp hx with rfl|hx
 ·exact aW v hg hc
 ·exact h x hx
theorem n8{D:Nat}(hD:1<=D){fs:List (Str×PF)}(hfs:qO D fs)(dX:List Str):Ops D (lU fs dX false):=HJ hD hfs dX (gens:=false) (λh=>nomatch h)
theorem jAF{D:Nat}(hD:4<=D){fs:List (Str×PF)}(hfs:qO D fs)(dX:List Str):Ops D (lU fs dX true):=HJ (aF ∅ hD) hfs dX (gens:=true) (λZ=>hD)
theorem Vg:Callee 1 Hf (.ref 45):=
 (jl4 (S:=pF) (n:=10) (D:=1) ∅ (jwD ⋯ (nR ⋯) ⋯) (n8 (aN 1) j7 []) jiB (aN 1)).spec λl p h=>(jrd l p h).2
theorem jAT:Callee 2 inF (.ref 84):=
 (jnD (T:=pF) (n:=10) (mem:=gM.contains) jrm (n8 (aN 1) j7 []) (nR ⋯) jyH jtE).spec λl p h=>(jt5 l p h).2
theorem jyQ:Callee 2 LR (.ref 130):=
 (jl5 (T:=pF) (n:=10) (by rfl) joh (n8 (aN 1) j7 []) (nR ⋯) jyI jyL).spec λl p h=>(jrZ l p h).2
theorem jnA:Callee 5 yZ (.ref 52):=n7 (jl ⋯) (nR ⋯) (jAF (aN 4) (gB Tj (Vg.up ∅) j7) ["result"]) jm3
theorem Vh:Callee 6 v8 (.ref 59):=n7 (jl ⋯) (nR ⋯) (jAF ∅ (gB Tj (Vg.up ∅) (gB jk4 jnA j7)) []) jl8
theorem jyR:Callee 7 Mj (.ref 66):=n7 (jl ⋯) (nR ⋯) (n8 ∅ (gB Tn Vh j7) ["accepted_values"]) jse
theorem jv9:Callee 2 My (.ref 283):=n7 (jl ⋯) (nR ⋯) (n8 (aN 1) j7 []) joL
theorem jiG:Callee 2 Hm (.ref 288):=n7 (jl ⋯) (GZ ⋯) (n8 (aN 1) j7 []) jjz
theorem jtJ:Callee 3 M7 (.ref 293):=n7 (jl ⋯) (nR ⋯) (n8 ∅ (gB jtA jv9 (gB jgL jiG j7)) []) jmv
theorem jv8:Callee 7 Hp (.ref 300):=n7 (jl ⋯) (nR ⋯) (n8 ∅ (gB Tn Vh j7) ["pieces"]) jq0
theorem jo8(h:∀l,F l=none):Runs F G:=λl p hp=>by rw[h l] at hp;exact nn hp
theorem jwa:∀n,Callee (n+8) (Hs n) (.ref 307):=λn=>n.recAux
  (n7 (T:=m6) (n:=1) (params:=["nest"]) jfa (nR ⋯) (n8 ∅ j7 []) (jo8 λl=>by
  show((txt l).bind λs=>if jD s then(rP 0 s).map bZ else none)=none;cases txt l with
  |none=>rfl
  |some s=>show(if jD s then none else none)=none;split<;>rfl))
  λn ih=>n7 jfa (nR ⋯) (n8 (lu 1 _) (gB jsT (jv8.up (aF ∅ (lu 8 n))) (gB jgL (jiG.up (aF ∅ (lu 8 n))) (gB jfF (ih) j7))) []) (jpn n)
theorem jwb:Callee 2 MK (.ref 312):=n7 (jl ⋯) (nR ⋯) (n8 (aN 1) j7 []) jpu
theorem jyP:Callee 2 zE (.ref 319):=n7 (jl ⋯) (GZ ⋯) (n8 (aN 1) j7 []) jq6
theorem jtH:Callee 5 wA (.ref 326):=n7 (jl ⋯) (GZ ⋯) (jAG (aN 4) j7 ["told"]) jmc
theorem jtK:∀n,Callee (n+2) (zF n) (.ref 331):=λn=>n.recAux
  (n7 (T:=m6) (n:=1) (params:=["u","v"]) jiT (GZ ⋯) (n8 ∅ j7 []) (jo8 λl=>by
  show((kI l).bind λq=>q.1.bV.bind λu=>q.2.bV.bind λv=>if decide (u.length+v.length<0)&&decide (0<=12) then some (PV.lst ((fj u v).map .str)) else none)=none;cases kI l with
  |none=>rfl
  |some q=>
   show(q.1.bV.bind λu=>q.2.bV.bind λv=>if decide (u.length+v.length<0)&&decide (0<=12) then some (PV.lst ((fj u v).map .str)) else none)=none;cases q.1.bV with
   |none=>rfl
   |some u=>
    show(q.2.bV.bind λv=>if decide (u.length+v.length<0)&&decide (0<=12) then some (PV.lst ((fj u v).map .str)) else none)=none;cases q.2.bV with
    |none=>rfl
    |some v=>
     show(if decide (u.length+v.length<0)&&decide (0<=12) then some (PV.lst ((fj u v).map .str)) else none)=none;rw[wV (Nat.not_lt_zero _)];rfl))
  λn ih=>n7 jiT (GZ ⋯) (n8 (lu 1 _) (gB jk3 (ih) j7) []) (jr3 n)
abbrev fsL:List (Str×PF):=[("_law_items",M7),("_pre_parse_validation",Mj),("_strip_quoted_realnames",yZ),("_iter_escaped_chars",Hf),("_law_cut",Hp),("map_table_b3",LR),("in_table_b1",inF),("_check_parenthesis",v8),("_law_readings",Hs 5),("_law_rows",MK),("Headers",jAt),("_law_due",zE),("_law_count",wA),("_law_mixed",zF 11)]
noncomputable abbrev jw2:List Str:=["hands","whole"]
abbrev blL:List (Str×PF):=("list",Tz)::("sorted",Ly)::Cu
abbrev dh:Sp:={kJ:=mZ fsL,q8:=mZ blL,meth:=rH 140 145 j5,dX:=jw2,glob:=mZ Cv,attr:=GQ,mG:=Cm dU}
theorem jwA:qO 13 fsL:=
 gB jnq (jtJ.up ∅) (gB jtB (jyR.up ∅) (gB jk4 (jnA.up ∅) (gB Tj (Vg.up ∅) (gB jsT (jv8.up ∅) (gB jqB (jyQ.up ∅) (gB jtz (jAT.up ∅)
 (gB Tn (Vh.up ∅) (gB jfF (jwa 5) (gB jtC (jwb.up ∅) (gB jvW (jwK.up ∅) (gB jvX (jyP.up ∅) (gB jqA (jtH.up ∅) (gB jk3 ((jtK 11).up ∅) j7)))))))))))))
theorem jv5:qO 13 blL:=gB Tp (jrO ∅) (gB jnr jpL (Nj 13))
theorem HN:Ops 13 dh:=
 have O:=jAG (D:=13) ∅ jwA jw2
 LQ ∅ (λh=>nomatch h) HH O.kJ (λg F h=>yV (P:=λg F=>∃f,bW g f/\Callee 13 F f) jv5 h) O.glob (λA s0 s C m a ov p hh e x h=>S9 nT hh e x h) O.mG O.meth O.sI (λZ Z Z Z Z Z Z Z Z Z Z h=>by exact nn h)
section
variable{A:Around}{S:Sp}{D:Nat}{env:Env}{K:AP}{KG:NP}
theorem jey(h:SX A S n):∀(b:List Stmt) (η:ME) (C:AP) (s:Shared),FA env η C K KG s->dK (bh S n) η b=some (.next,aq)->
  (∀C' s',Mv K KG C s C' s'->FA env aq C' K KG s'->wpAny (model V.prog V.w) A (execs rest env) Q E s')->wpAny (model V.prog V.w) A (execs (b++rest) env) Q E s:=λb=>b.rec
  (λη C s x hb k=>by
  cases hb;exact k C s .refl x)
  λst r ih η C s x hb k=>by
  refine aH (bx hb) λbC h1 hb=>?_;obtain⟨o₁,aD⟩:=bC;cases o₁ with
  |next=>exact dI (Wp.cont (h η st env C K KG s .next aD x h1) λC1 s₁ y fa=>ih aD C1 s₁ fa hb λC' s' y'=>k C' s' (y.trans y'))
  |ret v=>cases hb
end
section
variable{A:Around}{S:Sp}{D:Nat}{env:Env}{C K:AP}{KG:NP}
def TP(env:Env)(C K:AP)(KG:NP)(P:AP)(s:Shared)(aq:ME)(J:(AP)->Heap->Prop)(f:Flow)(s':Shared):Prop:=
 f=.next/\aC (λb=>¬K b\/P b) (λi=>¬KG i) s s'/\∃C',(∀b,C b->b<s.heap.objs.size->C' b)/\(∀b,C' b->C b\/¬K b)/\FA env aq C' K KG s'/\J C' s'.heap
theorem joa(hA:aR A D)(O:Ops D S){E B:Nat->ME}{I:Nat->(AP)->Heap->Prop}{P:AP}(x:FA env (E 0) C K KG s)
  (hf:∀x,foldedSetIterable it env x=pure x)(hi:aG S n (E 0) it=some pa)(hit:fQ pa=some items)(hP:∀b,P b->K b/\¬C b)(h0:I 0 C s.heap)
  (hI:∀i C1 C2 h h',I i C1 h->(∀b o,h.get? b=some o->(C1 b->C2 b/\h'.get? b=some o)/\(P b->h'.get? b=some o))->(∀b,P b->¬C2 b)->I i C2 h')
  (hB:∀i y,items[i]?=some y->d8 tgt y (E i)=some (B i))
  (hb:∀i C1 K1 qQ s₁,i<items.length->FA env (B i) C1 K1 qQ s₁->I i C1 s₁.heap->(∀b,P b->K1 b/\¬C1 b)->Wp A (execs body env) (TP env C1 K1 qQ P s₁ (E (i+1)) (I (i+1))) s₁):
  Wp A (exec (.For tgt it body [] pos) env) (TP env C K KG P s (E items.length) (I items.length)) s:=by
 refine wpAny_For (hs:=hf) (Wp.mono ((sound hA O n).1 (E 0) it env C K KG s pa x hi) λva s₁ h₁=>Wp.mono (O.iter A s s₁ C pa va items hA (x.here.ext h₁.1) h₁.1 h₁.2 hit) λitv s₂ h₂=>?_);refine JH h₂ λe₂ hi2 I0 wr fp wg St eq1 W hst hhi hwr hfp hwf j9=>?_;subst eq1;have F:=x.old (λb w=>(hwr b w).1) λi w=>(j9 i w).1;have nP:∀b,P b->¬wr b:=λb p w=>F.k b w (hP b p).1;refine O5 (λk s'=>∃i C1,k=items.length+1-i/\i<=items.length/\FA env (E i) C1 (λb=>K b\/fp b) (λi=>KG i\/wg i) s'/\St i s'/\FI (λb=>C b/\¬wr b) (λb=>K b\/fp b) (λb=>K b/\¬P b) KG s s₂.heap.objs.size C1 s'/\I i C1 s'.heap/\∀b,P b->¬C1 b)
  (λk s₃ h=>?_) (items.length+1)
  ⟨0,_,rfl,jq _,x.narrow (X:=wr) (Y:=fp) (YG:=wg) e₂ hwr hfp λi w=>(j9 i w).2,hst,⟨e₂.cC,λb c Z=>c,λb c=>.inl c,aN _⟩,?_,λb p c=>(hP b p).2 c.1⟩
 ·refine Bb h λi C1 eq1 hle fa qm J zz=>kA zz λhI1 Ob=>?_;subst eq1;have F':FS (λb=>K b/\¬P b) KG wr wg:=⟨λb w k=>F.k b w k.1,F.g,F.nh⟩;have nW:∀b,C1 b->¬wr b:=λb c w=>(J.dn b c).elim (λq=>q.2 w) λq=>q (.inr (hwf b w));have step:∀{s4},aC wr wg s₃ s4->FA env (E i) C1 (λb=>K b\/fp b) (λi=>KG i\/wg i) s4/\I i C1 s4.heap:=λ{s4} e=>
   ⟨fa.cC e (λb w c=>nW b c w) (λb w=>.inr (hwf b w)) F.nh,hI i C1 C1 _ _ hI1 (λb o g=>⟨λc=>⟨c,e.heap b o (nW b c) g⟩,λp=>e.heap b o (nP b p) g⟩) Ob⟩
  rcases uZ i items.length with hlt|hge
  ·refine tmo (W.item A i s₃ items[i] (hA.mono O.room) (iy hlt) qm) (λr s4 q=>?_) λZ Z f=>f.elim;refine Fe r q λv hv q7 e=>?_;refine aH (W.quiet _ _ q7) λob hob hqo=>?_;refine kA (step e) λgb VG=>?_;have J4:=J.step F' e;have hv4:VR C1 s4.heap items[i] v:=hv.mono λb ob c g=>⟨c.2.2.elim (λh=>J.up b ⟨c.1,c.2.1⟩ (bJ h hhi)) (fa.cJ b),g⟩;refine tmo (R6 hob hqo) (λZ pK q=>?_) λZ Z f=>f.elim;subst q;refine tmo (BX hA.handled gb (hB i _ (iy hlt)) hv4) (λZ s5 q=>?_) λZ Z f=>f.elim;refine kA q λe5 Dy=>?_;have hI5:I i C1 s5.heap:=hI i C1 C1 _ _ VG (λb o g=>⟨λc=>⟨c,e5.heap b o (λw=>(gb.hot w).1 c) g⟩,λp=>e5.heap b o (λw=>(gb.hot w).2.1 (.inl (hP b p).1)) g⟩) Ob;refine tmo (hb i C1 _ _ s5 hlt Dy hI5 λb p=>⟨.inl (hP b p).1,Ob b p⟩) (λf s6 q=>?_) λZ Z f=>f.elim;refine Az q λeq1 e6 C2 r1 zz=>cD zz λr2 xn hI6=>?_;subst eq1;have Oc:aC (λb=>¬(K b\/fp b)\/P b) (λi=>¬(KG i\/wg i)) pK s6:=aC.trans (aC.mono e5 (λb Z w=>.inl (gb.hot w).2.1) λZ Z g=>False.elim g) e6;have ns:pK.heap.objs.size<=s5.heap.objs.size:=e5.size;refine⟨_,Ox (rZ hlt) (jo i),i+1,C2,rfl,hlt,xn,W.frame _ _ _ q7 (λb ob f g=>Oc.heap b ob (λw=>w.elim (λw=>w (.inr f)) λp=>(hfp b f).1.elim (nP b p) (hP b p).2) g) (λj z w g=>Oc.gens j z (λh=>h (.inr w)) g),
    ⟨J4.ev.trans (aC.mono Oc (λb Z w k=>w.elim (λw=>w (.inl k.1)) k.2) λi Z w k=>w (.inl k)),λb u hb=>r1 b (J4.up b u hb) (bJ (bJ hb J4.sz) ns),λb c=>(r2 b c).elim (J4.dn b) .inr,aF J4.sz Oc.size⟩,hI6,λb p c=>(r2 b c).elim (Ob b p) λh=>h (.inl (hP b p).1)⟩
  ·have hi':=DW hle hge;refine tmo (W.done A s₃ (hA.mono O.room) (hi'▸qm)) (λr s4 q=>?_) λZ Z f=>f.elim;refine gJ r q λe=>?_;refine kA (step e) λgb VG=>?_;have J4:=J.step F' e;subst hi';refine qg (Qu rfl (aC.mono J4.ev (λb Z w=>Jd λq=>w ⟨Jd λk=>q (.inl k),λp=>q (.inr p)⟩) λZ Z g=>g) C1 (λb c hb=>J4.up b ⟨c,λw=>absurd hb (bw (hwr b w).1)⟩ (bJ hb e₂.size)) (λb c=>(J4.dn b c).elim (λq=>.inl q.1) λq=>.inr λk=>q (.inl k)) (gb.regrow (λZ c=>c) (λZ c=>.inl c) (λb k=>.inl k) (λi k=>.inl k) x.hk) VG)
 ·exact hI 0 C _ _ _ h0 (λb o g=>⟨λc=>⟨⟨c,λw=>absurd (hls g) (bw (hwr b w).1)⟩,aA.heap e₂ g⟩,λZ=>aA.heap e₂ g⟩) λb p c=>(hP b p).2 c.1
theorem jiS(hA:aR A D)(O:Ops D S){E B:Nat->ME}(x:FA env (E 0) C K KG s)
  (hf:∀x,foldedSetIterable it env x=pure x)(hi:aG S n (E 0) it=some pa)(hit:fQ pa=some items)(hB:∀i y,items[i]?=some y->d8 tgt y (E i)=some (B i))
  (hb:∀i C1 K1 qQ s₁,i<items.length->FA env (B i) C1 K1 qQ s₁->Wp A (execs body env) (XP env C1 K1 qQ s₁ .next (E (i+1))) s₁):
  Wp A (exec (.For tgt it body [] pos) env) (XP env C K KG s .next (E items.length)) s:=
 Wp.mono (joa (B:=B) (I:=λZ Z Z=>True) (P:=λZ=>False) hA O x hf hi hit (λZ p=>p.elim) lz (λZ Z Z Z Z Z Z Z=>lz) hB λi C1 K1 qQ s₁ hi' fa Z Z=>Wp.mono (hb i C1 K1 qQ s₁ hi' fa) λf s' ⟨C2,y,hf,VH⟩=>Qu hf (aC.mono y.ev (λZ Z w=>.inl w) λZ Z w=>w) C2 y.up y.dn VH lz) λf s' ⟨hf,e,C2,r1,r2,VH,_⟩=>
  (cG C2 ⟨aC.mono e (λZ Z w=>w.resolve_right λh=>h) λZ Z w=>w,r1,r2⟩ hf VH)
end
structure Hd(C:AP)(h:Heap)(x a:Addr)(rows:LV):Prop where
 inst:∃d o m,C x/\C d/\h.get? x=some o/\o.cls=.ref V.hc/\(∀c,o.data≠.cls c)/\o.dict=some d/\d≠x/\h.Ns1 d m/\m ("_headers":Str)=some (.ref a)/\∀n,n≠("_headers":Str)->m n=none
 own:∃vs,cj h a (List.toArray vs)/\aV C h rows vs
 out:¬C a
section
theorem Hd.val(X:Hd C h x a rows):VR (λb=>C b\/b=a) h (.hdr rows) (.ref x):=by
 refine vH X.inst λd o m c1 c2 h1 h2 h3 h4 zz=>cW zz λh5 h6 h7 h8=>?_;refine aH X.own λvs h9 h10=>?_;exact .hdr (.inl c1) (.inl c2) h1 h2 h3 h4 h5 h6 h7 h8 (.lst (.inr rfl) h9 (h10.mono λb o c g=>⟨.inl c,g⟩))
theorem Hd.mono(X:Hd C h x a rows)(k:∀b o,C b->h.get? b=some o->C' b/\h'.get? b=some o)(ha:∀o,h.get? a=some o->h'.get? a=some o)(hc:¬C' a):Hd C' h' x a rows:=by
 refine vH X.inst λd o m c1 c2 h1 h2 h3 h4 zz=>cW zz λh5 h6 h7 h8=>?_;refine aH X.own λvs h9 h10=>?_;have hd:C' d:=let ⟨_,_,_,g,_⟩:=h6;(k d _ c2 g).1;exact⟨(QD d o m ((k x o c1 h1).1) hd ((k x o c1 h1).2) h2 h3 h4 h5 (h6.at λo g=>(k d o c2 g).2) h7 h8),aW vs (h9.up ha) (h10.mono k),hc⟩
theorem Hd.of(X:VR C h (.hdr []) (.ref x)):∃a,C a/\a<h.objs.size/\Hd (λb=>C b/\¬b=a) h x a []:=by
 cases X with
 |hdr c1 c2 h1 h2 h3 h4 h5 h6 h7 h8 h9=>
  cases h9 with
  |lst c3 h10 h11=>
   rw[h11.jg] at h10;have hl:=h10.isList;refine⟨_,c3,?_,QD _ _ _ ⟨c1,λq=>?_⟩ ⟨c2,λq=>?_⟩ h1 h2 h3 h4 h5 h6 h7 h8,aW ([]) h10 .nil,λq=>q.2 rfl⟩
   ·refine aH h10 λo ho Z=>?_;exact hls ho
   ·refine eO hl λo ho hc Z=>?_;rw[←q,h1] at ho;cases ho;rw[h2] at hc;cases hc
   ·exact BR hl (q▸h6.ns)
end
section
variable{A:Around}{env:Env}{η:ME}{C K:AP}{KG:NP}{s s':Shared}
theorem FA.Xb(x:FA env η C K KG s)(hns:s.heap.Ns env.locals m)(hns':s'.heap.Ns env.locals m')(hm:∀y pv,look y η=some pv->m' y=m y)(hk:∀b o,b≠env.locals->s.heap.get? b=some o->s'.heap.get? b=some o)
  (hsz:s.heap.objs.size<=s'.heap.objs.size)(hg:s.gens.size<=s'.gens.size)(hb:AllBare s.gens->AllBare s'.gens):FA env η C K KG s':=by
 refine dZ x.sees λm₀ f h1 h2 h3 h4=>?_;have hm0:m₀=m:=Ns.unique h1 hns λZ g=>g;subst hm0;have hL:=x.dY;have cell:∀{c u},s.heap.IsCell c u->s'.heap.IsCell c u:=λ{c u} h=>let ⟨o,ho,hd⟩:=h;(aW o (hk c o (λq=>Gx h1 (q▸h)) ho) hd);refine⟨x.fn,x.gl,x.bi,x.kinds,fW m' f hns' (λy pv hy=>?_) h3 h4,λy hy=>?_,x.oK,λa ha=>x.cJ a (aF hsz ha),x.dY,x.gP,⟨λb hb=>bJ (x.kept.1 b hb) hsz,λi hi=>bJ (x.kept.2 i hi) hg⟩,x.wf,λb o hb=>hk b o (λq=>by rw[q,hL.2.2] at hb;exact nn hb) (x.base b o hb),hb x.bare,x.hk⟩
 ·refine cD (h2 y pv hy) λhg' hbd hv=>?_;exact⟨hg',hbd.imp (λq=>⟨q.1,(hm y pv hy).trans q.2⟩) λ⟨hkd,c,hc,hcell⟩=>kY hkd c hc (cell hcell),hv.kp hg' (λa o c g=>⟨c,hk a o (λq=>hL.1 (q▸c)) g⟩) λa o its ho hc g=>⟨hc,hk a o (λq=>BR ho.isList (q▸h1)) g⟩⟩
 ·refine eV (x.cells y hy) λc v0 hc hv=>?_;exact fP c v0 hc (cell hv)
theorem jlZ{S:Sp}{D n:Nat}(hA:aR A D)(O:Ops D S){cN aq:ME}{y:Str}{py pos:Pos}{e:PE}{v:PV}(x:FA env η C K KG s)(x₂:FA env cN C K KG s)(hsw:yN e y py env=false)
  (hv:aG S n cN e=some v)(hp:v.plain=true)(hs:bM y v η=some aq):Wp A (exec (.Assign [.Name y py] e pos) env) (XP env C K KG s .next aq) s:=by
 refine Ab (hs:=by rw[yO,hsw]) (Wp.mono ((sound hA O n).1 cN e env C K KG s v x₂ hv) λu s₁ q=>?_);refine Wp.mono ((x.ext q.1).store hs (lQ hp).1 (VX.of (q.2.plain hp)) λl el=>absurd el ((lQ hp).2 l)) λZ s₂ r=>?_;exact XP.one x q.1 r.1 r.2.2.2 rfl
theorem jlk(hh:A.handled=none)(x:FA env η C K KG s)(hk:cZ η xk=some .local)(hv:cZ η xv=some .local)(hd:(y==("__debug__":Str))=false)(hy:look y η=some (.dct []))(hline:(apos.endLine==cpos.line)=true):
  Wp A (exec (.For (.Tuple [.Name xk pk,.Name xv pv] x1 pt) (.Call (.Attribute (.Name y py) "items" apos) [] [] cpos) body [] pos) env) (XP env C K KG s .next η) s:=by
 refine eX x.sees λm f hns h2 Z=>?_;refine cD (h2 y _ hy) λhg hb hx=>?_;obtain⟨d,kvs,ed,cd,hsm,hdo,hvs⟩:∃d kvs,f y=.ref d/\C d/\(d==sysModules)=false/\s.heap.DictOf (strKind V.prog V.w) d kvs/\fZ C s.heap [] kvs:=by
  have hx:VR C s.heap (.dct []) (f y):=hx;revert hx;generalize f y=u;intro hx;cases hx;exact Qv _ _ rfl (‹_›) (‹_›) (‹_›) (‹_›)
 have hkv:kvs=[]:=by cases hvs;rfl
 subst hkv;refine kE hdo.dictAt λep hat=>?_;refine tmo (j4 (wpAny_For_items_locals (Q:=λf s'=>f=.next/\∃h' tk,s'={s with heap:=h',toks:=tk}/\h'.Ns env.locals m/\∀b o,b≠env.locals->s.heap.get? b=some o->h'.get? b=some o) hh (x.kinds xk _ hk) (x.kinds xv _ hv) (by rw[x.fn];rfl) (λq=>x.dY.1 (q▸cd)) hsm hat hns (mQ rfl) hline (λQ' q=>?_) (λZ m'=>m'=m) rfl (λi k v key m₁ s₁ hi=>by exact nn hi) λh' tk m' hn hm hk'=>⟨rfl,h',tk,rfl,hm▸hn,hk'⟩)) (λf s' q=>?_) λZ Z f=>f
 ·refine qW ?_ hd;rcases hb with ⟨hkd,hm⟩|⟨hkd,c,hc,hcell⟩
  ·exact I6 x.fn hkd hns hm (ed▸q)
  ·exact Pb x.fn hkd hc hcell (ed▸q)
 ·refine cD q λbC eq2 zz=>eX zz λh' tk eq3 hn hk'=>?_;obtain⟨z,_⟩:=bC;subst eq2;subst eq3;exact cG C (.of ⟨λb o nb g=>hk' b o (λq=>nb (q▸x.dY.2.1)) g,z,λZ Z Z g=>g,aN _,id,rfl⟩) rfl (x.Xb hns hn (λZ Z Z=>rfl) hk' z (aN _) id)
end
abbrev scA:Scope:=(dw bj 17 16).2.2
abbrev pG:List Stmt:=(dw bj 17 16).2.1
theorem jqI(o n v:Value):bindArgs (d7 V.h₀ 271) ⟨[o,n,v],[]⟩=alloc {cls:=.type "dict",data:=.dict #[]}>>=λd=>pure ((["self","_name","_value","_params"]:List Str).zip [o,n,v,.ref d]):=⋯
theorem jyM(o n v:Value)(A:Around)(s:Shared):Wp A (bindArgs (d7 V.h₀ 271) ⟨[o,n,v],[]⟩) (λb s'=>b=(["self","_name","_value","_params"]:List Str).zip [o,n,v,.ref s.heap.objs.size]/\s'={s with heap:=s.heap.push {cls:=.type "dict",data:=.dict #[]}}) s:=by
 rw[jqI];exact tbn (IW (bc ⟨rfl,rfl⟩))
abbrev fA(p:PV)(n v:List Nat)(r:List (OV)):ME:=[mk scA ([some p,some (.str n),some (.str v),some (.dct [])]++r)]
abbrev HQ:Sp:=TY [] ["parts"]
theorem Vi(h:dU v=true):HQ.mG "_convert_string_type" (.hdr rows) [.str v] "name" b=some (.str v):=by
 show(if dU v then some (PV.str v) else none)=_;rw[h];rfl
theorem jqx(h:aL v.length=true):HQ.meth "join" (.str [59,32]) [.own [.str v]]=some (.str v):=by
 show(if aL v.length then some (PV.str v) else none)=_;rw[h];rfl
noncomputable def Nk:Stmt->PE
 | .Expr e _=>e|_=>default
noncomputable def callArgs:PE->List PySem.Expr
 | .Call _ a _ _=>a|_=>[]
noncomputable def jxG:Stmt->List Stmt
 | .If _ b _ _=>b|_=>[]
theorem joS{C K:AP}{KG:NP}(fa:FA env η C K KG s)(hy:look y η=some (.obj x))(hd:(y==("__debug__":Str))=false):Wp A (eval (.Name y p) env) (λv s'=>v=.ref x/\s'=s) s:=
 qW (Wp.mono (fa.load hy) λv s' q=>⟨VR.xx q.2.1,q.1⟩) hd
theorem jnt(hb:∀b o,V.h₀.get? b=some o->s.heap.get? b=some o)(X:Hd C s.heap x a rows):Wp A (getAttr (.ref x) "_headers" true) (λv s'=>v=.ref a/\aA s s') s:=by
 refine vH X.inst λd o m Z Z h1 h2 h3 h4 zz=>cW zz λh5 h6 h7 h8=>?_;refine kE (nT.cls) λN Xc=>?_;refine xG ((Xc.keeps hb).obj) λnm q bs sn sub col dd k0 k1 k2 k3 k5 hC=>?_;obtain⟨h,g,d',t,os⟩:=s;exact load_attr (expr:=true) hC (Xc.keeps hb).ns nT.ga nT.hd S8 (ru _ h1 h2 h3 (.inr (cG _ h4 h5 h6))) h7 (by rfl) ⟨rfl,aA.toks⟩
theorem jiy{C:AP}{Q:Shared->Prop}{E:Value->Shared->Prop}(hA:aR A 3)(hh:Here C s)(cL:cH ((["self","_name","_value","_params"]:List Str).map λx=>PySem.Expr.Name x default) [p,.str n,.str v,.dct []] [bQ scA]=some (fA p n v []))
  (hp:VR C s.heap p ov)(hvn:VR C s.heap (.str n) vn)(H9:VR C s.heap (.str v) vv)
  (k:∀(env:Env) (C':AP) (s':Shared),env.frame=some env.locals->s.heap.objs.size<=env.locals->Mv (λb=>b<s.heap.objs.size) (λi=>i<s.gens.size) C s C' s'->FA env (fA p n v []) C' (λb=>b<s.heap.objs.size) (λi=>i<s.gens.size) s'->aR (A.deeper env) 2->
   wpAny (model V.prog V.w) (A.deeper env) (execs pG env) (λZ s''=>Q s'') (λe s''=>wpAny (model V.prog V.w) (A.deeper env) (leaving env e) (λZ s3=>E e s3) (λe' s3=>E e' s3) s'') s'):
  wpAny (model V.prog V.w) A (call (.ref 271) [ov,vn,vv] []) (λZ s''=>Q s'') E s:=by
 have e0:aA s {s with heap:=s.heap.push {cls:=.type "dict",data:=.dict #[]}}:=aA.jt;have hd0:(s.heap.push {cls:=.type "dict",data:=.dict #[]}).DictOf (strKind pw w0) s.heap.objs.size []:=Ph _;have up:=λ{p:PV} {u:Value} (h:VR C s.heap p u)=>VR.ext e0 h;exact jiH (D:=2) (C:=C) Ti hh.base (λA'=>@jyM ov vn vv A' s) hA (hh.ext e0) (.cons (up hp) (.cons (up hvn) (.cons (up H9) (.cons (.dct (hh.cJ _ (aN _)) (Z4 HH hh.base) hd0 .nil) .nil)))) cL λenv C' s' Z hfm hlo e1 h1 h2 fa hR=>
  k env C' s' hfm (aF (aC.size e0) hlo) ⟨aA.cC (aC.trans e0 e1),λb c hb=>h2 b c (bJ hb (aC.size e0)),λb c=>.inl (h1 b c)⟩
   (fa.regrow (λZ c=>c) (λZ c=>.inl c) (λb hb=>bJ hb (aC.size e0)) (λi hi=>bJ hi (aC.cV e0)) λb o g=>hls (hh.base b o g)) hR
section
variable{A:Around}{env:Env}{C K:AP}{KG:NP}{s s':Shared}{x a:Addr}{rows:LV}{n v:List Nat}
abbrev rQ(C K:AP)(s:Shared)(x a:Addr)(rows:LV):Prop:=Hd (λb=>(C b/\K b)/\b≠a) s.heap x a rows
theorem rQ.step(X:rQ C K s x a rows)(y:Mv K KG C s C' s')(ha:K a):rQ C' K s' x a rows:=
 X.mono (λb o c g=>⟨⟨⟨y.up b c.1.1 (hls g),c.1.2⟩,c.2⟩,y.ev.heap b o (λq=>q c.1.2) g⟩) (λo g=>y.ev.heap a o (λq=>q ha) g) λq=>q.2 rfl
theorem rQ.self(fa:FA env (fA (.obj x) n v r) C K KG s)(X:rQ C K s x a rows)(hc:C a):FA env (fA (.hdr rows) n v r) C K KG s:=
 fa.Wi (y:="self") ⋯ ⋯ rfl (X.val.mono λb o c g=>⟨c.elim (λc=>c.1.1) λe=>e▸hc,g⟩)
theorem jnm(hR:aR A 2)(fa:FA env (fA (.obj x) n v []) C K KG s)(X:rQ C K s x a rows)(hc:C a)(ha:K a)(hv:dU v=true)
  (k:∀C' s',Mv K KG C s C' s'->FA env (fA (.obj x) n v [some (.own [.str v])]) C' K KG s'->rQ C' K s' x a rows->Wp A (execs (cA pG 3::rest) env) Q s'):Wp A (execs (cA pG 0::cA pG 1::cA pG 2::cA pG 3::rest) env) Q s:=by
 have O:=wG (aN 2) uQ ["parts"];refine dI (Wp.cont (mV hR O 12 _ (cA pG 0) env C K KG s .next (fA (.obj x) n v [some (.own [])]) fa ⋯) λC2 s₂ lE cO=>?_);have r₂:=rQ.self cO (X.step lE ha) (lE.up a hc (fa.kept.1 a ha));refine dI (Ac (Wp.mono ((sound hR O 12).2.1 (fA (.obj x) n v [some (.own [])]) _ env C2 K KG s₂ true cO (cM rfl (az rfl rfl) (aQ rfl) rfl)) λr s₃ q=>?_));refine gJ r q λcu=>?_;rw[aX rfl];refine dI (Wp.cont (jlZ (n:=12) hR O (cO.ext cu) (r₂.ext cu) (by rfl) (Bq rfl (az rfl rfl) (aK (az rfl rfl) aO) (Vi hv)) rfl (aq:=fA (.obj x) n v [some (.own [])]) ⋯) λC4 s4 xu gb=>?_);refine dI (Wp.cont (mV hR O 12 _ (cA (jxG (cA pG 1)) 1) env C4 K KG s4 .next (fA (.obj x) n v [some (.own [.str v])]) gb ⋯) λC5 s5 Qf Dy=>qg ?_);refine dI (Wp.cont (jlk (y:="_params") hR.handled Dy ⋯ ⋯ (by rfl) ⋯ (by rfl)) λC6 s6 jH2 xn=>?_);have y:=(lE.trans (.ext cu)).trans (xu.trans (Qf.trans jH2));exact k C6 s6 y xn (X.step y ha)
theorem juV(x:VR C h (.tup [.str n,.str v]) u)(ha:h.IsList a its)(k:Heap.SameBut a h h'):VR (λb=>C b/\b≠a) h' (.tup [.str n,.str v]) u:=by
 cases x with
 |@tup _ t vs c ht hl=>
  have ne:t≠a:=λq=>by
   refine eO ht.isTuple λo ho hc Z=>?_;refine eO ha λo' ho' hc' Z=>?_;rw[q,ho'] at ho;cases ho;exact absurd (Value.type.inj (hc.symm.trans hc')) ∅
  refine eX hl.gh λv1 r1 eq1 h1 k1=>?_;subst eq1;refine eX k1.gh λv2 r2 eq1 h2 k2=>?_;subst eq1;refine kE h1.iv λt1 bB=>?_;subst bB;refine kE h2.iv λt2 bB=>?_;subst bB;cases k2.jg;exact .tup ⟨c,ne⟩ (let ⟨o,ho,r⟩:=ht;(aW o (k.extBut _ o ne ho) r)) (.cons (.str _ _) (.cons (.str _ _) .nil))
theorem jqy(hR:aR A 2)(fa:FA env (fA (.obj x) n v [some (.own [.str v])]) C K KG s)(X:rQ C K s x a rows)(hc:C a)(hn:dU n=true)(hvk:aL v.length=true)(hr:aL rows.length=true):
  Wp A (exec (cA pG 3) env) (λf s'=>f=.next/\aC (λb=>b=a) no s s'/\Hd (λb=>(C b)/\b≠a) s'.heap x a (rows++[.tup [.str n,.str v]])) s:=by
 have O:=wG (aN 2) uQ ["parts"];have hl:cF (aG HQ 12 (fA (.hdr rows) n v [some (.own [.str v])])) (callArgs (Nk (cA pG 3)))=some [.tup [.str n,.str v]]:=
  aK (jZ (aK (Bq rfl (az rfl rfl) (aK (az rfl rfl) aO) (Vi hn)) (aK (gA rfl (aQ rfl) (aK (az rfl rfl) aO) (jqx hvk)) aO)) rfl) aO
 have hst:=(noStar (S:=HQ) (n:=12) (env:=env) (pos:=default) hl).1;refine Iz (hi:=fa.wY) (hs:=yM) (Iw (T:="list") (id:="list.append") (mQ rfl) rfl rfl Je Jg Jh ?_);rw[arm_eval_Attribute,mQ (by rfl)];refine Wp.bind (joS fa (y:="self") (x:=x) ⋯ (by rfl)) λov s₁ q=>?_;refine kA q λeq1 eq2=>?_;subst eq1;subst eq2;refine tbn (gr (tbn (dJ (Wp.mono (jnt fa.base X) λu s₂ q=>tbn (u6 (a:=()) (by rfl) (bc ?_))))));refine gJ u q λe₂=>?_;have self:=rQ.self fa X hc;obtain⟨⟨d,o,m,q1,q2,h1,h2,h3,h4,h5,h6,h7,h8⟩,⟨vs,hvs,Ju⟩,_⟩:=X;have WW:cj s₂.heap a vs.toArray:=hvs.up λo=>aA.heap e₂;refine⟨WW.isList.typeIs,λb eb=>by cases eb;refine ju WW λo ho n bB=>?_;subst bB;exact aW _ ho rfl,Ei (Gy hst) (vX hst (Wp.mono (lO (sound hR O 12).1 _ s₂ s₂ _ aC.refl (self.ext e₂) hl) λus s₃ q=>?_))⟩;refine kA q λcu hu=>?_;refine oW us hu.one λu hx=>?_;have hx:VR C s₃.heap (.tup [.str n,.str v]) u:=hx;have e:=aC.trans e₂ cu;have WX:=hvs.up λo=>aA.heap e;refine I5 (hsz:=by
  have:=ph hr;rw[Ju.length] at this;simp only[my];omega) WX.plain λh' hl' hs'=>⟨rfl,(aA.cC e).trans ⟨λb o nb g=>hs'.extBut b o nb g,fH hs'.1.symm,λZ Z Z g=>g,aN _,id,rfl⟩,?_⟩
 have kp:∀b o,((C b/\K b)/\b≠a)->s₁.heap.get? b=some o->h'.get? b=some o:=λb o c g=>hs'.extBut b o c.2 (aA.heap e g);refine⟨(QD d o m ⟨q1.1.1,q1.2⟩ ⟨q2.1.1,q2.2⟩ (kp x o q1 h1) h2 h3 h4 h5 (h6.at λo g=>kp d o q2 g) h7 h8),aW (vs++[u]) ?_ ((Ju.mono λb o c g=>⟨⟨c.1.1,c.2⟩,kp b o c g⟩).append (.cons ?_ .nil)),λq=>q.2 rfl⟩
 ·rw[show(vs++[u]).toArray=vs.toArray.push u by simp];exact .of hl'
 ·exact juV hx WX.isList hs'
theorem jvS(hA:aR A 3)(hh:Here C0 s)(X:Hd C0 s.heap x a rows)(hn:dU n=true)(hv:dU v=true)(hvk:aL v.length=true)(hr:aL rows.length=true)
  (hvn:VR C0 s.heap (.str n) vn)(H9:VR C0 s.heap (.str v) vv):Wp A (call (.ref 271) [.ref x,vn,vv] []) (λZ s'=>aC (λb=>b=a) no s s'/\Hd C0 s'.heap x a (rows++[.tup [.str n,.str v]])) s:=by
 have EY:a<s.heap.objs.size:=by refine aH X.own λvs bC Z=>?_;obtain⟨o,ho,_⟩:=bC;exact hls ho
 have hh':Here (λb=>C0 b\/b=a) s:=⟨hh.base,λb hb=>.inl (hh.cJ b hb),hh.bare⟩;refine jiy hA hh' ⋯ (.obj x) (hvn.mono λb o c g=>⟨.inl c,g⟩) (H9.mono λb o c g=>⟨.inl c,g⟩) λenv C1 s₁ Z Z oR dM hR=>tmo (E:=iW) ?_ (λZ Z q=>q) λZ Z f=>f.elim;have X1:rQ C1 (λb=>b<s.heap.objs.size) s₁ x a rows:=X.mono (λb o c g=>⟨⟨⟨oR.up b (.inl c) (hls g),hls g⟩,λq=>X.out (q▸c)⟩,oR.ev.heap b o (λq=>q (hls g)) g⟩) (λo g=>oR.ev.heap a o (λq=>q EY) g) λq=>q.2 rfl;refine jnm hR dM X1 (oR.up a (.inr rfl) EY) EY hv λC2 s₂ lE cO X2=>dI (Wp.mono (jqy hR cO X2 (lE.up a (oR.up a (.inr rfl) EY) (bJ EY oR.ev.size)) hn hvk hr) λf s₃ q=>?_);refine JK f q λcu X3=>?_;have y:=oR.trans lE;refine qg ⟨aC.mono ((aC.mono y.ev (W':=λb=>¬b<s.heap.objs.size\/b=a) (λb Z w=>.inl w) λZ Z w=>w).trans (aC.mono cu (λb Z w=>.inr w) λZ Z g=>False.elim g)) (λb hb w=>w.resolve_left λq=>q hb) λi hi w=>w hi,
  X3.mono (λb o c g=>⟨((y.dn b c.1).elim (λq=>q) λq=>.inl (hh.cJ b (Ea.mp q))).resolve_right c.2,g⟩) (λZ g=>g) X.out⟩
end
section
variable{A:Around}{S:Sp}{D:Nat}{env:Env}{η:ME}{C K:AP}{KG:NP}{s s':Shared}
theorem jz.up(b:jz env m h x v)(k:∀c o,h.get? c=some o->h'.get? c=some o):jz env m h' x v:=
 b.imp_right λ⟨hk,c,hc,o,ho,r⟩=>⟨hk,c,hc,o,k c o ho,r⟩
noncomputable def Dm(η:ME):ME:=η.map λf=>{f with vals:=f.vals.map λZ=>none}
theorem jkU:∀(ns:List (Str×NameKind)) (vs:List (OV)),valAt x ns (vs.map λZ=>none)=none:=λns=>ns.rec
  (λZ=>rfl)
  λn ns ih=>fun
  |[]=>rfl
  |_::vs=>by
    show(if x==n.1 then none else valAt x ns (vs.map λZ=>none))=none;rw[ih vs,ite_self]
theorem jmB:∀η:ME,look y (Dm η)=none:=λη=>η.rec
  rfl
  λf r ih'=>by
  exact Xj (P:=(·=none)) (jkU ..) (λZ=>ih') rfl
theorem FA.blank(x:FA env η C K KG s):FA env (Dm η) (λb=>s.heap.objs.size<=b) K KG s:=by
 refine eV x.sees λm f h1 Z=>?_;have no:∀{y p},look y (Dm η)=some p->False:=λ{y p} h=>by rw[jmB] at h;exact nn h
 refine⟨x.fn,x.gl,x.bi,λz k hz=>x.kinds z k ?_,fW m f h1 (λy p h=>(no h).elim) (λy l a h=>(no h).elim) (λy z l l' h=>(no h).elim),x.cells,x.oK,λa ha=>ha,⟨λq=>absurd h1.lt (bw q),x.dY.2⟩,λy c hk hc=>⟨λq=>?_,(x.gP y c hk hc).2⟩,x.kept,λg hg=>?_,x.base,x.bare,x.hk⟩
 ·cases η with|nil=>exact nn hz|cons=>exact hz
 ·refine eV (x.cells y hk) λc' v hc' hv=>?_;cases hc'.symm.trans hc;exact absurd hv.lt (bw q)
 ·refine eY g (gY.mp hg) λf hf=>?_;show(f.vals.map λZ=>none).length=_;rw[bH];exact x.wf f hf
end
theorem aV.split{C:AP}{h:Heap}{q:LV}:∀{p:LV} {v:List Value},aV C h (p++q) v->∃u r,v=u++r/\aV C h p u/\aV C h q r
 |[],v,x=>jT ([]) v rfl .nil x
 |_::_,_,x=>by
  refine eX x.gh λw us eq1 y r=>?_;subst eq1;refine cP us (aV.split r) λu r' h1 h2=>?_;exact jT (w::u) r' rfl (.cons y h1) h2
theorem jlX{A:Around}{D n:Nat}{S:Sp}(hA:aR A D)(O:Ops D S){env:Env}{η:ME}{C K:AP}{KG:NP}{s:Shared}(x:FA env η C K KG s){y:Str}{py ap pos spos:Pos}{e:PE}{l:LV}
  (hline:(ap.endLine==pos.line)=true)(hd:(y==("__debug__":Str))=false)(hy:look y η=some (.own l))(he:aG S n (Dm η) e=some (.hdr []))(hlen:aL (l.length+1)=true)(hs:∀x,∃aq,bM y (.own (l++[.obj x])) η=some aq):
  Wp A (exec (.Expr (.Call (.Attribute (.Name y py) ("append":Str) ap) [e] [] pos) spos) env) (λf s'=>f=.next/\aC (λb=>¬K b) (λi=>¬KG i) s s'/\∃x a aq,bM y (.own (l++[.obj x])) η=some aq/\s.heap.objs.size<=a/\V.h₀.get? a=none/\FA env aq (λb=>C b/\¬b=a) (λb=>K b\/b=a) KG s'/\Hd (λb=>C b/\¬b=a) s'.heap x a []) s:=by
 refine Iz (hi:=x.wY) (hs:=yM) ?_;have hl:cF (aG S n (Dm η)) [e]=some [.hdr []]:=aK he aO;have hst:((backTo pos (starEach [e] env)).all λx=> !x.1)=true:=(noStar hl).1;refine eV (x.ownAt hy) λa m hn hb=>?_;refine vG (x.Pg hn hb hy) λvs h1 h2 h3 h4 zz=>kA zz λh5 h6=>?_;refine Iw (T:="list") (id:="list.append") (mQ rfl) ?_ hline Je Jg Jh (qW (Wp.mono (h5 A) λu s₁ q=>?_) hd)
 ·rw[hst];rfl
 refine kA q λeq1 eq2=>?_;subst eq1;subst eq2;refine⟨h1.isList.typeIs,λb eb=>by cases eb;refine ju h1 λo ho n bB=>?_;subst bB;exact aW _ ho rfl,?_⟩;refine Ei (Gy hst) (vX hst (Wp.mono (lO (sound hA O n).1 [e] s₁ s₁ _ aC.refl x.blank hl) λus s₂ q=>?_));refine kA q λe₂ hus=>?_;refine oW us hus.one λu hu=>?_;have hx:VR (λb=>s₁.heap.objs.size<=b) s₂.heap (.hdr []) u:=hu;refine jK (S7 hx) λx₁ Z Z eq1 Z=>?_;subst eq1;refine eO (Hd.of hx) λb hb1 hb2 X=>?_;have cO:=x.narrow (X:=λc=>c=b) (Y:=λc=>c=b) (YG:=λZ=>False) e₂ (λc q=>by subst q;exact⟨hb1,hb2⟩) (λc q=>by subst q;exact⟨.inl rfl,hb2⟩) λZ g=>g.elim;have hn₂:s₂.heap.Ns env.locals m:=hn.keeps λb o=>aA.heap e₂;refine vG (cO.Pg hn₂ (hb.up λc o=>aA.heap e₂) hy) λvs2 k1 k2 k3 k4 zz=>kA zz λZ k6=>?_;have hvs:vs2.length=l.length:=k2.length.symm;show Wp A (call (.builtin "list.append") [.ref a,.ref x₁]) _ s₂;refine I5 (hsz:=by
  have:=ph hlen;simp only[my];lia) k1.plain λh' hl' hs'=>?_
 have PX:(vs2++[Value.ref x₁]).toArray=vs2.toArray.push (.ref x₁):=by simp
 refine kE (hs x₁) λaq cL=>?_;refine kA (k6 s₂ (l++[.obj x₁]) aq aC.refl cL h' (vs2++[.ref x₁]) s₂.toks (by rw[PX];exact .of hl') hs' (k2.append (.cons (.obj _) .nil))) λfa ev=>?_;have nb:V.h₀.get? b=none:=by
  cases hq:V.h₀.get? b with|none=>rfl|some o=>exact absurd (hls (x.base b o hq)) (bw hb1)
 have old:a<s₁.heap.objs.size:=by refine aH h1 λo ho Z=>?_;exact hls ho
 refine⟨rfl,aC.trans e₂.cC (aC.mono ev (λc Z w=>by subst w;exact h4) λZ Z g=>False.elim g),x₁,b,aq,cL,hb1,nb,fa.regrow (λZ c=>c) (λZ c=>.inl c) (λZ k=>k) (λi k=>.inl k) λb o g=>.inl (x.hk b o g),X.mono (λc o q g=>⟨⟨x.cJ c q.1,q.2⟩,hs'.extBut c o (λz=>absurd old (bw (z▸q.1))) g⟩) (λo g=>hs'.extBut b o (λz=>absurd old (bw (z▸hb1))) g) λq=>q.2 rfl⟩
theorem js8:typeLookup (.type "object") "add_header"=pure none:=by rw[qd,pZ];kernel_rfl
theorem jqK{A:Around}{D n:Nat}{S:Sp}(hA:aR A D)(hD:3<=D)(O:Ops D S){env:Env}{η:ME}{C K:AP}{KG:NP}{s:Shared}{x a:Addr}{rows:LV}(fa:FA env η C K KG s)(X:Hd C s.heap x a rows)(hK:K a)(ha:V.h₀.get? a=none)
  {o en ev:PE}{ap pos spos:Pos}{u v:List Nat}(hb:baseOk o=true)(hline:(ap.endLine==pos.line)=true)(ho:aG S n η o=some (.obj x))(hl:cF (aG S n η) [en,ev]=some [.str u,.str v])(hu:dU u=true)(hv:dU v=true)(hvk:aL v.length=true)(hr:aL rows.length=true):
  Wp A (exec (.Expr (.Call (.Attribute o ("add_header":Str) ap) [en,ev] [] pos) spos) env) (λf s'=>f=.next/\aC (λb=>b=a) no s s'/\FA env η C K KG s'/\Hd C s'.heap x a (rows++[.tup [.str u,.str v]])) s:=by
 refine O6 ?_ fa.wY yM;rw[u0,mQ hb];have hE:=(sound hA O n).1;refine Wp.bind (hE η o env C K KG s _ fa ho) λov s₁ q=>tbn (gr ?_);refine kA q λe₁ hov=>?_;obtain rfl:=VR.xx hov;refine kA (noStar (env:=env) (pos:=pos) hl) λq1 q2=>?_;have X1:Hd C s₁.heap x a rows:=X.mono (λb o c g=>⟨c,aA.heap e₁ g⟩) (λo g=>aA.heap e₁ g) X.out;have dM:=fa.ext e₁;have:=GP nT dM.base X1.val (m:="add_header") ⋯ Ti js8 ∅ (A:=A) (o:=o) (env:=env) (Q:=λZ s'=>aC (λb=>b=a) no s s'/\FA env η C K KG s'/\Hd C s'.heap x a (rows++[.tup [.str u,.str v]])) hline (by rw[q2];show 2<20;decide) q1
  (Wp.mono (lO hE [en,ev] s₁ s₁ _ aC.refl dM hl) λvs s₂ q=>⟨q.1,by
   refine kA q λe₂ hvs=>?_;cases hvs with
   |cons h1 r=>cases r with
    |cons h2 r=>
     cases r;have X2:Hd C s₂.heap x a rows:=X1.mono (λb o c g=>⟨c,aA.heap e₂ g⟩) (λo g=>aA.heap e₂ g) X1.out;have cO:=dM.ext e₂;refine Wp.mono (jvS (hA.mono hD) cO.here X2 hu hv hvk hr (h1.plain rfl) (h2.plain rfl)) λr s₃ q=>?_;exact⟨(aA.cC (aC.trans e₁ e₂)).trans q.1,cO.cC q.1 (λb w=>w▸X.out) (λb w=>w▸hK) (λb w=>w▸ha),q.2⟩⟩)
 rw[q2] at this;exact Wp.mono this λv s' q=>⟨rfl,q⟩
theorem FA.jIb{env:Env}{η aq:ME}{C K:AP}{KG:NP}{s:Shared}{x a:Addr}{rows L:LV}{y:Str}(fa:FA env η C (λb=>K b\/b=a) KG s)(X:Hd C s.heap x a rows)(hy:look y η=some (.own (L++[.obj x])))(hs:bM y (.own (L++[.hdr rows])) η=some aq)
  (hk0:∀b o,V.h₀.get? b=some o->K b):FA env aq (λb=>C b\/b=a) K KG s:=by
 refine dZ fa.sees λm f h1 h2 h3 h4=>?_;have hl:=λz=>mO (y:=z) hs fa.wf;have z2:∀z p,look z aq=some p->(z=y/\p=.own (L++[.hdr rows]))\/(z≠y/\look z η=some p):=λz p hz=>by
  rw[(hl z).1] at hz;by_cases e:z=y
  ·rw[aX e] at hz;exact .inl ⟨e,(ir hz).symm⟩
  ·rw[aZ e] at hz;exact .inr ⟨e,hz⟩
 refine⟨fa.fn,fa.gl,fa.bi,λz k hz=>fa.kinds z k ((hl z).2.2.1 z▸hz),fW m f h1 (λz p hz=>?_) (λz l b hz hb=>?_) (λz z' l l' hz hz' e=>?_),fa.cells,fa.oK,λb hb=>.inl (fa.cJ b hb),⟨λq=>q.elim fa.dY.1 λq=>fa.dY.2.1 (.inr q),λq=>fa.dY.2.1 (.inl q),fa.dY.2.2⟩,
  λz c hk hc=>⟨λq=>q.elim (fa.gP z c hk hc).1 λq=>(fa.gP z c hk hc).2.1 (.inr q),λq=>(fa.gP z c hk hc).2.1 (.inl q),(fa.gP z c hk hc).2.2⟩,⟨λb hb=>fa.kept.1 b (.inl hb),fa.kept.2⟩,(hl y).2.2.2,fa.base,fa.bare,hk0⟩
 ·rcases z2 z p hz with ⟨rfl,rfl⟩|⟨hne,hz⟩
  ·refine Qp (h2 z _ hy) λhg hb b vs eb hcb hob hvs=>?_;have hnb:¬(K b\/b=a):=h3 z _ b hy eb;refine Qx rfl hb b vs eb (λq=>q.elim hcb λq=>hnb (.inr q)) hob ?_;refine cP vs hvs.split λus r h5 h6=>?_;refine cP r h6.gh λu Z h7 h8=>?_;rw[h8.jg,VR.xx h7];exact(h5.mono λb o c g=>⟨.inl c,g⟩).append (.cons X.val .nil)
  ·refine cD (h2 z p hz) λhg hb hv=>?_;exact⟨hg,hb,hv.Ie hg (λb o c g=>⟨.inl c,g⟩) λl b o ep eb nc g=>⟨λq=>q.elim nc λq=>h3 z l b (ep▸hz) eb (.inr q),g⟩⟩
 ·rcases z2 z _ hz with ⟨rfl,_⟩|⟨_,hz⟩
  ·exact λk=>h3 z _ b hy hb (.inl k)
  ·exact λk=>h3 z _ b hz hb (.inl k)
 ·rcases z2 z _ hz with ⟨rfl,_⟩|⟨_,hz⟩<;>rcases z2 z' _ hz' with ⟨rfl,_⟩|⟨_,hz'⟩
  ·rfl
  ·exact h4 z z' _ _ hy hz' e
  ·exact h4 z z' _ _ hz hy e
  ·exact h4 z z' _ _ hz hz' e
abbrev stL(i:Nat):Stmt:=cA (defOf bj 28).2.1 i
abbrev bU:Scope:=(defOf bj 28).2.2
noncomputable abbrev Nm:PV:=.tup [.int 3245,.int 1,.int 1093,.int 455,.int 2187,.int 49,.int 17,.int 10]
abbrev A0(l:List Int):ME:=[mk bU [some (.lst (l.map .int))]]
abbrev A1(l:List Int):ME:=[mk bU [some (.lst (l.map .int)),some Nm]]
abbrev A2(l:List Int)(c:List Nat):ME:=[mk bU [some (.lst (l.map .int)),some Nm,some (vC c)]]
theorem jAX(l:List Int):bh dh 20 (A0 l) (stL 0)=some (.next,A1 l):=⋯
theorem jp3:∀l:List Int,∃s,sW (l.map .int)=some s:=λl=>l.rec
  (⟨0,rfl⟩)
  λx r ih=>by
  refine kE (ih) λs h=>?_;exact⟨x+s,by
   show(sW (r.map .int)).map (x+·)=_;rw[h];rfl⟩
theorem mod_int(x k:Int)(hk:k≠0):iR .Mod (.int x) (.int k)=some (.int (x.fmod k)):=by
 show(if (k==0)=true then none else some (PV.int (x.fmod k)))=_;rw[aZ (by simpa using hk)]
theorem jpU(k:Nat):∀(n:Nat) (l:List Int),∃l':List Int,rA (l.map PV.int) k n=l'.map .int/\l'.length<=n:=λn=>n.recAux
  (λl=>aW ([]) rfl (aN _))
  λn ih=>fun
  |[]=>aW ([]) rfl (jq _)
  |x::r=>by
    refine aH (ih (r.drop (k-1))) λl' h1 h2=>?_;refine aW (x::l') ?_ (pX h2);show PV.int x::rA ((r.map PV.int).drop (k-1)) k n=_;rw[←Ii,h1];rfl
theorem juH(l:List Int)(hl:l.length<=63):∃l1:List Int,gm (.lst (l.map .int)) none (some 60)=some (.lst (l1.map .int))/\l1.length<=63:=by
 refine aW (l.take (jw 60 l.length)) ?_ ?_
 ·unfold gm fX;have:aL l.length=true:=bG (aF hl ∅);simp only[bH,this,gZ,Al,wM]
 ·exact aF (Aq ..) hl
theorem jxs(l:List Int)(hl:l.length<=63)(k:Nat)(hk:k<8):∃l1:List Int,qy (.lst (l.map .int)) (k:Int) 8=some (.lst (l1.map .int))/\l1.length<=63:=by
 refine aH (jpU 8 (l.map PV.int).length (l.drop k)) λl' h1 h2=>?_;refine aW l' ?_ (aF h2 (by rw[bH];exact hl));unfold qy;have:aL (l.map PV.int).length=true:=bG (by rw[bH];exact aF hl ∅);simp only[this,mF];rw[aX (by rw[b8 (oJ k),b8 (show(k:Int)<=1000 from qZ.mpr (aF (fL hk) ∅))];rfl),xf,←Ii];show some (PV.lst (rA ((l.drop k).map PV.int) 8 (l.map PV.int).length))=_;rw[h1]
abbrev cE:PE:=Hl (stL 1)
theorem wH(l:List Int)(hl:l.length<=63)(k:Nat)(hk:k<8):∃c:Nat,c<1000000/\qG dh 18 (A1 l) (uK cE) (Hc cE) (Ma cE) (.int (k:Int))=some [.int (c:Nat)]:=by
 refine aH (juH l hl) λl1 h1 hl1=>?_;refine aH (jxs l1 hl1 k hk) λl2 h2 hl2=>?_;refine kE (jp3 (l2.map λx=>x.fmod 1000000)) λs hs=>?_;have hsm:xQ [.lst (l2.map λx=>.int (x.fmod 1000000))]=some (.int s):=by
  have e:(l2.map λx=>PV.int (x.fmod 1000000))=(l2.map λx=>x.fmod 1000000).map .int:=by rw[jn];rfl
  show(if aL (l2.map λx=>PV.int (x.fmod 1000000)).length&&(l2.map λx=>PV.int (x.fmod 1000000)).all Bp then(sW (l2.map λx=>PV.int (x.fmod 1000000))).map PV.int else none)=_;refine bN ?_ (by rw[e,hs];rfl);rw[eN,bH];refine⟨b8 (aF hl2 ∅),cU.mpr λx hx=>?_⟩;refine eY x (gY.mp hx) λz Z=>?_;have h:=jn8 z (k:=1000000) ∅;show(decide (-1000000000<=z.fmod 1000000)&&decide (z.fmod 1000000<=1000000000))=true;rw[b8 (jr ∅ h.1),b8 (jr (w6 h.2) ∅)];rfl
 obtain⟨sd,hsd⟩:∃sd:Int,iz Nm (.int (k:Int))=some (.int sd):=⟨_,jow (l:=[3245,1,1093,455,2187,49,17,10].map PV.int) (j6 PV.int 0 (show k<8 from hk)) (aF (fL hk) ∅)⟩;have hc:=jn8 (sd+s) (k:=1000000) ∅;refine aW (((sd+s).fmod 1000000).toNat) ((Int.toNat_lt hc.1).mpr hc.2) ?_;have hfin:iR .Mod (.int (sd+s)) (.int 1000000)=some (.int ((((sd+s).fmod 1000000).toNat:Nat):Int)):=by
  rw[mod_int _ _ ∅];exact aU (λz=>some (PV.int z)) (Jl hc.1).symm
 refine iZ rfl iC (bA (bA (bT rfl (az rfl rfl) (az rfl rfl) hsd) (dN rfl rfl rfl rfl (aK (lq l2 .int (λx=>.int (x.fmod 1000000)) rfl (jn5 (jL (az rfl rfl) oZ (gU (aQ rfl)) h1) (az rfl rfl) (aQ rfl) h2) rfl rfl (λx Z=>?_) ?_) aO) hsm) rfl) (aQ rfl) hfin) rfl
 ·exact iZ rfl iC (bA (az rfl rfl) (aQ rfl) (mod_int _ _ ∅)) rfl
 ·exact bG (aF hl2 ∅)
theorem jnF(l:List Int)(hl:l.length<=63):∃c:List Nat,c.length=8/\c.all (λn=>decide (n<1000000))=true/\bh dh 20 (A1 l) (stL 1)=some (.next,A2 l c):=by
 refine aH (wH l hl 0 ∅) λc0 b0 h0=>?_;refine aH (wH l hl 1 ∅) λc1 b1 h1=>?_;refine aH (wH l hl 2 ∅) λc2 b2 h2=>?_;refine aH (wH l hl 3 ∅) λc3 b3 h3=>?_;refine aH (wH l hl 4 ∅) λc4 b4 h4=>?_;refine aH (wH l hl 5 ∅) λc5 b5 h5=>?_;refine aH (wH l hl 6 ∅) λc6 b6 h6=>?_;refine aH (wH l hl 7 ∅) λc7 b7 h7=>?_;refine cG ([c0,c1,c2,c3,c4,c5,c6,c7]) rfl ?_ ?_
 ·simp only[jR,Eu,b8 b0,b8 b1,b8 b2,b8 b3,b8 b4,b8 b5,b8 b6,b8 b7];rfl
 ·refine fD (v:=vC [c0,c1,c2,c3,c4,c5,c6,c7]) rfl (Br (items:=(List.range' 0 8).map λk=>PV.int (k:Nat)) rfl (dN rfl rfl rfl rfl (aK (aQ rfl) aO) rfl) ⋯ rfl ?_ rfl) rfl ⋯;show mJ (qG dh 18 (A1 l) (uK cE) (Hc cE) (Ma cE)) [.int ((0:Nat):Int),.int ((1:Nat):Int),.int ((2:Nat):Int),.int ((3:Nat):Int),.int ((4:Nat):Int),.int ((5:Nat):Int),.int ((6:Nat):Int),.int ((7:Nat):Int)]=_;simp only[mJ,h0,h1,h2,h3,h4,h5,h6,h7,nD];rfl
theorem jsq:∀l:List (List Nat),PV.iK (l.map .str) (l.map .str)=true:=λl=>l.rec
  rfl
  λx r ih=>by
  show(PV.beq (.str x) (.str x)&&PV.iK (r.map .str) (r.map .str))=true;rw[ih,rJ];simp
theorem jpY:∀l l':List (List Nat),((l.map PV.str).zip (l'.map PV.str)).all (λp=>PV.cQ 7 p.1 p.2)=true:=λl=>l.rec
  (λZ=>by simp)
  λx r ih=>fun
  |[]=>by simp
  |y::r'=>by
    simp only[fu,Ol,jR,ih r',mF];rfl
theorem HR(l:List (List Nat))(ha:a=.lst (l.map .str)\/a=.own (l.map .str))(hb:b=.lst (l.map .str)\/b=.own (l.map .str)):gk .NotEq a b=some false:=by
 have h1:=jsq l;have h2:=jpY l l;have e:PV.cQ 8 a b=true:=by rcases ha with rfl|rfl<;>rcases hb with rfl|rfl<;>exact h2
 rw[J1 e,Cg ha hb,h1];rfl
def row2(p:PV):Bool:=(lM p).any λq=>q.2.bV.isSome
theorem juA(h:row2 p=true):∃a b,p=.tup [.str a,.str b]:=by
 refine aH (ux h) λq h1 h2=>?_;refine kE (iQ h2) λb h3=>?_;exact kW q.1 b (by rw[Bl h1,PV.fJ h3])
theorem jsk:∀l:LV,l.all row2=true->PV.iK l l=true/\(l.zip l).all (λp=>PV.cQ 7 p.1 p.2)=true:=λl=>l.rec
  (λZ=>⟨rfl,rfl⟩)
  λx r ih h=>by
  simp only[jR,eN] at h;refine kA (ih h.2) λh1 h2=>?_;refine Bc x (juA h.1) λa b=>?_;refine⟨?_,?_⟩
  ·show((PV.beq (.str a) (.str a)&&(PV.beq (.str b) (.str b)&&true))&&PV.iK r r)=true;rw[h1,rJ,rJ,kh,kh];rfl
  ·simp only[Ol,jR,h2,mF];rfl
theorem jla(l:LV)(h:l.all row2=true)(ha:a=.lst l\/a=.own l)(hb:b=.lst l\/b=.own l):gk .NotEq a b=some false/\gk .Eq a b=some true:=by
 refine kA (jsk l h) λh1 h2=>?_;have e:PV.cQ 8 a b=true:=by rcases ha with rfl|rfl<;>rcases hb with rfl|rfl<;>exact h2
 exact⟨by rw[J1 e,Cg ha hb,h1];rfl,by rw[QM e,Cg ha hb,h1]⟩
theorem jrB(hc:c.length=8)(hb:c.all (λn=>decide (n<1000000))=true):M7 [vC c]=some (.lst ((gV c).map Tr.val)):=by
 show((cF M6 (c.map λi=>PV.int (i:Nat))).bind λc=>if decide (c.length=8)&&c.all (λn=>decide (n<1000000)) then some (PV.lst ((gV c).map Tr.val)) else none)=_;rw[Ur (f:=M6) (g:=λi:Nat=>PV.int (i:Nat)) (λn=>by
  show(if decide (0<=(n:Int)) then some (n:Int).toNat else none)=_;rw[b8 (oJ n)];rfl) c]
 exact bN (by rw[b8 hc,hb];rfl) rfl
theorem joD(f:α->List Nat):∀xs:List α,gn [] (xs.map λx=>.str (f x))=some (xs.flatMap f):=λxs=>xs.rec
  rfl
  λx r ih=>by
  rw[fu,uh];exact jg1 (ih)
theorem Vj(f:α->List Nat)(xs:List α)(h:(xs.flatMap f).length<=1000000):rH 140 145 j5 "join" (.str []) [.lst (xs.map λx=>.str (f x))]=some (.str (xs.flatMap f)):=by
 show(if aL 0 then(gn [] (xs.map λx=>.str (f x))).bind lH else none)=_;refine bN rfl ?_;rw[joD];show lH _=_;rw[lH,aX (bG h)]
def wT(T:List Tr):List Nat:=T.flatMap Tr.typed
theorem jtk:∀T:List Tr,(wT T).length<=9*cT T:=λT=>T.rec
  (aN _)
  λt T ih=>by
  have h1:=ih;have h2:=jjH t;show(t.typed++wT T).length<=9*(t.size+cT T);rw[bz];lia
noncomputable abbrev g0(W:List Nat):List Nat:=W
noncomputable abbrev g1(W:List Nat):List Nat:=W++[34,40]
noncomputable abbrev g2(W:List Nat):List Nat:=[41]++W++[40]
noncomputable abbrev g3(W:List Nat):List Nat:=W++[40,34,41,92,102,92]
theorem jAv(W:List Nat)(h:∀k,W.foldl stp (.out k)=.out k):check (g0 W)=true/\check (g1 W)=false/\check (g2 W)=false/\check (g3 W)=true:=by
 refine jh ?_ ?_ ?_ ?_
 ·rw[zK,h];rfl
 ·rw[zK,lC,h];rfl
 ·rw[zK,lC,lC];show qN ([40].foldl stp (W.foldl stp .dead))=false;rw[jld];rfl
 ·rw[zK,lC,h];rfl
abbrev gs(W:List Nat):List (List Nat):=[g0 W,g1 W,g2 W,g3 W]
abbrev HS(W:List Nat):PV:=.lst [.str (g0 W),.str (g1 W),.str (g2 W),.str (g3 W)]
theorem jxd(hW:W.length<=100)(h:∀k,W.foldl stp (.out k)=.out k):Mj [HS W]=some (.lst [.str (g0 W),.str zg,.str zg,.str (g3 W)]):=by
 refine cW (jAv W h) λh0 h1 h2 h3=>?_;have l:∀x y:List Nat,x.length<=10->y.length<=10->jD (x++W++y)=true:=λx y hx hy=>wB (by rw[bz,bz];lia);have e:([PV.str (g0 W),.str (g1 W),.str (g2 W),.str (g3 W)]:LV).all Mi=true:=by
  show(jD (g0 W)&&(jD (g1 W)&&(jD (g2 W)&&(jD (g3 W)&&true))))=true;rw[show jD (g0 W)=true from wB (by lia),show jD (g1 W)=true from l [] [34,40] ∅ ∅,show jD (g2 W)=true from l [41] [40] ∅ ∅,show jD (g3 W)=true from l [] [40,34,41,92,102,92] ∅ ∅];rfl
 show(if decide ([PV.str (g0 W),.str (g1 W),.str (g2 W),.str (g3 W)].length<=1000)&&([PV.str (g0 W),.str (g1 W),.str (g2 W),.str (g3 W)]:LV).all Mi then some (PV.lst [.str (told (g0 W)),.str (told (g1 W)),.str (told (g2 W)),.str (told (g3 W))]) else none)=_;refine bN (by rw[e];rfl) ?_;unfold told;rw[h0,h1,h2,h3];rfl
section
variable(l:List Int)(c:List Nat)(T:List Tr)
abbrev p3:List (OV):=[some (.lst (l.map .int)),some Nm,some (vC c),some (.lst (T.map Tr.val))]
abbrev p4:List (OV):=p3 l c T++[some (.str (wT T))]
abbrev p5:List (OV):=p4 l c T++[some (HS (wT T))]
abbrev p6:List (OV):=p5 l c T++[some (HS (wT T))]
theorem jAY(hc:c.length=8)(hb:c.all (λn=>decide (n<1000000))=true):bh dh 20 (A2 l c) (stL 2)=some (.next,[mk bU (p3 l c (gV c))]):=
 fD rfl (d9 rfl rfl rfl (aK (az rfl rfl) aO) rfl (jrB hc hb)) rfl ⋯
theorem jAZ(hs:cT T<=8):bh dh 20 [mk bU (p3 l c T)] (stL 3)=some (.next,[mk bU (p4 l c T)]):=by
 have hw:=jtk T;have ht:T.length<=1000:=by
  have:∀T:List Tr,T.length<=cT T:=λT=>by
   induction T with|nil=>exact aN _|cons t T ih=>exact aF (fH (ud ..)) (ue (Hu t) ih)
  have:=this T;lia
 exact fD rfl (gA rfl (aQ rfl) (aK (lq T Tr.val (λt=>.str t.typed) rfl (az rfl rfl) rfl rfl (λt Z=>iZ rfl iC (bT rfl (az rfl rfl) (aQ rfl) rfl) rfl) (bG (aF ht ∅))) aO) (Vj Tr.typed T (by unfold wT at hw;lia))) rfl ⋯
theorem jA0(hW:(wT T).length<=100):bh dh 20 [mk bU (p4 l c T)] (stL 4)=some (.next,[mk bU (p5 l c T)]):=by
 have l:∀x y:List Nat,x.length<=10->y.length<=10->aL (x++wT T++y).length=true:=λx y hx hy=>bG (by rw[bz,bz];lia);exact fD (v:=HS (wT T)) rfl (qD (aK (az rfl rfl) (aK (y:=.str (g1 (wT T))) (bA (az rfl rfl) (aQ rfl) (ie (l [] [34,40] ∅ ∅))) (aK (y:=.str (g2 (wT T))) (bA (bA (aQ rfl) (az rfl rfl) (ie (x:=[41]) (bG (by rw[bz,mD];lia)))) (aQ rfl) (ie (l [41] [40] ∅ ∅))) (aK (y:=.str (g3 (wT T))) (bA (az rfl rfl) (aQ rfl) (ie (l [] [40,34,41,92,102,92] ∅ ∅))) aO)))) rfl) rfl ⋯
theorem jA1:bh dh 20 [mk bU (p5 l c T)] (stL 5)=some (.next,[mk bU (p6 l c T)]):=⋯
theorem jA2(hW:(wT T).length<=100)(h:∀k,(wT T).foldl stp (.out k)=.out k):bh dh 20 [mk bU (p6 l c T)] (stL 6)=some (.next,[mk bU (p6 l c T)]):=by
 refine eZ (c:=false) (uA (vN (b:=false) (cM rfl (d9 rfl rfl rfl (aK (az rfl rfl) aO) rfl (jxd hW h)) (qD (l:=[.str (g0 (wT T)),.str zg,.str zg,.str (g3 (wT T))]) (aK (bT rfl (az rfl rfl) (aQ rfl) rfl) (aK (aQ rfl) (aK (aQ rfl) (aK (bT rfl (az rfl rfl) (aQ rfl) rfl) aO)))) rfl) (HR [g0 (wT T),zg,zg,g3 (wT T)] (.inl rfl) (.inl rfl))) (zy (cM rfl (az rfl rfl) (az rfl rfl) (HR (gs (wT T)) (.inl rfl) (.inl rfl)))))) dz
end
noncomputable def jF:Nat->Bool->List Nat->List (Nat×List Nat)
 |p,e,[]=>if e then [(p-1,[92])] else []|p,e,c::r=>if e then(p,[92,c])::jF (p+1) false r else if c==92 then jF (p+1) true r else(p,[c])::jF (p+1) false r
noncomputable def tY(q:Nat×List Nat):PV:=.tup [.int (q.1:Nat),.str q.2]
theorem jtX:∀(s:List Nat) (p:Nat) (e:Bool),(e=true->1<=p)->fB p e s=(jF p e s).map tY:=λs=>s.rec
  (fun
  |p,true,h=>by
    have h:=h rfl;show [PV.tup [.int ((p:Int)-1),.str [92]]]=[PV.tup [.int ((p-1:Nat):Int),.str [92]]];rw[show(p:Int)-1=((p-1:Nat):Int) by lia]
  |p,false,_=>rfl)
  λc r ih=>fun
  |p,true,_=>by
    show PV.tup [.int (p:Int),.str [92,c]]::fB (p+1) false r=tY (p,[92,c])::(jF (p+1) false r).map tY;rw[ih (p+1) false (λh=>nomatch h)];rfl
  |p,false,_=>by
    show(if c==92 then fB (p+1) true r else PV.tup [.int (p:Int),.str [c]]::fB (p+1) false r)=(if c==92 then jF (p+1) true r else(p,[c])::jF (p+1) false r).map tY;rw[ih (p+1) true (λZ=>pX (jq _)),ih (p+1) false (λh=>nomatch h)];split<;>rfl
theorem jgV:∀(s:List Nat) (p:Nat) (e:Bool),(jF p e s).map Prod.snd=jc e s:=λs=>s.rec
  (fun
  |p,true=>rfl
  |p,false=>rfl)
  λc r ih=>fun
  |p,true=>by
    show [92,c]::(jF (p+1) false r).map Prod.snd=[92,c]::jc false r;rw[ih]
  |p,false=>by
    show(if c==92 then jF (p+1) true r else(p,[c])::jF (p+1) false r).map Prod.snd=if c==92 then jc true r else [c]::jc false r
    split
    ·exact ih _ _
    ·rw[fu,ih]
theorem jn1:∀(s:List Nat) (e:Bool),(jc e s).flatten=(if e then [92] else [])++s:=λs=>s.rec
  (fun
  |true=>rfl
  |false=>rfl)
  λc r ih=>fun
  |true=>by
    show [92,c]++(jc false r).flatten=_;rw[ih];rfl
  |false=>by
    show(if c==92 then jc true r else [c]::jc false r).flatten=c::r;split
    ·rename_i h;rw[ih,eq_of_beq h];rfl
    ·rw[List.flatten_cons,ih];rfl
theorem Vk(a u b:List Nat)(n:Nat)(h:n+1=a.length+u.length):u.length<=n+1/\n+1<=(a++u++b).length/\((a++u++b).take (n+1)).drop (n+1-u.length)=u:=by
 refine⟨h▸lu ..,by rw[bz,bz,←h];exact je ..,?_⟩;rw[DQ (by rw[bz];exact h.symm),List.drop_left' (Nat.sub_eq_of_eq_add h).symm]
theorem jmg:∀(s pre:List Nat) (e:Bool) (full:List Nat) (p:Nat),full=pre++(if e then [92] else [])++s->p=pre.length+(if e then 1 else 0)->
  ∀q∈jF p e s,q.2.length<=q.1+1/\q.1+1<=full.length/\(full.take (q.1+1)).drop (q.1+1-q.2.length)=q.2:=λs=>s.rec
  (fun
  |pre,true,full,p,hf,hp,q,hq=>by
    have hq:q∈[(p-1,[92])]:=hq;rw[oG] at hq;subst hq;rw[hf];exact Vk pre [92] [] (p-1) (by rw[hp];simp)
  |pre,false,full,p,hf,hp,q,hq=>nomatch hq)
  λc r ih=>fun
  |pre,true,full,p,hf,hp,q,hq=>by
    have hp:p=pre.length+1:=hp;have hf:full=pre++[92]++c::r:=hf;have hq:q∈(p,[92,c])::jF (p+1) false r:=hq;rcases gO.mp hq with rfl|hq
    ·rw[show full=pre++[92,c]++r by rw[hf];simp];exact Vk pre [92,c] r p (by rw[hp];rfl)
    ·exact ih (pre++[92,c]) false full (p+1) (by rw[hf];simp) (by rw[hp];simp) q hq
  |pre,false,full,p,hf,hp,q,hq=>by
    have hp:p=pre.length:=hp;have hf:full=pre++c::r:=by rw[hf];simp
    have hq:q∈(if c==92 then jF (p+1) true r else(p,[c])::jF (p+1) false r):=hq;cases h:c==92 with
    |true=>
     rw[h,aX rfl] at hq;exact ih pre true full (p+1) (by rw[hf,eq_of_beq h];simp) (by rw[hp];rfl) q hq
    |false=>
     rw[h,aZ ∅] at hq;rcases gO.mp hq with rfl|hq
     ·rw[show full=pre++[c]++r by rw[hf];simp];exact Vk pre [c] r p (by rw[hp];rfl)
     ·exact ih (pre++[c]) false full (p+1) (by rw[hf];simp) (by rw[hp];simp) q hq
def uT(T:List Tr):List (List Nat):=T.flatMap Tr.units
theorem Np:∀(T:List Tr),(∀t∈T,t.ok)->Seen (T.flatMap Tr.typed) (uT T) (T.flatMap Tr.bare):=λT=>T.rec
  (λZ=>⟨λZ=>rfl,λZ=>rfl,rfl,rfl⟩)
  λt T ih h=>(seen t (h t (.head _))).app (ih λx hx=>h x (.tail _ hx))
theorem jmz(T:List Tr)(h:∀t∈T,t.ok):jc false (strip (T.flatMap Tr.typed++[40,34,41,92,102,92]))=uT T++[[40],[34],[41],[92,102],[92]]:=(Np T h).see _
theorem jrc:∀(s:List Nat) (p:Nat) (e:Bool),(jF p e s).length<=s.length+1:=λs=>s.rec
  (fun
  |p,true=>aN _
  |p,false=>jq _)
  λc r ih=>fun
  |p,true=>by
    show(jF (p+1) false r).length+1<=r.length+1+1;have:=ih (p+1) false;lia
  |p,false=>by
    show(if c==92 then jF (p+1) true r else(p,[c])::jF (p+1) false r).length<=r.length+1+1;have h1:=ih (p+1) true;have h2:=ih (p+1) false;split
    ·lia
    ·rw[dC];lia
def oh(T:List Tr):List Nat:=strip (g3 (wT T))
def jm(T:List Tr):List (Nat×List Nat):=jF 0 false (oh T)
theorem Vl(hW:(wT T).length<=100):(oh T).length<=106:=by
 have h:(fs 0 [] (g3 (wT T))).length<=([]:List Nat).length+(g3 (wT T)).length:=js3 (g3 (wT T)) 0 [];rw[bz] at h;simp only[dC,jJ] at h;unfold oh strip;lia
theorem HW(hW:(wT T).length<=100):(jm T).length<=107:=aF (jrc _ _ _) (by have:=Vl hW;lia)
theorem jjE(T:List Tr):(jm T).flatMap Prod.snd=oh T:=by
 rw[List.flatMap_def,jm,jgV,jn1];rfl
theorem jhl(T:List Tr):∀q∈jm T,q.2.length<=q.1+1/\q.1+1<=(oh T).length/\((oh T).take (q.1+1)).drop (q.1+1-q.2.length)=q.2:=jmg (oh T) [] false (oh T) 0 rfl rfl
section
variable(l:List Int)(c:List Nat)(T:List Tr)
abbrev p7:List (OV):=p6 l c T++[some (.str (oh T))]
abbrev p8:List (OV):=p7 l c T++[some (.lst ((jm T).map tY))]
theorem jA3(hW:(wT T).length<=100):bh dh 20 [mk bU (p6 l c T)] (stL 7)=some (.next,[mk bU (p7 l c T)]):=by
 have h:yZ [.str (g3 (wT T))]=some (.str (oh T)):=aX (wB (by rw[bz];simp only[dC,jJ];lia));exact fD rfl (d9 rfl rfl rfl (aK (bT rfl (az rfl rfl) (aQ rfl) rfl) aO) rfl h) rfl ⋯
theorem jA4(hW:(wT T).length<=100):bh dh 20 [mk bU (p7 l c T)] (stL 8)=some (.next,[mk bU (p8 l c T)]):=by
 have h:Tz [.gen (fB 0 false (oh T))]=some (.lst ((jm T).map tY)):=by
  show gj (fB 0 false (oh T))=_;rw[jtX (oh T) 0 false (λh=>Bool.noConfusion h),gj,aX (by rw[bH];exact bG (aF (HW hW) ∅))];rfl
 exact fD rfl (dN rfl rfl rfl rfl (aK (d9 rfl rfl rfl (aK (az rfl rfl) aO) rfl rfl) aO) h) rfl ⋯
abbrev t9:PE:=zA [stL 9]
noncomputable def jAU:PE->PE
 | .Compare a _ _ _=>a|_=>default
abbrev e9:PE:=jAU (jAL t9)
theorem jA5(hW:(wT T).length<=100):bh dh 20 [mk bU (p8 l c T)] (stL 9)=some (.next,[mk bU (p8 l c T)]):=by
 have hk:aL (jm T).length=true:=bG (aF (HW hW) ∅);have hL:=Vl hW;have j:=Vj Prod.snd (jm T) (by rw[jjE];lia);rw[jjE] at j;refine eZ (c:=false) (uA (vN (b:=false) (cM rfl (gA rfl (aQ rfl) (aK (lq (jm T) tY (λq=>.str q.2) rfl (az rfl rfl) rfl rfl (λq Z=>?_) hk) aO) j) (az rfl rfl) (ne_str (by rw[kh];rfl)))
  (zy (cM rfl (Um (jm T) tY (λZ=>false) (λq=>.str q.2) rfl (az rfl rfl) rfl rfl (λq hq=>?_) hk) (qD aO rfl) ?_)))) dz
 ·exact iZ (rK rfl rfl rfl rfl) iC (az rfl rfl) rfl
 ·refine cD (jhl T q hq) λh1 h2 h3=>?_;have hs:=T8 (s:=oh T) (bG (aF hL ∅)) (a:=q.1+1-q.2.length) (b:=q.1+1) (pW ..) h2;rw[h3] at hs;have hl:rC [.str q.2]=some (.int (q.2.length:Nat)):=by
   show(if aL q.2.length then some (PV.int q.2.length) else none)=_;exact bN (bG (by lia)) rfl
  exact Un (b:=false) (aD:=[mk (uK e9) [none,some (.int (q.1:Nat)),some (.str q.2)],mk bU (p8 l c T)]) (rK rfl rfl rfl rfl) (Cx (cM rfl (jL (az rfl rfl) (gU (bA (p:=.int ((q.1+1-q.2.length:Nat):Int)) (bA (az rfl rfl) (aQ rfl) (qK q.1 1)) (dN rfl rfl rfl rfl (aK (az rfl rfl) aO) hl) (aU (λi=>some (PV.int i)) (xd h1).symm))) (gU (bA (az rfl rfl) (aQ rfl) (qK q.1 1))) hs) (az rfl rfl) (ne_str (by rw[kh];rfl)))) (az rfl rfl) rfl
 ·rw[show(jm T).filter (λZ=>false)=[] from by simp];exact HR [] (.inl rfl) (.inl rfl)
end
theorem jrL(h:aL l.length=true):gm (.lst l) none (some (-5))=some (.lst (l.take (l.length-5))):=by
 show(if aL l.length then some (PV.lst ((l.take (jw (-5) l.length)).drop 0)) else none)=_;rw[aX h,show jw (-5) l.length=_ from UL 4 _,Al]
def zM(us:List (List Nat)):List Nat:=us.filterMap dF
theorem jmR:∀Q:List (Nat×List Nat),((Q.filter λq=>q.2.length==1).map λq=>PV.str q.2)=(zM (Q.map Prod.snd)).map λc=>.str [c]:=λQ=>Q.rec
  rfl
  λ(p,u) Q ih'=>by
  have ih:=ih'
  match u with|[]=>exact ih|[c]=>exact aU (PV.str [c]::·) ih|_::_::_=>exact ih
theorem jjl:∀us:List (List Nat),us.all wD=true->yW (zM us)=some (uP us):=λus=>us.rec
  (λZ=>rfl)
  λu us ih' h=>by
  refine kA (bD (show(wD u&&us.all wD)=true from h)) λh1 h2=>?_;have ih:=ih' h2
  match u,h1 with
  |[],_=>exact ih
  |[c],h1=>
   show(if gM.contains (c:Int) then yW (zM us) else(jO c).bind λx=>(yW (zM us)).map λy=>x++y)=some ((if gM.contains (c:Int) then [] else(jO c).getD [])++uP us);have h1:(gM.contains (c:Int)||(jO c).isSome)=true:=h1;rw[ih];cases hb:gM.contains (c:Int) with
   |true=>rfl
   |false=>
    rw[hb,Bool.false_or] at h1;refine kE (iQ h1) λx hx=>?_;rw[hx];rfl
  |_::_::_,_=>exact ih
theorem jhm(T:List Tr)(h:∀t∈T,t.ok):((jm T).take ((jm T).length-5)).map Prod.snd=uT T:=by
 have e:(jm T).map Prod.snd=uT T++[[40],[34],[41],[92,102],[92]]:=by
  rw[jm,jgV];exact jmz T h
 have hl:(jm T).length=(uT T).length+5:=by rw[←bH (as:=jm T) Prod.snd,e,bz];rfl
 rw[wM,e,hl,DR,DQ rfl]
def Vm(T:List Tr):PV:=.lst ((zM (uT T)).map λc=>.str [c])
section
variable(l:List Int)(c:List Nat)(T:List Tr)
abbrev lG:List (OV):=p8 l c T++[some (Vm T)]
theorem jy9(h:∀t∈T,t.ok)(hW:(wT T).length<=100):bh dh 20 [mk bU (p8 l c T)] (stL 10)=some (.next,[mk bU (lG l c T)]):=by
 have hk:aL ((jm T).map tY).length=true:=by rw[bH];exact bG (aF (HW hW) ∅)
 have hs:=jrL hk;rw[bH,←wM] at hs;have hl:=HW hW;refine fD (v:=Vm T) rfl ?_ rfl ⋯;unfold Vm;rw[←jhm T h,←jmR];refine Um ((jm T).take ((jm T).length-5)) tY (λq=>q.2.length==1) (λq=>.str q.2) rfl (jL (az rfl rfl) oZ (gU (i:= -5) ⋯) hs) rfl rfl (λq hq=>?_) (bG (by rw[sH];omega));have hq:=DK hq;refine cD (jhl T q hq) λh1 h2 Z=>?_;have h3:=Vl hW;have hb:rC [.str q.2]=some (.int (q.2.length:Nat)):=by
  show(if aL q.2.length then some (PV.int q.2.length) else none)=_;exact bN (bG (by lia)) rfl
 exact Un (aD:=[mk (uK (Hl (stL 10))) [none,some (.int (q.1:Nat)),some (.str q.2)],mk bU (p8 l c T)]) (rK rfl rfl rfl rfl) (Cx (cM rfl (dN rfl rfl rfl rfl (aK (az rfl rfl) aO) hb) (aQ rfl) (v9 (by
  rw[qX,bO,bO];lia)))) (az rfl rfl) rfl
end
noncomputable def Vn:PE->PE
 | .Call _ (a::_) _ _=>a|_=>default
theorem jny:∀T:List Tr,(T.flatMap Tr.bare).length<=3*cT T:=λT=>T.rec
  (aN _)
  λt T ih=>by
  have h1:=ih;have h2:=Df t;show(t.bare++T.flatMap Tr.bare).length<=3*(t.size+cT T);rw[bz];lia
section
variable(l:List Int)(c:List Nat)(T:List Tr)
abbrev Nq:PV:=.lst ((T.map Tr.bare).map .str)
abbrev jV:List (OV):=lG l c T++[some (Nq T)]
theorem jza(h:∀t∈T,t.ok)(hs:cT T<=8)(hW:(wT T).length<=100):bh dh 20 [mk bU (lG l c T)] (stL 11)=some (.next,[mk bU (jV l c T)]):=by
 have h1:=(Np T h).prep;have h2:=(Np T h).all;have hp:=jjl (uT T) h2;rw[h1] at hp;have hb:=jny T;have hu:(zM (uT T)).length<=200:=by
  have a:(zM (uT T)).length<=(uT T).length:=List.length_filterMap_le ..;have b:=jhm T h;have d:=HW hW;have e:(uT T).length<=(jm T).length:=by
   rw[←b,bH,sH];omega
  lia
 have key:∃out,aG dh 17 [mk bU (lG l c T)] (Vn (Vn (Hl (stL 11))))=some (.lst out)/\gn [] out=some (T.flatMap Tr.bare):=by
  refine jmh rfl (az rfl rfl) rfl (bG (by rw[bH];lia)) rfl (T4 (λc hb=>?_) (λc x hb hx=>?_) _ _ hp)
  ·exact T5 rfl (Cx (QT (J3 (d9 rfl rfl rfl (aK (az rfl rfl) aO) rfl (jwP hb)) rfl)))
  ·have hm:LR [.str [c]]=some (.str x):=by
    show(jO c).map PV.str=_;rw[hx];rfl
   exact iZ rfl (Cx (QT (J3 (d9 rfl rfl rfl (aK (az rfl rfl) aO) rfl (jwP hb)) rfl))) (d9 rfl rfl rfl (aK (az rfl rfl) aO) rfl hm) rfl
 refine aH key λout k1 k2=>?_;have hj:rH 140 145 j5 "join" (.str []) [.lst out]=some (.str (T.flatMap Tr.bare)):=by
  show(if aL 0 then(gn [] out).bind lH else none)=_;refine bN rfl ?_;rw[k2];show lH _=_;rw[lH,aX (bG (by lia))]
 have hc:=UT (s:=T.flatMap Tr.bare) (by lia);rw[U7] at hc;exact fD rfl (d9 rfl rfl rfl (aK (gA rfl (aQ rfl) (aK k1 aO) hj) aO) rfl hc) rfl ⋯
theorem jry:gk .Is (.bool b) (.bool false)=some (!b):=by cases b<;>rfl
theorem jur(xs:List α)(g:α->List Nat):gk .NotEq (.lst ((xs.map g).map .str)) (.lst (xs.map λx=>.str (g x)))=some false:=by
 have e:(xs.map λx=>PV.str (g x))=(xs.map g).map .str:=by rw[jn];rfl
 rw[e];exact HR _ (.inl rfl) (.inl rfl)
theorem jzb(hs:cT T<=8)(hT:T.length<=8)(hW:(wT T).length<=100)(h:∀k,(wT T).foldl stp (.out k)=.out k):bh dh 20 [mk bU (jV l c T)] (stL 12)=some (.next,[mk bU (jV l c T)]):=by
 refine cW (jAv (wT T) h) λZ h1 h2 Z=>?_;have l1:(g1 (wT T)).length<=10000:=by rw[bz];simp only[dC,jJ];lia
 have l2:(g2 (wT T)).length<=10000:=by rw[bz,bz];simp only[dC,jJ];lia
 have ck:∀s∈[g1 (wT T),g2 (wT T)],v8 [.str s]=some (.bool false):=λs hs=>by
  rcases gO.mp hs with rfl|hs
  ·exact(aX (wB l1)).trans (by rw[h1])
  ·rw[oG] at hs;subst hs;exact(aX (wB l2)).trans (by rw[h2])
 refine eZ (c:=false) (uA (vN (b:=false) (cM rfl (az rfl rfl) (lq T Tr.val (λt=>.str t.bare) rfl (az rfl rfl) rfl rfl (λt Z=>?_) (bG (by lia))) (jur T Tr.bare))
  (zy (cM rfl (lq (a:=.lst ([g1 (wT T),g2 (wT T)].map .str)) [g1 (wT T),g2 (wT T)] .str (λZ=>.bool true) rfl (jL (a:=HS (wT T)) (az rfl rfl) (gU (aQ rfl)) (gU (aQ rfl)) ⋯) rfl rfl (λs hs=>?_) rfl) (qD (l:=[.bool true,.bool true]) ⋯ rfl) ⋯)))) dz
 ·exact iZ rfl iC (bT rfl (az rfl rfl) (aQ rfl) rfl) rfl
 ·exact iZ rfl iC (QS rfl (d9 rfl rfl rfl (aK (az rfl rfl) aO) rfl (ck s hs)) (aQ rfl) jry) rfl
end
abbrev jAV(S:Sp)(n:Nat)(η:ME)(sc:Scope)(g:Comprehension)(k v:PE)(x:PV):Option (LV):=
 (d8 g.target x (bQ sc::η)).bind λaD=>(jW (bI S n) aD g.ifs).bind λok=>if ok then((aG S n aD k).bind λa=>(aG S n aD v).bind λb=>some [.tup [a,b]]) else some []
theorem jn3{S:Sp}{n:Nat}{η:ME}{α:Type}{k v:PE}{g:Comprehension}{sc:Scope}{pos:Pos}{a:PV}{d:List (PV×PV)}(xs:List α)(f a' b':α->PV)(hc:(gw sc η&&jX g)=true)(ha:aG S n η g.iter=some a)(hi:fQ a=some (xs.map f))(hf:freshT (bQ sc::η) g.target=true)
  (hs:∀x∈xs,jAV S n η sc g k v (f x)=some [.tup [a' x,b' x]])(hk:aL xs.length=true)(hp:putAll (xs.map λx=>.tup [a' x,b' x]) []=some d):
  aG S (n+1) η (.DictComp k v [g] sc pos)=some (.dct d):=by
 rw[←Hk] at hp;refine jrf hc ha hi hf (Hj xs hs) ?_ hp;rw[Hk,bH];exact hk
def uR:List Tr->List (PV×PV)->List (PV×PV)
 |[],d=>d|t::T,d=>uR T (oY t.bare (bZ t.poly) d)
theorem jpj:∀(T:List Tr) (d:List (PV×PV)),putAll (T.map λt=>.tup [.str t.bare,bZ t.poly]) d=some (uR T d):=λT=>T.rec
  (λZ=>rfl)
  λt T ih d=>ih _
theorem jt1(k k':List Nat)(v:PV):∀d:List (PV×PV),gR k (oY k' v d)=if k=k' then some v else gR k d:=λd=>d.rec
  (by
  show(if (some k'==some k)=true then some v else none)=_;by_cases h:k=k'
  ·rw[aX h,aX (by rw[h,kh])]
  ·rw[aZ h,aZ (by rw[bO];exact λe=>h (ir e).symm)];rfl)
  λp r ih=>by
  show gR k (if p.1.bV==some k' then(p.1,v)::r else p::oY k' v r)=_;cases h1:p.1.bV==some k' with
  |true=>
   rw[aX rfl];show(if p.1.bV==some k then some v else gR k r)=if k=k' then some v else if p.1.bV==some k then some p.2 else gR k r
   rw[eq_of_beq h1];by_cases h:k=k'
   ·rw[aX h,aX (by rw[h,kh])]
   ·have hn:((some k':Option (List Nat))==some k)=false:=gD.mpr λe=>h (ir e).symm;rw[aZ h,hn];rfl
  |false=>
   rw[aZ ∅];show(if p.1.bV==some k then some p.2 else gR k (oY k' v r))=if k=k' then some v else if p.1.bV==some k then some p.2 else gR k r
   rw[ih];cases h2:p.1.bV==some k with
   |false=>rfl
   |true=>
    have h:k≠k':=λe=>by
     rw[e] at h2;rw[h1] at h2;exact nf h2
    rw[aX rfl,aZ h,aX rfl]
theorem jnx{t u:Tr}(ht:t.size<=8)(hu:u.size<=8)(h:t.bare=u.bare):t.poly=u.poly:=by
 have h1:=HD t 8 ht ht;have h2:=HD u 8 hu hu;rw[h,h2] at h1;exact(ir h1).symm
theorem joJ{t:Tr}(ht:t.size<=8):∀(T:List Tr) (d:List (PV×PV)),(∀u∈T,u.size<=8)->(t∈T\/gR t.bare d=some (bZ t.poly))->gR t.bare (uR T d)=some (bZ t.poly):=λT=>T.rec
  (λd Z h=>h.elim (λh=>nomatch h) id)
  λu T ih d hs h=>by
  refine ih _ (λx hx=>hs x (pO _ hx)) ?_;rw[jt1];by_cases e:t.bare=u.bare
  ·rw[aX e,jnx ht (hs u (nA ..)) e];exact .inr rfl
  ·rw[aZ e];rcases h with h|h
   ·rcases gO.mp h with rfl|h
    ·exact absurd rfl e
    ·exact .inl h
   ·exact .inr h
section
variable(l:List Int)(c:List Nat)(T:List Tr)
abbrev xH:List (OV):=jV l c T++[none,some (.dct (uR T []))]
theorem jzc(hs:∀t∈T,t.size<=5)(hT:T.length<=8):bh dh 20 [mk bU (jV l c T)] (stL 13)=some (.next,[mk bU (xH l c T)]):=by
 refine fD (v:=.dct (uR T [])) rfl (jn3 T (λt=>.str t.bare) (λt=>.str t.bare) (λt=>bZ t.poly) rfl (az rfl rfl) (aU some jn) rfl (λt ht=>?_) (bG (by lia)) (jpj T [])) rfl ⋯;have h:=hs t ht;have hb:=Df t;exact jq4 rfl iC (az rfl rfl) (d9 rfl rfl rfl (aK (az rfl rfl) aO) rfl (UW (n:=5) (by lia) (HD t 5 h (by lia))))
end
theorem jrg{S:Sp}{n:Nat}{η aD cN:ME}{x y:Str}{xp yp tp ep pos:Pos}{k k':Nat}{e e':PE}{v:PV}(hm:(([.Name x xp,.Name y yp]:List PySem.Expr).any (vL S))=true)(hs:qz [.Name x xp,.Name y yp] [e,e'] η=some false)
  (hc:(qC [.Name x xp,.Name y yp] η&& !(x==y))=true)(he:(vM e'&&S.dX.contains y)=true)(ha:aG S n η e=some v)(hp:v.plain=true)(h1:bM x v η=some aD)(h2:bM y (.own []) aD=some cN):
  bh S (n+1) η (.Assign [.Tuple [.Name x xp,.Name y yp] k tp] (.Tuple [e,e'] k' ep) pos)=some (.next,cN):=by
 show(if ([.Name x xp,.Name y yp]:List PySem.Expr).any (vL S) then((qz [.Name x xp,.Name y yp] [e,e'] η).bind λsw=>if qC [.Name x xp,.Name y yp] η&& !(x==y) then
   if sw then(if vM e&&S.dX.contains x then(aG S n η e').bind λv=>if v.plain then((bM y v η).bind (bM x (.own []))).map iT else .none else .none)
   else(if vM e'&&S.dX.contains y then(aG S n η e).bind λv=>if v.plain then((bM x v η).bind (bM y (.own []))).map iT else .none else .none)
  else .none) else _)=_
 refine bN hm (bk hs (bN hc (jY rfl (bN he (bk ha (bN hp ?_))))));rw[h1];show((bM y (.own []) aD).map iT)=_;rw[h2];rfl
section
variable(l:List Int)(c:List Nat)(T:List Tr)
noncomputable def bf(T:List Tr):Nat:=2 ^ T.length-1
abbrev Bf:List (OV):=xH l c T++[some (.int (bf T:Nat)),some (.own [])]
theorem jzd(hT:T.length<=8):bh dh 20 [mk bU (xH l c T)] (stL 14)=some (.next,[mk bU (Bf l c T)]):=by
 have hl:rC [Nq T]=some (.int (T.length:Nat)):=by
  show(if aL ((T.map Tr.bare).map PV.str).length then some (PV.int ((T.map Tr.bare).map PV.str).length) else none)=_;rw[bH,bH];exact bN (bG (by lia)) rfl
 have h1:1<=2 ^ T.length:=Aa;exact jrg (v:=.int (bf T:Nat)) (aD:=[mk bU (xH l c T++[some (.int (bf T:Nat))])]) rfl ⋯ ⋯ rfl (bA (bA (aQ rfl) (dN rfl rfl rfl rfl (aK (az rfl rfl) aO) hl) (M4 (by lia))) (aQ rfl) (aU (λi=>some (PV.int i)) (xd h1).symm)) rfl ⋯ ⋯
end
theorem Dn(h:n<=1000):fQ (.gf 0 (n:Nat))=some ((List.range' 0 n).map λk=>PV.int (k:Nat)):=joC (g:=false) h
def uU(T:List Tr)(d:Nat):PV:=.lst ((dH (cz T d)).map markV)
section
variable(l:List Int)(c:List Nat)(T:List Tr)
abbrev Vo:List (OV):=Bf l c T++[none,some (.lst ((List.range' 0 (bf T+1)).map (uU T)))]
theorem jze(hs:cT T<=8)(hT:T.length<=8):bh dh 20 [mk bU (Bf l c T)] (stL 15)=some (.next,[mk bU (Vo l c T)]):=by
 have h1:1<=2 ^ T.length:=Aa;have h2:2 ^ T.length<=256:=pU (n:=2) ∅ hT;have hl:rC [.lst (T.map Tr.val)]=some (.int (T.length:Nat)):=by
  show(if aL (T.map Tr.val).length then some (PV.int (T.map Tr.val).length) else none)=_;rw[bH];exact bN (bG (by lia)) rfl
 have ee:bf T+1<=1000:=by unfold bf;lia
 refine fD (v:=.lst ((List.range' 0 (bf T+1)).map (uU T))) rfl (lq (List.range' 0 (bf T+1)) (λk=>.int (k:Nat)) (uU T) rfl (dN rfl rfl rfl rfl (aK (bA (az rfl rfl) (aQ rfl) (qK (bf T) 1)) aO) (p:=.gf 0 ((bf T+1:Nat):Int)) ?_) ?_ rfl (λd Z=>?_) (bG (by rw[ur];lia))) rfl ⋯
 ·dsimp only;exact zJ ee
 ·exact Dn ee
 have hr:=jpo (T:=cz T d) (aF (HF T d) hs);have e:((cz T d).map Tr.poly).map bZ=((List.range' 0 T.length).filter (bit d)).map λk=>bZ (T.getD k default).poly:=by
  unfold cz;rw[jn,jn,zW];rfl
 rw[e] at hr;refine iZ rfl iC (d9 rfl rfl rfl (aK (Um (List.range' 0 T.length) (λk=>.int (k:Nat)) (bit d) (λk=>bZ (T.getD k default).poly) rfl (dN rfl rfl rfl rfl (aK (dN rfl rfl rfl rfl (aK (az rfl rfl) aO) hl) aO) (zJ (by lia))) (Dn (by lia)) rfl (λk hk=>?_) (bG (by rw[ur];lia))) aO) rfl hr) rfl;have hk:k<T.length:=by
  have:=(DN.mp hk).2;lia
 have p8:2 ^ k<=256:=pU (n:=2) ∅ (show k<=8 by lia);exact Un rfl (Cx (cM rfl (bA (bA (az rfl rfl) (bA (aQ rfl) (az rfl rfl) (M4 (by lia))) (uO d (2 ^ k) (Nat.pow_pos ∅) (by lia))) (aQ rfl) (qJ _ 2 ∅)) (aQ rfl) (v9 (by
  unfold bit;rw[qX,bO,bO];generalize d / 2 ^ k % 2=x;lia)))) (bT rfl (bT rfl (az rfl rfl) (az rfl rfl) (lW (j6 Tr.val default hk) (by lia))) (aQ rfl) rfl) rfl
end
def m8(T:List Tr)(d:Nat):List Nat:=(List.range' 0 T.length).flatMap λk=>if bit d k then(T.getD k default).bare else [34]++(T.getD k default).bare++[34]
noncomputable def zN(w:List Nat):Bool:=w.all λc=> !(c==34)&& !(c==92)
theorem jrl:∀(w r:List Nat),zN w=true->fs 0 [] (w++r)=w++fs 0 [] r:=λw=>w.rec
  (λZ Z=>rfl)
  λc w ih r h=>by
  refine kA (bD (show((!(c==34)&& !(c==92))&&zN w)=true from h)) λh1 h2=>?_;refine kA (bD h1) λa b=>?_;have a:=(qY _).mp a;have b:=(qY _).mp b;show(if c==92 then 92::fs 1 [] (w++r) else if c==34 then fs 2 [34] (w++r) else c::fs 0 [] (w++r))=_;rw[a,b];show c::fs 0 [] (w++r)=_;rw[ih r h2];rfl
theorem jof:∀(w r b:List Nat),zN w=true->fs 2 b (w++[34]++r)=fs 0 [] r:=λw=>w.rec
  (λZ Z Z=>rfl)
  λc w ih r buf h=>by
  refine kA (bD (show((!(c==34)&& !(c==92))&&zN w)=true from h)) λh1 h2=>?_;refine kA (bD h1) λa b=>?_;have a:=(qY _).mp a;have b:=(qY _).mp b;show(if c==92 then fs 3 (buf++[92]) (w++[34]++r) else if c==34 then fs 0 [] (w++[34]++r) else fs 2 (buf++[c]) (w++[34]++r))=_;rw[a,b];exact ih r (buf++[c]) h2
theorem jfG:∀t:Tr,zN t.bare=true:=λt=>t.rec
  (λx=>by
  refine cW (Hz (Nb x)) λh1 h2 Z Z=>?_;show((!(dW x==34)&& !(dW x==92))&&true)=true;rw[h1,h2];rfl)
  λZ l r ihl ihr=>by
  show zN (40::(l.bare++r.bare)++[41])=true;have h1:=ihl;have h2:=ihr;unfold zN at*;rw[vg,jR,vf,vf,h1,h2];rfl
theorem ji7(T:List Tr)(d:Nat):strip (m8 T d)=(cz T d).flatMap Tr.bare:=by
 have key:∀ks:List Nat,strip (ks.flatMap λk=>if bit d k then(T.getD k default).bare else [34]++(T.getD k default).bare++[34])=((ks.filter (bit d)).map λk=>T.getD k default).flatMap Tr.bare:=λks=>by
  induction ks with
  |nil=>rfl
  |cons k ks ih=>
   rw[uh,Py];cases h:bit d k with
   |true=>
    rw[aX rfl,aX rfl,fu,uh];unfold strip at*;rw[jrl _ _ (jfG _),ih]
   |false=>
    rw[aZ ∅,aZ ∅];unfold strip at*;rw[←ih,dm,dm];show fs 2 [34] ((T.getD k default).bare++([34]++_))=_;rw[←dm];exact jof _ _ _ (jfG _)
 unfold m8 cz;rw[key,zW]
theorem jrM(T:List Tr)(d:Nat):gq [] (strip (m8 T d))=(cz T d).map Tr.bare:=by rw[ji7,U7]
abbrev Dp:List Stmt:=jC (stL 16)
def di(T:List Tr)(d:Nat):LV:=(dH (cz T d)).map markV
def jG(T:List Tr)(i:Nat):LV:=(List.range' 0 i).map λd=>.hdr (di T d)
theorem joq(T:List Tr)(i:Nat):jG T (i+1)=jG T i++[.hdr (di T i)]:=by
 unfold jG;rw[List.range'_1_concat,mC,il];rfl
noncomputable def m9(q:List Nat×Int):List Nat:=if q.2<0 then [45] else [43]
theorem Dq(q:List Nat×Int):markV q=.tup [.str (nameQ q),.str (m9 q)]:=by
 unfold markV nameQ m9;split<;>rfl
def tZ(T:List Tr)(i j:Nat):List Nat×Int:=(dH (cz T i)).getD j ([],1)
def Vp(f:List Nat×Int->List Nat)(T:List Tr)(i:Nat)(o:OV):Nat->OV
 |0=>o|j+1=>some (.str (f (tZ T i j)))
def pH(f:List Nat×Int->List Nat)(T:List Tr):Nat->OV
 |0=>none|i+1=>Vp f T i (pH f T i) (di T i).length
def Nr(T:List Tr):Nat->OV
 |0=>none|i+1=>some (.str (m8 T i))
noncomputable def deP:Nat->OV
 |0=>none|i+1=>some (.int (i:Nat))
theorem Vq{T:List Tr}{d:Nat}{t:Tr}(h:t∈cz T d):t∈T:=(Ms T d).subset h
theorem jli{α:Type}{f:α->List Nat}:∀xs:List α,(∀x∈xs,(f x).length<=m)->(xs.flatMap f).length<=xs.length*m:=λxs=>xs.rec
  (λZ=>jq _)
  λx r ih h=>by
  have h1:=h x (nA ..);have h2:=ih λy hy=>h y (pO _ hy);rw[uh,bz,dC,Ed];lia
theorem jlz(hs:∀t∈T,t.size<=5)(hT:T.length<=8)(d:Nat):(m8 T d).length<=200:=by
 unfold m8;refine aF (jli (m:=17) _ λk hk=>?_) (by rw[ur];lia);have hk:k<T.length:=by
  have:=(DN.mp hk).2;lia
 have hb:=Df (T.getD k default);have h5:(T.getD k default).size<=5:=by
  rw[g8,iy hk];exact hs _ (qi hk)
 split
 ·lia
 ·rw[bz,bz];show 1+(T.getD k default).bare.length+1<=17;lia
section
variable(l:List Int)(c:List Nat)(T:List Tr)
abbrev wI(h:LV)(ln de nm vl:OV):ME:=[mk bU (jV l c T++[ln,some (.dct (uR T [])),some (.int (bf T:Nat)),some (.own h),de,some (.lst ((List.range' 0 (bf T+1)).map (uU T))),nm,vl])]
variable{T}
theorem jw0(hs:∀t∈T,t.size<=5)(hT:T.length<=8)(h:LV)(ln nm vl:OV)(d:Nat):
  bh dh 20 (wI l c T h ln (some (.int (d:Nat))) nm vl) (cA Dp 0)=some (.next,wI l c T h (some (.str (m8 T d))) (some (.int (d:Nat))) nm vl):=by
 have hl:rC [Nq T]=some (.int (T.length:Nat)):=by
  show(if aL ((T.map Tr.bare).map PV.str).length then some (PV.int ((T.map Tr.bare).map PV.str).length) else none)=_;rw[bH,bH];exact bN (bG (by lia)) rfl
 refine fD (v:=.str (m8 T d)) rfl (gA rfl (aQ rfl) (aK (lq (List.range' 0 T.length) (λk=>.int (k:Nat)) (λk=>.str (if bit d k then(T.getD k default).bare else [34]++(T.getD k default).bare++[34])) rfl
  (dN rfl rfl rfl rfl (aK (dN rfl rfl rfl rfl (aK (az rfl rfl) aO) hl) aO) (zJ (by lia))) (Dn (by lia)) rfl (λk hk=>?_) (bG (by rw[ur];lia))) aO) (Vj _ _ (aF (jlz hs hT d) ∅))) rfl ⋯
 have hk:k<T.length:=by
  have:=(DN.mp hk).2;lia
 have p8:2 ^ k<=256:=pU (n:=2) ∅ (show k<=8 by lia);have h5:(T.getD k default).size<=5:=by
  rw[g8,iy hk];exact hs _ (qi hk)
 have hb:=Df (T.getD k default);have hn:iz (Nq T) (.int (k:Nat))=some (.str (T.getD k default).bare):=lW (by
  rw[uo,uo,getD_some default hk];rfl) (by lia)
 refine iZ rfl iC (QR (c:=bit d k) (cM rfl (bA (bA (az rfl rfl) (bA (aQ rfl) (az rfl rfl) (M4 (by lia))) (uO d (2 ^ k) (Nat.pow_pos ∅) (by lia))) (aQ rfl) (qJ _ 2 ∅)) (aQ rfl) (v9 (by
  unfold bit;rw[qX,bO,bO];generalize d / 2 ^ k % 2=x;lia))) ?_) rfl
 cases bit d k with|true=>exact bT rfl (az rfl rfl) (az rfl rfl) hn|false=>exact bA (bA (aQ (p:=.str [34]) rfl) (bT rfl (az rfl rfl) (az rfl rfl) hn) (ie (bG (by rw[bz,mD];lia)))) (aQ (p:=.str [34]) rfl) (ie (bG (by rw[bz,bz,mD];lia)))
noncomputable def Vr:Stmt->PE
 | .For _ i _ _ _=>i|_=>default
theorem jwV(hs:∀t∈T,t.size<=5)(hz:cT T<=8)(hT:T.length<=8)(h:LV)(de nm vl:OV)(d:Nat):
  aG dh 20 (wI l c T h (some (.str (m8 T d))) de nm vl) (Vr (cA Dp 2))=some (.lst (di T d)):=by
 have hl:=jlz hs hT d;have hst:yZ [.str (m8 T d)]=some (.str (strip (m8 T d))):=aX (wB (aF hl ∅));have hlen:(strip (m8 T d)).length<=200:=by
  rw[ji7];refine aF (jli (m:=13) _ λt ht=>?_) ?_
  ·have:=Df t;have:=hs t (Vq ht);lia
  ·have:=(Ms T d).length_le;lia
 have hct:=UT (s:=strip (m8 T d)) (aF hlen ∅);rw[jrM] at hct;have hr:=jpo (T:=cz T d) (aF (HF T d) hz);rw[jn] at hr;refine d9 rfl rfl rfl (aK (lq (cz T d) (λt=>.str t.bare) (λt=>bZ t.poly) rfl (d9 rfl rfl rfl (aK (d9 rfl rfl rfl (aK (az rfl rfl) aO) rfl hst) aO) rfl hct) (aU some jn) rfl (λt ht=>?_) (bG ?_)) aO) rfl hr
 ·exact iZ rfl iC (bT rfl (az rfl rfl) (az rfl rfl) (joJ (aF (hs t (Vq ht)) ∅) T [] (λu hu=>aF (hs u hu) ∅) (.inl (Vq ht)))) rfl
 ·exact aF (Ms T d).length_le (by lia)
end
theorem jpH(hP:jd n P)(hn:n<=500)(hq:q∈P):dU (nameQ q)=true/\dU (m9 q)=true/\aL (m9 q).length=true:=by
 have hl:=hP.low q hq;have hu:=(hP.unit q hq).1;refine⟨?_,?_,?_⟩
 ·unfold nameQ;split
  ·unfold dU;rw[bH,b8 (show q.1.length<1000000000000 by lia),mF,cU];intro c hc;refine eY c (gY.mp hc) λd hd=>?_;have h:=cU.mp hl d hd;have key:∀d,d<128->wF d=true->jA (cI d)=true:=by decide+kernel
   exact key d (U8 h).2.2.2 h
  ·exact Vb hl (by lia)
 ·unfold m9;split<;>rfl
 ·unfold m9;split<;>rfl
section
variable(l:List Int)(c:List Nat)(T:List Tr){A:Around}{env:Env}{C K:AP}{KG:NP}{s:Shared}
abbrev Dr(i:Nat):ME:=wI l c T (jG T i) (Nr T i) (deP i) (pH nameQ T i) (pH m9 T i)
abbrev k16(i:Nat):ME:=wI l c T (jG T i) (some (.str (m8 T i))) (some (.int (i:Nat))) (pH nameQ T i) (pH m9 T i)
abbrev HX(i:Nat)(x:Addr)(j:Nat):ME:=wI l c T (jG T i++[.obj x]) (some (.str (m8 T i))) (some (.int (i:Nat))) (Vp nameQ T i (pH nameQ T i) j) (Vp m9 T i (pH m9 T i) j)
theorem jzE(l:List Int)(c:List Nat)(T:List Tr)(i:Nat):aG dh 20 (Dm (k16 l c T i)) (Vn (Nk (cA Dp 1)))=some (.hdr []):=⋯
theorem jxN(hA:aR A 13)(hs:∀t∈T,t.size<=5)(hz:cT T<=8)(hT:T.length<=8)(i:Nat)(hi:i<=256)(fa:FA env (wI l c T (jG T i) (Nr T i) (some (.int (i:Nat))) (pH nameQ T i) (pH m9 T i)) C K KG s):
  Wp A (execs Dp env) (XP env C K KG s .next (Dr l c T (i+1))) s:=by
 have O:=HN;have hlen:(jG T i).length=i:=by unfold jG;rw[bH,ur]
 refine dI (Wp.cont (mV hA O 20 _ (cA Dp 0) env C K KG s .next _ fa (jw0 l c hs hT _ _ _ _ i)) λC1 s₁ oR dM=>?_);refine dI (Wp.mono (jlX (n:=20) hA O dM (y:="hands") (l:=jG T i) rfl rfl ⋯ (jzE l c T i) (bG (by rw[hlen];lia)) λx=>⟨HX l c T i x 0,⋯⟩) λf s₂ q=>?_);refine cD q λeq1 e₂ zz=>qt zz λx a aq cL ha hn zz=>kA zz λcO X=>?_;subst eq1;obtain rfl:HX l c T i x 0=aq:=ir ((show bM ("hands":Str) (.own (jG T i++[.obj x])) (k16 l c T i)=some (HX l c T i x 0) by kernel_rfl).symm.trans cL);have hP:=(Ve (T:=cz T i) (aF (HF T i) hz));have hrl:(di T i).length=(dH (cz T i)).length:=bH ..;have hrow:∀j,j<(di T i).length->(di T i)[j]?=some (markV (tZ T i j))/\tZ T i j∈dH (cz T i):=λj hj=>by
  rw[hrl] at hj;unfold di tZ;refine⟨j6 markV ([],1) hj,?_⟩;rw[g8,iy hj];exact qi hj
 refine dI (Wp.mono (joa (n:=20) (E:=HX l c T i x) (B:=λj=>HX l c T i x (j+1)) (items:=di T i) (I:=λj C h=>Hd C h x a ((di T i).take j)) (P:=λb=>b=a) hA O cO (λZ=>rfl) (jwV l c hs hz hT _ _ _ _ i) rfl
  (λb q=>q▸⟨.inr rfl,λq=>q.2 rfl⟩) X (λj C1 C2 h h' X k nc=>X.mono (λb o c g=>(k b o g).1 c) (λo g=>(k a o g).2 rfl) (nc a rfl)) (λj y hy=>?_) λj C3 K3 KG3 s₃ hj gH X3 hP3=>?_) λf s₃ q=>?_)
 ·have hj:j<(di T i).length:=(um.mp hy).1;obtain rfl:markV (tZ T i j)=y:=ir ((hrow j hj).1.symm.trans hy);rw[Dq];kernel_rfl
 ·refine kA (hrow j hj) λr1 r2=>?_;refine cD (jpH hP.2.1 (aF (HF T i) (aF hz ∅)) r2) λm1 m2 m3=>?_;have hidx:iz (.own (jG T i++[.obj x])) (.int (i:Nat))=some (.obj x):=CT (by rw[Ao (by rw[hlen];exact aN _),hlen,Ec];rfl) (by lia);refine dI (Wp.mono (jqK (n:=20) hA ∅ O gH X3 (hP3 a rfl).1 hn rfl rfl (bT rfl (az rfl rfl) (az rfl rfl) hidx) (aK (az rfl rfl) (aK (az rfl rfl) aO)) m1 m2 m3 (uI (n:=500) (aF (Aq ..) (aF (fH (bH ..)) hP.2.2.1)) ∅)) λf s4 q=>?_);refine cW q λeq1 e₄ gb X4=>?_;subst eq1;refine qg (Qu rfl (aC.mono e₄ (λb Z w=>.inr w) λZ Z g=>g.elim) C3 (λZ c Z=>c) (λZ c=>.inl c) gb ?_);show Hd C3 s4.heap x a ((di T i).take (j+1));rw[List.take_add_one,r1,Dq];exact X4
 ·refine Az q λeq1 cu C3 c3 zz=>cD zz λc3' gH X3=>?_;subst eq1;rw[zX] at X3;have hka:¬K a:=λk=>absurd (dM.kept.1 a k) (bw ha);have gb:=gH.jIb (y:="hands") (L:=jG T i) (aq:=Dr l c T (i+1)) X3 ⋯ (by rw[Dr,joq];kernel_rfl) dM.hk;have e23:aC (λb=>¬K b) (λi=>¬KG i) s₁ s₃:=e₂.trans (aC.mono cu (λb Z w=>w.elim (λw k=>w (.inl k)) λq=>q▸hka) λZ Z w=>w);exact qg (cG _ (oR.trans ⟨e23,λb cb hb=>.inl (c3 b ⟨cb,λq=>absurd hb (bw (q▸ha))⟩ (bJ hb e₂.size)),λb cb=>cb.elim (λcb=>(c3' b cb).imp (λq=>q.1) λq k=>q (.inl k)) λq=>.inr (q▸hka)⟩) rfl gb)
theorem jxS(hA:aR A 13)(hs:∀t∈T,t.size<=5)(hz:cT T<=8)(hT:T.length<=8)(fa:FA env [mk bU (Vo l c T)] C K KG s):Wp A (exec (stL 16) env) (XP env C K KG s .next (Dr l c T (bf T+1))) s:=by
 have h2:2 ^ T.length<=256:=pU (n:=2) ∅ hT;have ee:bf T+1<=256:=by have h1:1<=2 ^ T.length:=Aa;unfold bf;lia
 have len:((List.range' 0 (bf T+1)).map λk:Nat=>PV.int (k:Int)).length=bf T+1:=by rw[bH,ur]
 have:=jiS (n:=20) (E:=Dr l c T) (B:=λi=>wI l c T (jG T i) (Nr T i) (some (.int (i:Nat))) (pH nameQ T i) (pH m9 T i)) (items:=(List.range' 0 (bf T+1)).map λk=>PV.int (k:Nat)) (pa:=.gf 0 ((bf T+1:Nat):Int)) (tgt:=rI (stL 16)) (it:=Vr (stL 16)) (body:=Dp) (pos:=(stL 16).pos) hA HN (show FA env (Dr l c T 0) C K KG s from fa) (λZ=>rfl)
  (dN rfl rfl rfl rfl (aK (bA (az rfl rfl) (aQ rfl) (qK (bf T) 1)) aO) (p:=.gf 0 ((bf T+1:Nat):Int)) ?_) ?_ (λi y hy=>?_) λi C1 K1 qQ s₁ hi dM=>jxN l c T hA hs hz hT i (by rw[len] at hi;lia) dM
 ·rw[len] at this;exact this
 ·dsimp only;exact zJ (aF ee ∅)
 ·exact Dn (aF ee ∅)
 ·have hi:=(um.mp hy).1;rw[len] at hi;rw[uo,PB hi] at hy;cases hy;show d8 _ (.int ((0+1*i:Nat):Int)) _=_;rw[mC,Io];kernel_rfl
end
theorem jqJ(h:k<n):bit (2 ^ n-1) k=true:=by
 rw[Hh,Nat.testBit_two_pow_sub_one,b8 h]
theorem Nt(T:List Tr):cz T (bf T)=T:=by
 unfold cz bf;rw[List.filter_eq_self.mpr λk hk=>jqJ (uc.mp hk),jlq]
theorem jn6(T:List Tr):bf T+1=2 ^ T.length:=Eb Aa
theorem jrj:∀(T:List Tr) (P:Poly),2 ^ T.length*((T.map Tr.poly).foldl jb P).length=P.length*2 ^ cT T:=λT=>T.rec
  (λP=>by rw[Il];rfl)
  λt T ih P=>by
  rw[fu,List.foldl_cons,dC,Nat.pow_succ,zZ,Nat.mul_left_comm,ih,MP,←zZ,Nat.mul_left_comm,MT,zZ,←Nat.pow_add];rfl
structure rR(T:List Tr):Prop where
 z:cT T=5
 h1:1<=T.length
 h3:T.length<=3
section
variable(H:rR T)
include H
theorem rR.sizes(t:Tr)(h:t∈T):t.size<=5:=H.z▸Hx h
theorem rR.ev:bf T<=7:=by
 have:=jn6 T;have h:2 ^ T.length<=2 ^ 3:=pU ∅ H.h3;lia
theorem rR.rows(d:Nat):jd (cT (cz T d)) (dH (cz T d))/\cT (cz T d)<=5/\(dH (cz T d)).length<=500/\1<=(dH (cz T d)).length:=by
 have h:=HF T d;have z:=H.z;refine cW (Ve (T:=cz T d) (by lia)) λZ h1 h2 h3=>?_;exact jh h1 (by lia) h2 h3
theorem rR.jHA:2<=(dH T).length/\(dH T).length<64:=by
 have h:=jrj T [([],1)];have e:(dH T).length=((T.map Tr.poly).foldl jb [([],1)]).length:=rfl;rw[←e,H.z] at h;have h3:=H.h3;have h1:=H.h1;have h:2 ^ T.length*(dH T).length=32:=h;generalize (dH T).length=n at h;have hc:T.length=1\/T.length=2\/T.length=3:=by lia
 rcases hc with k|k|k<;>rw[k] at h<;>lia
theorem t6(hd:d<=bf T):iz (.own (jG T (bf T+1))) (.int (d:Nat))=some (.hdr (di T d)):=by
 have:=H.ev;refine CT ?_ (by lia);unfold jG;rw[uo,PB (by lia)];show some (PV.hdr (di T (0+1*d)))=_;rw[mC,Io]
theorem Nu(hd:d<=bf T):iz (.lst ((List.range' 0 (bf T+1)).map (uU T))) (.int (d:Nat))=some (.lst (di T d)):=by
 have:=H.ev;refine lW ?_ (by lia);rw[uo,PB (by lia)];show some (uU T (0+1*d))=_;rw[mC,Io];rfl
end
theorem jtP{n:Nat}:∀{P:Poly},jd n P->∀w,cB P w<=(P.length:Int)/\ -(P.length:Int)<=cB P w:=λ{P}=>P.rec
  (λZ w=>⟨Es 0,Es 0⟩)
  λq P ih h w=>by
  refine kA (ih h.tail w) λh1 h2=>?_;have e:cB (q::P) w=iD q.1 q.2 w+cB P w:=rfl;rw[e,dC,iD];rcases(h.unit q (nA ..)).2 with h3|h3<;>rw[h3]<;>split<;>constructor<;>lia
theorem juo:∀u v,∀m∈fj u v,eU u=true->eU v=true->eU m=true:=
 jo2 (λZ Z h=>h) (λZ Z h Z=>h) (λZ Z Z Z Z h hu hv=>Bool.and_eq_true_iff.mpr ⟨(bD hu).1,h (bD hu).2 hv⟩) λZ Z Z Z Z h hu hv=>Bool.and_eq_true_iff.mpr ⟨(bD hv).1,h hu (bD hv).2⟩
theorem jxC(f:α->Int):∀xs:List α,sW (xs.map λx=>.int (f x))=some (dG f xs):=λxs=>xs.rec
  rfl
  λx r ih=>by
  show(sW (r.map λx=>.int (f x))).map (f x+·)=_;rw[ih];rfl
theorem jth(f:α->Int)(xs:List α)(hl:xs.length<=2000)(hf:∀x∈xs,f x<=1000000/\ -1000000<=f x):xQ [.lst (xs.map λx=>.int (f x))]=some (.int (dG f xs)):=by
 show(if aL (xs.map λx=>PV.int (f x)).length&&(xs.map λx=>PV.int (f x)).all Bp then(sW (xs.map λx=>PV.int (f x))).map PV.int else none)=_;refine bN ?_ (by rw[jxC];rfl);rw[bH,bG (aF hl ∅),u9,cU];intro p hp;refine eY p (gY.mp hp) λx hx=>?_;have h:=hf x hx;show(decide (-1000000000<=f x)&&decide (f x<=1000000000))=true;rw[b8 (show-1000000000<=f x by lia),b8 (show f x<=1000000000 by lia)];rfl
section
variable{S:Sp}{n:Nat}{η:ME}
theorem jxE(hx:bI S (n+1) η x=some false)(hy:bI S n η y=none):bI S (n+3) η (.BoolOp .Or [x,y] p)=none:=by
 show(bI S (n+1) η x).bind (λb=>if b==(BoolOp.Or==BoolOp.And) then rB S (n+1) η .Or [y] else some b)=none;rw[hx];show(bI S n η y).bind _=none;rw[hy];rfl
theorem juS(h:aG S n η l=none):bI S (n+1) η (.Compare l [op] [r] p)=none:=by
 show(if behindInMarks op r then none else(aG S n η l).bind _)=none;rw[h,Option.bind_none,ite_self]
theorem jre(h:aG S n η g.iter=some (.own l)):aG S (n+1) η (.ListComp elt [g] sc pos)=none:=by
 show(if !(gw sc η&&jX g) then none else((aG S n η g.iter).bind fQ).bind _)=none;rw[h];exact ite_self _
end
theorem jpJ(h:l.all row2=true)(hn:0<l.length):(G8 l ks).all row2=true:=by
 rw[cU];intro p hp;refine eY p (gY.mp hp) λi hi=>?_;have hi:=(bY.val (λi j=>rG (iY ks i) (iY ks j)) _ (TF hn)).2 i (by simpa using hi);rw[g8,iy hi];exact cU.mp h _ (qi hi)
theorem jjq(P:Poly):(P.map markV).all row2=true:=by
 rw[cU];intro p hp;refine eY p (gY.mp hp) λq Z=>?_;rw[Dq];rfl
theorem jpp(P:Poly):∃ks,cF Cr (P.map markV)=some ks:=
 ⟨P.map λq=>(nameQ q,m9 q),by
  induction P with
  |nil=>rfl
  |cons q r ih=>exact aK (by rw[Dq];rfl) ih⟩
theorem jpK{P:Poly}(h2:2<=P.length)(h64:P.length<64):∃l,l.all row2=true/\Ly [.lst (P.map markV)]=some (.lst l)/\Ly [.own (P.map markV)]=some (.lst l):=by
 refine kE (jpp P) λks hk=>?_;have e:((cF Cr (P.map markV)).bind λks=>if decide (2<=(P.map markV).length)&&decide ((P.map markV).length<64) then some (PV.lst (G8 (P.map markV) ks)) else none)=some (.lst (G8 (P.map markV) ks)):=by
  rw[hk];exact bN (by rw[bH,b8 h2,b8 h64];rfl) rfl
 exact cG _ (jpJ (jjq P) (by rw[bH];lia)) e e
theorem none_of(hP:jd n P)(hw:w.length≠n):lV w (P.map markV)=[]:=by
 unfold lV;rw[List.filterMap_eq_nil_iff];intro p hp;refine eY p (gY.mp hp) λq hq=>?_;refine kA (hP.unit q hq) λh1 h2=>?_;rw[jlU (hP.low q hq) h2,aZ (by rw[bO];exact λe=>hw (e▸h1))]
theorem jlY(h:asked w lw):asked (jQ w) (jQ lw):=by
 rcases h with rfl|rfl
 ·exact .inl rfl
 ·refine .inr ?_;unfold jQ;rw[wM,bH]
theorem jrT(h:eU w=true):eU (jQ w)=true:=by
 unfold eU jQ at*;rw[cU] at*;exact λx hx=>h x (DK hx)
noncomputable abbrev wJ:PV:=.tup [.str [],.str [43]]
section
variable(l:List Int)(c:List Nat){T:List Tr}(H:rR T)(ln de nm vl:OV)
abbrev Nv(T:List Tr):List (OV):=jV l c T++[ln,some (.dct (uR T [])),some (.int (bf T:Nat)),some (.own (jG T (bf T+1))),de,some (.lst ((List.range' 0 (bf T+1)).map (uU T))),nm,vl]
abbrev Ds(T:List Tr):List (OV):=Nv l c ln de nm vl T++[some (.own (di T (bf T)))]
abbrev r20(T:List Tr):List (OV):=Nv l c ln de nm vl T++[some (.own (di T (bf T)++[wJ]))]
include H
theorem jlv:rH 140 145 j5 "items" (.hdr (di T d)) []=some (.lst (di T d)):=by
 show gj (di T d)=_;rw[gj,aX (bG (by unfold di;rw[bH];exact aF (H.rows d).2.2.1 ∅))]
theorem jzf:bh dh 20 [mk bU (Nv l c ln de nm vl T)] (stL 17)=some (.next,[mk bU (Ds l c ln de nm vl T)]):=
 js1 rfl (gA rfl (bT rfl (az rfl rfl) (az rfl rfl) (t6 H (aN _))) aO (jlv H)) rfl ⋯
theorem jzg:bh dh 20 [mk bU (Ds l c ln de nm vl T)] (stL 18)=some (.next,[mk bU (Ds l c ln de nm vl T)]):=by
 refine kA H.jHA λk1 k2=>?_;refine cW (H.rows (bf T)) λk3 Z k4 Z=>?_;have e:di T (bf T)=(dH (cz T (bf T))).map markV:=rfl;have k1':2<=(dH (cz T (bf T))).length:=by rw[Nt];exact k1
 have k2':(dH (cz T (bf T))).length<64:=by rw[Nt];exact k2
 refine eO (jpK k1' k2') λL m1 m2 m3=>?_;have hc:=(jla L m1 (a:=.lst L) (b:=.lst L) (.inl rfl) (.inl rfl)).1;have hd:iz (.lst (jG T (bf T+1))) (.int (bf T:Nat))=some (.hdr (di T (bf T))):=t6 H (aN _);refine jwu (c:=false) (jxE (cM rfl (dN rfl rfl rfl rfl (aK (az rfl rfl) aO) m3) (dN rfl rfl rfl rfl (aK (bT rfl (az rfl rfl) (az rfl rfl) (Nu H (aN _))) aO) m2) hc) (juS (jre (l:=di T (bf T)) (az rfl rfl))))
  (uA (vN (b:=false) (cM rfl (dN rfl rfl rfl rfl (aK (az (p:=.lst (di T (bf T))) rfl rfl) aO) m2) (dN rfl rfl rfl rfl (aK (bT rfl (az rfl rfl) (az rfl rfl) (Nu H (aN _))) aO) m2) hc)
  (zy (cM rfl (lq (a:=.lst (di T (bf T))) (dH (cz T (bf T))) (λq=>.tup [.str (nameQ q),.str (m9 q)]) (λq=>.str (nameQ q)) rfl (az rfl rfl) (aU some (Ih λq Z=>Dq q)) rfl (λq Z=>?_) (bG (aF k4 ∅))) (gA rfl (bT rfl (az rfl rfl) (az rfl rfl) hd) aO (Vc (dH (cz T (bf T))) k4)) ?_)))) dz
 ·exact iZ rfl iC (bT rfl (az rfl rfl) (aQ rfl) rfl) rfl
 ·exact HR ((dH (cz T (bf T))).map nameQ) (.inl (aU PV.lst jn.symm)) (.inl (aU PV.lst jn.symm))
theorem jzh:bh dh 20 [mk bU (Ds l c ln de nm vl T)] (stL 19)=some (.next,[mk bU (Ds l c ln de nm vl T)]):=by
 refine cW (H.rows (bf T)) λk3 k5 k4 k6=>?_;have hz:cT (cz T (bf T))=5:=by rw[Nt,H.z]
 have hm:tZ T (bf T) 0∈dH (cz T (bf T)):=by
  unfold tZ;rw[g8,iy k6];exact qi k6
 refine cD (Vd k3 hm) λn1 n2 n3=>?_;have hlen:(jQ (tZ T (bf T) 0).1).length=4:=by
  unfold jQ;rw[sH,n3,hz];rfl
 have hg:=js4 k3 (by lia) k4 (jrT n2) (jlY n1) (by lia);rw[none_of k3 (by lia)] at hg;have hkl:(nameQ (tZ T (bf T) 0)).length<=10:=by
  rcases n1 with e|e
  ·rw[e,n3];lia
  ·rw[e,bH,n3];lia
 have h0:iz (.own (di T (bf T))) (.int (0:Nat))=some (markV (tZ T (bf T) 0)):=CT (j6 markV ([],1) k6) ∅;refine eZ (c:=false) (cM rfl (gA rfl (bT rfl (az rfl rfl) (az rfl rfl) (t6 H (aN _))) (aK (jL (bT rfl (bT rfl (az rfl rfl) (aQ rfl) h0) (aQ rfl) (by rw[Dq];rfl)) oZ (gU (i:= -1) ⋯) (U3 (bG (aF hkl ∅)))) aO) (joj hg)) (qD aO rfl) rfl) dz
theorem jzi:bh dh 20 [mk bU (Ds l c ln de nm vl T)] (stL 20)=some (.next,[mk bU (r20 l c ln de nm vl T)]):=
 za (v:=wJ) rfl rfl (jZ (aK (aQ rfl) (aK (aQ rfl) aO)) rfl) rfl (bG (by have:=(H.rows (bf T)).2.2.1;unfold di;rw[bH];lia)) ⋯
end
theorem Vs{a b:Nat}(h:b<=a):iR .Sub (.int (a:Int)) (.int (b:Int))=some (.int ((a-b:Nat):Int)):=aU (λi=>some (PV.int i)) (xd h).symm
theorem joO(h:l.length<=1000000):rC [.lst l]=some (.int (l.length:Nat)):=bN (bG h) rfl
theorem len_str(h:l.length<=1000000):rC [.str l]=some (.int (l.length:Nat)):=bN (bG h) rfl
theorem juY(h:eQ s=true)(k:aL s.length=true):rH 140 145 j5 "upper" (.str s) []=some (.str (s.map cI)):=by
 show(if ([]:LV).isEmpty&&(eQ s&&aL s.length) then some (PV.str (s.map cI)) else none)=_;exact bN (by rw[h,k];rfl) rfl
theorem juj(h:eQ s=true)(k:aL s.length=true):rH 140 145 j5 "lower" (.str s) []=some (.str (s.map du)):=jja h k
theorem jlV(ha:asked a x)(hb:asked b y)(hx:eU x=true)(hy:eU y=true):(a++b).map cI=(x++y).map cI/\(a++b).map du=x++y/\eQ (a++b)=true/\(a++b).length=(x++y).length:=by
 refine cW (Nh hx ha) λa1 a2 a3 a4=>?_;refine cW (Nh hy hb) λb1 b2 b3 b4=>?_;refine jh (by rw[il,il,a2,b2]) (by rw[il,a1,b1]) ?_ (by rw[bz,bz,a4,b4]);unfold eQ at*;rw[vf,a3,b3];rfl
section
variable(l:List Int)(c:List Nat)(T:List Tr)(ln de nm vl:OV)
def rT(c:List Nat)(T:List Tr):Nat:=c.getD 7 0 % (bf T+1)
def pA(c:List Nat)(T:List Tr):Poly:=dH (cz T (rT c T))
def pB(c:List Nat)(T:List Tr):Poly:=dH (cz T (bf T-rT c T))
def qA(c:List Nat)(T:List Tr):List Nat×Int:=(pA c T).getD (c.getD 7 0 / 8 % (pA c T).length) ([],1)
def qB(c:List Nat)(T:List Tr):List Nat×Int:=(pB c T).getD (c.getD 7 0 / 64 % (pB c T).length) ([],1)
def qP(c:List Nat)(T:List Tr):List Nat:=(qA c T).1++(qB c T).1
def gC(c:List Nat)(T:List Tr):List Nat:=if c.getD 6 0 / 16 % 2==1 then(qP c T).map cI else qP c T
abbrev keyV(P:Poly):PV:=.lst (P.map λq=>.str (nameQ q))
abbrev Vt:List (OV):=r20 l c ln de nm vl T++[some (.int (rT c T:Nat))]
abbrev Vu:List (OV):=Vt l c T ln de nm vl++[some (keyV (pA c T)),some (keyV (pB c T))]
abbrev Nx:List (OV):=Vu l c T ln de nm vl++[some (.str (nameQ (qA c T)))]
abbrev q25:List (OV):=Nx l c T ln de nm vl++[some (.str (nameQ (qA c T)++nameQ (qB c T)))]
abbrev r25:List (OV):=Nx l c T ln de nm vl++[some (.str (gC c T))]
variable{T}(H:rR T)(hc:c.length=8)
include H
theorem jwo:rT c T<=bf T:=DY (jf _ (Nat.succ_pos _))
theorem Ny:asked (nameQ (qA c T)) (qA c T).1/\eU (qA c T).1=true/\(qA c T).1.length<=5/\asked (nameQ (qB c T)) (qB c T).1/\eU (qB c T).1=true/\(qB c T).1.length<=5:=by
 refine cW (H.rows (rT c T)) λa1 a2 Z a4=>?_;refine cW (H.rows (bf T-rT c T)) λb1 b2 Z b4=>?_;have mem:∀{P:Poly} {i:Nat},1<=P.length->P.getD (i % P.length) ([],1)∈P:=λ{P i} h=>by
  have hi:=jf i (show 0<P.length from h);rw[g8,iy hi];exact qi hi
 refine cD (Vd a1 (mem a4:qA c T∈_)) λn1 n2 n3=>?_;refine cD (Vd b1 (mem b4:qB c T∈_)) λm1 m2 m3=>?_;exact⟨n1,n2,n3▸a2,m1,m2,m3▸b2⟩
include hc
theorem jzj:bh dh 20 [mk bU (r20 l c ln de nm vl T)] (stL 21)=some (.next,[mk bU (Vt l c T ln de nm vl)]):=
 fD (v:=.int (rT c T:Nat)) rfl (bA (bT rfl (az rfl rfl) (aQ rfl) (lW (i:=7) (j6 _ 0 (by lia)) ∅)) (bA (az rfl rfl) (aQ rfl) (qK (bf T) 1)) (qJ _ _ (Nat.succ_pos _))) rfl ⋯
omit hc in
theorem jzk:bh dh 20 [mk bU (Vt l c T ln de nm vl)] (stL 22)=some (.next,[mk bU (Vu l c T ln de nm vl)]):=
 Ho (sw:=true) (a:=keyV (pA c T)) (b:=keyV (pB c T)) rfl (gA rfl (bT rfl (az rfl rfl) (az rfl rfl) (t6 H (jwo c H))) aO (Vc _ (H.rows _).2.2.1)) (gA rfl (bT rfl (az rfl rfl) (bA (az rfl rfl) (az rfl rfl) (Vs (jwo c H))) (t6 H (pW ..))) aO (Vc _ (H.rows _).2.2.1)) rfl ⋯ ⋯
theorem jzl:bh dh 20 [mk bU (Vu l c T ln de nm vl)] (stL 23)=some (.next,[mk bU (Nx l c T ln de nm vl)]):=by
 refine cW (H.rows (rT c T)) λZ Z a3 a4=>?_;have hl:rC [keyV (pA c T)]=some (.int ((pA c T).length:Nat)):=by
  have:=joO (l:=(pA c T).map λq=>.str (nameQ q)) (by rw[bH];exact aF a3 ∅);rwa[bH] at this
 have hi:=jf (c.getD 7 0 / 8) (show 0<(pA c T).length from a4);exact fD (v:=.str (nameQ (qA c T))) rfl (bT rfl (az rfl rfl) (bA (bA (bT rfl (az rfl rfl) (aQ rfl) (lW (i:=7) (j6 _ 0 (by lia)) ∅)) (aQ rfl) (uO _ 8 ∅ ∅)) (dN rfl rfl rfl rfl (aK (az rfl rfl) aO) hl) (qJ _ _ a4)) (lW (j6 _ ([],1) hi) (by unfold pA at*;lia))) rfl ⋯
theorem jzm:bh dh 20 [mk bU (Nx l c T ln de nm vl)] (stL 24)=some (.next,[mk bU (q25 l c T ln de nm vl)]):=by
 refine cW (H.rows (bf T-rT c T)) λZ Z a3 a4=>?_;refine JD (Ny c H) λn1 n2 n3 m1 m2 m3=>?_;have hl:rC [keyV (pB c T)]=some (.int ((pB c T).length:Nat)):=by
  have:=joO (l:=(pB c T).map λq=>.str (nameQ q)) (by rw[bH];exact aF a3 ∅);rwa[bH] at this
 have hi:=jf (c.getD 7 0 / 64) (show 0<(pB c T).length from a4);have hk:aL (nameQ (qA c T)++nameQ (qB c T)).length=true:=bG (by rw[(jlV n1 m1 n2 m2).2.2.2,bz];lia);exact fD (v:=.str (nameQ (qA c T)++nameQ (qB c T))) rfl (bA (az rfl rfl) (bT rfl (az rfl rfl) (bA (bA (bT rfl (az rfl rfl) (aQ rfl) (lW (i:=7) (j6 _ 0 (by lia)) ∅)) (aQ rfl) (uO _ 64 ∅ ∅)) (dN rfl rfl rfl rfl (aK (az rfl rfl) aO) hl) (qJ _ _ a4)) (lW (j6 _ ([],1) hi) (by unfold pB at*;lia))) (ie hk)) rfl ⋯
theorem jzn:bh dh 20 [mk bU (q25 l c T ln de nm vl)] (stL 25)=some (.next,[mk bU (r25 l c T ln de nm vl)]):=by
 refine JD (Ny c H) λn1 n2 n3 m1 m2 m3=>?_;refine cW (jlV n1 m1 n2 m2) λw1 w2 w3 w4=>?_;have hk:aL (nameQ (qA c T)++nameQ (qB c T)).length=true:=bG (by rw[w4,bz];lia);refine fD (v:=.str (gC c T)) rfl (QR (c:=c.getD 6 0 / 16 % 2==1) (cM rfl (bA (bA (bT rfl (az rfl rfl) (aQ rfl) (lW (i:=6) (j6 _ 0 (by lia)) ∅)) (aQ rfl) (uO _ 16 ∅ ∅)) (aQ rfl) (qJ _ 2 ∅)) (aQ rfl) (v9 (by
  rw[qX,bO,bO];generalize c.getD 6 0 / 16 % 2=x;lia))) ?_) rfl ⋯
 unfold gC qP;cases c.getD 6 0 / 16 % 2==1 with
 |true=>
  rw[aX rfl,aX rfl,←w1];exact gA rfl (az rfl rfl) aO (juY w3 hk)
 |false=>
  rw[aZ ∅,aZ ∅];have:=juj w3 hk;rw[w2] at this;exact gA rfl (az rfl rfl) aO this
end
theorem jsr{s:List Nat}{k:Nat}(h:aL s.length=true):gm (.str s) none (some (k:Int))=some (.str (s.take k)):=by
 show(if aL s.length then some (PV.str ((s.take (jw (k:Int) s.length)).drop 0)) else none)=_;rw[aX h,zb,Al];rcases Nat.le_total k s.length with q|q
 ·rw[pR q]
 ·rw[Ov q,Oj q,Oj (aN _)]
theorem jq3{s:List Nat}{k:Nat}(h:aL s.length=true):gm (.str s) (some (k:Int)) none=some (.str (s.drop k)):=by
 show(if aL s.length then some (PV.str ((s.take s.length).drop (jw (k:Int) s.length))) else none)=_;rw[aX h,zb,zX];rcases Nat.le_total k s.length with q|q
 ·rw[pR q]
 ·rw[Ov q,Ew q,Ew (aN _)]
theorem jta(h:x<=500/\ -500<=x):iR .Mult (.int x) (.int y)=some (.int (x*y)):=Mw (by
 unfold cX;rw[b8 (jr (show-1000000000000000000<= -500 by decide) h.2),b8 (jr h.1 (show 500<=1000000000000000000 by decide))];rfl)
theorem jsQ(h1:x<=500)(h2: -500<=x):x.natAbs<=500:=by omega
theorem juy(h1:x<=500)(h2: -500<=x)(h3:y<=500)(h4: -500<=y):x*y<=1000000/\ -1000000<=x*y:=by
 have h:(x*y).natAbs<=500*500:=by
  rw[Int.natAbs_mul];exact Ow (jsQ h1 h2) (jsQ h3 h4)
 have h:=qZ.mpr (aF h (show 500*500<=1000000 by decide));exact⟨jr Int.le_natAbs h,Int.neg_le_of_neg_le (jr Lean.Omega.Int.neg_le_natAbs h)⟩
theorem jrV(k:Nat)(h:eU w=true):eU (w.take k)=true/\eU (w.drop k)=true:=by
 unfold eU at*;rw[cU,cU];rw[cU] at h;exact⟨λx hx=>h x (DK hx),λx hx=>h x (List.mem_of_mem_drop hx)⟩
section
variable(l:List Int)(c:List Nat)(T:List Tr)(ln de nm vl:OV)
abbrev HY:List Stmt:=jC (stL 26)
abbrev ou(a b d e f:OV):ME:=[mk bU (r25 l c T ln de nm vl++[a,b,d,e,f])]
def jAo(T:List Tr)(u v:List Nat):Int:=dG (λk=>cB (dH (cz T k)) u*cB (dH (cz T (bf T-k))) v) (List.range' 0 (bf T+1))
variable{T}(H:rR T)(hc:c.length=8)
theorem jtV(u v:List Nat):dG (cB (dH (cz T (bf T)))) (fj u v)=jAo T u v:=by
 rw[Nt,jsg,jAo,jn6,←zW];rfl
include H
theorem wK(d:Nat)(w:List Nat):cB (dH (cz T d)) w<=500/\ -500<=cB (dH (cz T d)) w:=by
 refine cW (H.rows d) λh1 Z h3 Z=>?_;refine kA (jtP h1 w) λk1 k2=>?_;exact⟨by lia,by lia⟩
theorem jho:eU (qP c T)=true/\(qP c T).length<=10/\(gC c T).length=(qP c T).length:=by
 refine JD (Ny c H) λn1 n2 n3 m1 m2 m3=>?_;refine⟨Ni n2 m2,?_,?_⟩
 ·unfold qP;rw[bz];lia
 ·unfold gC;split
  ·exact bH ..
  ·rfl
omit H in
theorem jsD:∃g:List Nat->List Nat,(∀x,asked (g x) x)/\(∀k,(gC c T).take k=g ((qP c T).take k)/\(gC c T).drop k=g ((qP c T).drop k))/\∀u v,fj (g u) (g v)=(fj u v).map g:=by
 unfold gC;cases c.getD 6 0 / 16 % 2==1 with|true=>exact cG (List.map cI) (λx=>.inr rfl) (λk=>⟨wM.symm,Ii.symm⟩) (λu v=>jup cI u v)|false=>exact cG id (λx=>.inl rfl) (λk=>⟨rfl,rfl⟩) (λu v=>List.map_id'' (λZ=>rfl) _ |>.symm)
omit H in
theorem jyV{x y:List Nat}{k:Nat}(b d e f:OV)(h1:gm (.str (gC c T)) none (some (k:Int))=some (.str x))(h2:gm (.str (gC c T)) (some (k:Int)) none=some (.str y)):
  bh dh 19 (ou l c T ln de nm vl (some (.int (k:Nat))) b d e f) (cA HY 0)=some (.next,ou l c T ln de nm vl (some (.int (k:Nat))) (some (.str x)) (some (.str y)) e f):=
 Ho (sw:=false) (a:=.str x) (b:=.str y) rfl (jL (az rfl rfl) oZ (gU (az rfl rfl)) h1) (jL (az rfl rfl) (gU (az rfl rfl)) oZ h2) rfl ⋯ ⋯
theorem jyW{F G:Nat->Int}(a e f:OV)(h1:∀k,zE [.lst (di T k),.str x]=some (.int (F k)))(h2:∀k,zE [.lst (di T k),.str y]=some (.int (G k)))(hF:∀k,F k<=500/\ -500<=F k)
  (hz:xQ [.lst ((List.range' 0 (bf T+1)).map λk=>.int (F k*G (bf T-k)))]=some (.int z)):bh dh 19 (ou l c T ln de nm vl a (some (.str x)) (some (.str y)) e f) (cA HY 1)=some (.next,ou l c T ln de nm vl a (some (.str x)) (some (.str y)) (some (.int z)) f):=by
 have hev:=H.ev;have ee:bf T+1<=1000:=by lia
 refine fD (v:=.int z) rfl (dN rfl rfl rfl rfl (aK (lq (List.range' 0 (bf T+1)) (λk=>.int (k:Nat)) (λk=>.int (F k*G (bf T-k))) rfl (dN rfl rfl rfl rfl (aK (bA (az rfl rfl) (aQ rfl) (qK (bf T) 1)) aO) (p:=.gf 0 ((bf T+1:Nat):Int)) ?_) ?_ rfl (λk hk=>?_) (bG (by rw[ur];lia))) aO) hz) rfl ⋯
 ·dsimp only;exact zJ ee
 ·exact Dn ee
 have hk:k<=bf T:=by
  have:=(DN.mp hk).2;lia
 exact iZ rfl iC (bA (d9 rfl rfl rfl (aK (bT rfl (az rfl rfl) (az rfl rfl) (Nu H hk)) (aK (az rfl rfl) aO)) rfl (h1 k)) (d9 rfl rfl rfl (aK (bT rfl (az rfl rfl) (bA (az rfl rfl) (az rfl rfl) (Vs hk)) (Nu H (pW ..))) (aK (az rfl rfl) aO)) rfl (h2 _)) (jta (hF k))) rfl
theorem jwM{F G:Nat->Int}(a e f:OV)(h1:∀k,wA [.hdr (di T k),.str x]=some (.int (F k)))(h2:∀k,wA [.hdr (di T k),.str y]=some (.int (G k)))(hF:∀k,F k<=500/\ -500<=F k)
  (hz:xQ [.lst ((List.range' 0 (bf T+1)).map λk=>.int (F k*G (bf T-k)))]=some (.int z)):bh dh 19 (ou l c T ln de nm vl a (some (.str x)) (some (.str y)) e f) (cA HY 2)=some (.next,ou l c T ln de nm vl a (some (.str x)) (some (.str y)) e (some (.int z))):=by
 have hev:=H.ev;have ee:bf T+1<=1000:=by lia
 refine fD (v:=.int z) rfl (dN rfl rfl rfl rfl (aK (lq (List.range' 0 (bf T+1)) (λk=>.int (k:Nat)) (λk=>.int (F k*G (bf T-k))) rfl (dN rfl rfl rfl rfl (aK (bA (az rfl rfl) (aQ rfl) (qK (bf T) 1)) aO) (p:=.gf 0 ((bf T+1:Nat):Int)) ?_) ?_ rfl (λk hk=>?_) (bG (by rw[ur];lia))) aO) hz) rfl ⋯
 ·dsimp only;exact zJ ee
 ·exact Dn ee
 have hk:k<=bf T:=by
  have:=(DN.mp hk).2;lia
 exact iZ rfl iC (bA (d9 rfl rfl rfl (aK (bT rfl (az rfl rfl) (az rfl rfl) (t6 H hk)) (aK (az rfl rfl) aO)) rfl (h1 k)) (d9 rfl rfl rfl (aK (bT rfl (az rfl rfl) (bA (az rfl rfl) (az rfl rfl) (Vs hk)) (t6 H (pW ..))) (aK (az rfl rfl) aO)) rfl (h2 _)) (jta (hF k))) rfl
theorem jxF{x y:List Nat}{xs:List (List Nat)}{g:List Nat->List Nat}{G:List Nat->Int}{z:Int}(a:OV)(hx:zF 11 [.str x,.str y]=some (.lst (xs.map λm=>.str (g m))))(hl:xs.length<=2000)(h1:∀m∈xs,wA [.hdr (di T (bf T)),.str (g m)]=some (.int (G m)))
  (hz:xQ [.lst (xs.map λm=>.int (G m))]=some (.int z)):bh dh 19 (ou l c T ln de nm vl a (some (.str x)) (some (.str y)) (some (.int z)) (some (.int z))) (cA HY 3)=some (.next,ou l c T ln de nm vl a (some (.str x)) (some (.str y)) (some (.int z)) (some (.int z))):=by
 have hne:gk .NotEq (.int z) (.int z)=some false:=ne_int (by rw[kh];rfl);refine eZ (c:=false) (uA (vN (b:=false) (cM rfl (az rfl rfl) (az rfl rfl) hne) (zy (cM rfl (dN rfl rfl rfl rfl (aK (lq xs (λm=>.str (g m)) (λm=>.int (G m)) rfl (d9 rfl rfl rfl (aK (az rfl rfl) (aK (az rfl rfl) aO)) rfl hx) rfl rfl (λm hm=>?_) (bG (aF hl ∅))) aO) hz) (az rfl rfl) hne)))) dz;exact iZ rfl iC (d9 rfl rfl rfl (aK (bT rfl (az rfl rfl) (az rfl rfl) (t6 H (aN _))) (aK (az rfl rfl) aO)) rfl (h1 m hm)) rfl
theorem jsW(k:Nat)(b d e f:OV):∃b' d' e',dK (bh dh 19) (ou l c T ln de nm vl (some (.int (k:Nat))) b d e f) HY=some (.next,ou l c T ln de nm vl (some (.int (k:Nat))) b' d' e' e'):=by
 refine cD (jho c H) λw1 w2 w3=>?_;obtain⟨g,g1,g2,g3⟩:=jsD c;refine kA (jrV k w1) λk1 k2=>?_;have hev:=H.ev;have hk:aL (gC c T).length=true:=bG (by rw[w3];lia);obtain⟨u,hu⟩:∃u,u=(qP c T).take k:=⟨_,rfl⟩;obtain⟨v,hv⟩:∃v,v=(qP c T).drop k:=⟨_,rfl⟩;rw[←hu] at k1;rw[←hv] at k2;have hlen:u.length+v.length<=10:=by
  rw[hu,hv,←bz,DP];exact w2
 have hs1:=jsr (k:=k) hk;have hs2:=jq3 (k:=k) hk;rw[(g2 k).1,←hu] at hs1;rw[(g2 k).2,←hv] at hs2;have WY:∀x,(g x).length=x.length:=λx=>by
  rcases g1 x with q|q
  ·rw[q]
  ·rw[q,bH]
 have duo:∀x,eU x=true->x.length<=10->∀d,zE [.lst (di T d),.str (g x)]=some (.int (cB (dH (cz T d)) x)):=λx hx hl d=>jwp (H.rows d).1 (H.rows d).2.2.1 hx (g1 x) (aF hl ∅);have cnt:∀x,eU x=true->x.length<=10->∀d,wA [.hdr (di T d),.str (g x)]=some (.int (cB (dH (cz T d)) x)):=λx hx hl d=>count_at (H.rows d).1 (aF (H.rows d).2.1 ∅) (H.rows d).2.2.1 hx (g1 x) (aF hl ∅);have sm:=jth (λk=>cB (dH (cz T k)) u*cB (dH (cz T (bf T-k))) v) (List.range' 0 (bf T+1)) (by rw[ur];lia) λk Z=>juy (wK H k u).1 (wK H k u).2 (wK H _ v).1 (wK H _ v).2;have hx:zF 11 [.str (g u),.str (g v)]=some (.lst ((fj u v).map λm=>.str (g m))):=by
  rw[UJ (by rw[WY,WY];lia) ∅,g3,jn];rfl
 have ml:=aF (Ug u v) (aF (pU (n:=2) ∅ hlen) (by decide:2 ^ 10<=2000));have sx:=jth (cB (dH (cz T (bf T)))) (fj u v) ml λm Z=>⟨jr (wK H (bf T) m).1 ∅,jr ∅ (wK H (bf T) m).2⟩;rw[jtV] at sx;have ul:u.length<=10:=aF (je ..) hlen;have Od:v.length<=10:=aF (lu ..) hlen;exact Qq _ _ _ (bu (jyV l c ln de nm vl b d e f hs1 hs2) (bu (jyW l c ln de nm vl H _ e f (duo u k1 ul) (duo v k2 Od) (λk=>wK H k u) sm) (bu (jwM l c ln de nm vl H _ _ f (cnt u k1 ul) (cnt v k2 Od) (λk=>wK H k u) sm)
  (bu (jxF l c ln de nm vl H _ hx ml (λm hm=>cnt m (juo u v m hm k1 k2) (Ue u v m hm▸hlen) _) sx) dz))))
include hc
theorem jzo:∃a b d e,bh dh 20 [mk bU (r25 l c T ln de nm vl)] (stL 26)=some (.next,ou l c T ln de nm vl a b d e e):=by
 refine cW (Ny c H) λn1 n2 n3 Z=>?_;have hb:(nameQ (qA c T)).length<=5:=by
  rcases n1 with e|e
  ·rw[e];exact n3
  ·rw[e,bH];exact n3
 refine Qk (jsW l c ln de nm vl H (nameQ (qA c T)).length none none none none) λb1 d1 e1 h1=>?_;refine Qk (jsW l c ln de nm vl H (1+c.getD 7 0 / 1024 % 4) b1 d1 e1 e1) λb2 d2 e2 h2=>?_;refine JM (some (.int ((1+c.getD 7 0 / 1024 % 4:Nat):Int))) b2 d2 e2 (uJ (items:=[.int ((nameQ (qA c T)).length:Nat),.int ((1+c.getD 7 0 / 1024 % 4:Nat):Int)]) rfl (jZ (aK (dN rfl rfl rfl rfl (aK (az rfl rfl) aO) (len_str (aF hb ∅))) (aK (bA (aQ rfl) (bA (bA (bT rfl (az rfl rfl) (aQ rfl) (lW (i:=7) (j6 _ 0 (by lia)) ∅)) (aQ rfl) (uO _ 1024 ∅ ∅)) (aQ rfl) (qJ _ 4 ∅)) (qK 1 _)) aO)) rfl) rfl ?_);exact bk (a:=ou l c T ln de nm vl (some (.int ((nameQ (qA c T)).length:Nat))) none none none none) ⋯ (bk h1 (bk (a:=ou l c T ln de nm vl (some (.int ((1+c.getD 7 0 / 1024 % 4:Nat):Int))) b1 d1 e1 e1) ⋯ (bk h2 rfl)))
omit hc
theorem jzp(a b d e f nm' Od:OV):∃aq,bh dh 20 [mk bU (jV l c T++[ln,some (.dct (uR T [])),some (.int (bf T:Nat)),some (.own (jG T (bf T+1))),de,some (.lst ((List.range' 0 (bf T+1)).map (uU T))),nm',Od,some (.own (di T (bf T)++[wJ])),some (.int (rT c T:Nat)),some (keyV (pA c T)),some (keyV (pB c T)),some (.str (nameQ (qA c T))),some (.str (gC c T)),a,b,d,e,f])] (stL 28)=some (.ret (.bool true),aq):=by
 have hc:=(jla (di T (bf T)++[wJ]) (by rw[vf,show(di T (bf T)).all row2=true from jjq _];rfl) (a:=.lst (di T (bf T)++[wJ])) (b:=.own (di T (bf T)++[wJ])) (.inl rfl) (.inr rfl)).2;have hl:(di T (bf T)).length<=500:=by unfold di;rw[bH];exact(H.rows _).2.2.1
 exact⟨_,j0 rfl (QS rfl (bA (gA rfl (bT rfl (az rfl rfl) (az rfl rfl) (t6 H (aN _))) aO (jlv H)) (qD (l:=[wJ]) (aK (jZ (aK (aQ rfl) (aK (aQ rfl) aO)) rfl) aO) rfl) (bN (bG (by rw[bz,mD];lia)) rfl)) (az rfl rfl) hc) rfl⟩
end
section
open PySem PySem.W PyProof.Rows PySem.Calls PySem.Builtin PySem.Builtin.Re
section
theorem jjF(h:s.TypeIs (.ref a) "re.Match"):wpAny (model prog w) A (truthy (.ref a)) (λb s'=>b=true/\s'=s) E s:=by
 unfold truthy;show wpAny _ _ (callSpecial? (.ref a) "__bool__">>=_) _ _ s;refine tbn (wpAny_callSpecial?_none h (by rw[qd,pZ];kernel_rfl) ?_);refine tbn (Eo (r:=none) h (by rw[qd,pZ];kernel_rfl) ?_);exact bc ⟨rfl,rfl⟩
abbrev jvf(code:Array Nat)(c:Nat):Prop:=∀seen,∃km,Sre.inSet code c code.size 5 true seen=.ok (true,km)
theorem jjV(hm:mW m.code)(hk:k<m.lim)(hp:∀j,j<k->jA (m.text.getD j 0)=true)(hb:jvf m.code (m.text.getD k 0)):∀(fuel s:Nat) (seen:Sre.Seen),s<=k->k<s+fuel->∃km,Sre.M.admitted m fuel s seen=.ok (some k,km):=λfuel=>fuel.recAux
  (λs seen h1 h2=>absurd h1 (by lia))
  λfuel ih s seen h1 h2=>by
  unfold Sre.M.admitted;rw[aZ (by lia)];by_cases e:s=k
  ·subst e;refine kE (hb seen) λkm e=>?_;rw[e];exact⟨km,rfl⟩
  ·refine kE (hm.set (m.text.getD s 0) seen (hp s (by lia))) λkm e=>?_;rw[e];exact ih (s+1) km (by lia) (by lia)
theorem jtZ{m:Sre.M}{sn:Sre.Seen}(hin:Sre.ops[m.code.getD (m.pc+0) 0]?=some .IN)(hpos:m.pos<m.lim)(ha:Sre.accepts m.code m.pc (m.text.getD m.pos 0) (m.seen.add (m.code.getD (m.pc+0) 0))=.ok (true,sn)):
  m.exec={m with seen:=sn,pc:=m.pc+Sre.itemWidth m.code m.pc,pos:=m.pos+1}:=by
 unfold Sre.M.exec Sre.M.word;rw[hin];dsimp only;rw[aZ (Im.mpr hpos),ha]
theorem jrh{m:Sre.M}(hin:Sre.ops[m.code.getD (m.pc+0) 0]?=some .SUCCESS)(hw:m.wholeText=false)(hm:m.mustAdvance=false):
  m.exec={m with seen:=m.seen.add (m.code.getD (m.pc+0) 0),handed:=m.pos,answer:=some true}:=by
 unfold Sre.M.exec Sre.M.word;rw[hin];dsimp only;rw[hw,hm,aZ (by simp)];rfl
theorem jjy{m:Sre.M}(h1:m.outcome=none)(h2:m.answer=none)(h3:m.pc<m.code.size):m.step=m.exec:=by
 unfold Sre.M.step;rw[h1,h2];simp only[Eg,kj,jH,aX h3]
structure rU(code:Array Nat)(c:Nat):Prop where
 VM:mW code
 least:(Sre.header code).1=1
 hint:(Sre.header code).2≠0
 bad:jvf code c
 isIn:Sre.ops[code.getD (Sre.header code).2 0]?=some .IN
 size:(Sre.header code).2+(1+code.getD ((Sre.header code).2+1) 0)<code.size
 set:∀seen,∃km,Sre.inSet code c code.size ((Sre.header code).2+2) true seen=.ok (true,km)
 succ:Sre.ops[code.getD ((Sre.header code).2+(1+code.getD ((Sre.header code).2+1) 0)) 0]?=some .SUCCESS
theorem Nz{m:Sre.M}(h:m.outcome=none)(n:Nat):m.runFor (n+1)=m.step.runFor n:=by
 show(if m.outcome.isSome=true then m else m.step.runFor n)=_;rw[h];rfl
theorem job{m:Sre.M}{f:Sre.Frame}{c:Nat}(F:rU m.code c)(ho:m.outcome=none)(ha:m.answer=none)(zT:m.pc=(Sre.header m.code).2)(hlim:m.pos<m.lim)(hc:m.text.getD m.pos 0=c)(hf:m.frames=[f])(hw:f.wait=.nextStart)(VJ:m.wholeText=false)(hma:m.mustAdvance=false):(m.runFor 4).outcome=some .matched:=by
 refine kE (F.set (m.seen.add (m.code.getD (m.pc+0) 0))) λsn hs=>?_;have hin:Sre.ops[m.code.getD (m.pc+0) 0]?=some .IN:=by rw[zT];exact F.isIn
 have e1:m.exec={m with seen:=sn,pc:=m.pc+Sre.itemWidth m.code m.pc,pos:=m.pos+1}:=jtZ hin hlim (by
  unfold Sre.accepts;rw[show Sre.ops[m.code.getD m.pc 0]?=some .IN from hin];dsimp only;rw[hc,zT];rw[zT] at hs;exact hs)
 have hwid:m.pc+Sre.itemWidth m.code m.pc=(Sre.header m.code).2+(1+m.code.getD ((Sre.header m.code).2+1) 0):=by
  unfold Sre.itemWidth;rw[show Sre.ops[m.code.getD m.pc 0]?=some .IN from hin];dsimp only;rw[zT]
 rw[Nz ho,jjy ho ha (by rw[zT];exact mz (je ..) F.size),e1,hwid,Nz (by exact ho),jjy (by exact ho) (by exact ha) (by exact F.size),jrh (by exact F.succ) (by exact VJ) (by exact hma),Nz (by exact ho)];unfold Sre.M.step;dsimp only;rw[ho,hf];simp only[Eg,kj,jH];unfold Sre.M.resume;dsimp only;rw[hw];simp only[gZ];unfold Sre.M.say;rw[Nz (by rfl)];rfl
theorem jmj{m:Sre.M}{k c:Nat}(F:rU m.code c)(ho:m.outcome=none)(ha:m.answer=none)(zT:m.pc=(Sre.header m.code).2)(hk:k<m.lim)(hp:∀j,j<k->jA (m.text.getD j 0)=true)(hc:m.text.getD k 0=c)(hf:m.frames=[])(hw:m.weight=0)(VJ:m.wholeText=false):
  ((m.attemptFrom 0 true).runFor 4).outcome=some .matched:=by
 have h1:m.hasFirstSet=true:=by
  unfold Sre.M.hasFirstSet;rw[F.VM.info,F.VM.four];rfl
 unfold Sre.M.attemptFrom;rw[h1];refine kE (jjV F.VM hk hp (hc▸F.bad) (m.lim+1-0) 0 m.seen (jq _) (by lia)) λkm e=>?_;rw[e];unfold Sre.M.attemptAt Sre.M.attempt;dsimp only;rw[hw];exact job (f:={wait:=.nextStart,pc:=m.pc,pos:=k,outermost:=true}) F ho ha zT hk hc (by rw[hf];rfl) rfl VJ rfl
theorem jjs{code text:Array Nat}{k:Nat}(hk:k<text.size)(hp:∀j,j<k->jA (text.getD j 0)=true)(F:rU code (text.getD k 0)):((Sre.forSearch code text 0 0 text.size false).runFor 4).outcome=some .matched:=by
 unfold Sre.forSearch;dsimp only;have hno:(decide (0>text.size)||decide (text.size-0<(Sre.header code).1))=false:=by
  rw[F.least,wV (by lia),wV (by lia)];rfl
 simp only[Ag,wW] at hno;rw[aZ (by simp only[ug,iw];exact λh=>h.elim hno.1 hno.2)] at⊢;exact jmj (k:=k) F rfl rfl rfl hk hp rfl rfl rfl rfl
theorem jj8(h:(m.runFor 4).outcome=some .matched)(hq:Q (m.runFor 4) s):wpAny M A (reDrive (n+1) m) Q E s:=by
 show wpAny _ _ (if (m.runFor 4).outcome.isSome=true then pure (m.runFor 4) else _) _ _ s;rw[h];exact bc hq
theorem jkS(h:(m.runFor 4).outcome=some .matched)(hq:Q (some (m.runFor 4)) s):wpAny M A (reRunToEnd m) Q E s:=by
 unfold reRunToEnd;refine tbn (m:=reDrive (2 ^ 64) m) ?_;show wpAny M A (reDrive ((2 ^ 64-1)+1) m) _ _ s;refine jj8 h ?_;refine tbn (S5 (λi u Q hq=>?_) _ ?_)
 ·split
  ·exact tbn (En (bc hq))
  ·exact bc hq
 ·rw[h];exact bc hq
end
section
theorem jmQ{p:Addr}{code:Array Nat}{x:List Nat}{t:Tok}{k:Nat}(hp:lg s.heap p code)(hk:k<x.length)(hx:∀j,j<k->jA (x.getD j 0)=true)(F:rU code (x.getD k 0))(hl:x.length<1000000000000):
  Wp A (call (.builtin "re.Pattern.search") [.ref p,.str ⟨x.toArray⟩ t] []) (λv s'=>∃a,v=.ref a/\s'.TypeIs v "re.Match"/\aA s s') s:=by
 have gd:∀j,(⟨x.toArray⟩:Str).cps.getD j 0=x.getD j 0:=λj=>by simp[PK,g8]
 have hl':=jjs (text:=(⟨x.toArray⟩:Str).cps) (k:=k) (by simpa using hk) (λj hj=>by rw[gd];exact hx j hj) (by rw[gd];exact F);refine jhf hp hl λT A' E' P hg q=>tbn (jkS hl' ?_);generalize (Sre.forSearch code (⟨x.toArray⟩:Str).cps 0 0 (⟨x.toArray⟩:Str).cps.size false).runFor 4=m;show wpAny _ _ (reNewMatch _ _ T.groups _ _ m>>=λv=>ret v) _ _ s;rw[hg];unfold reNewMatch;refine tbn ?_;simp only[List.range_zero,List.flatMap_nil,List.any_nil];rw[aZ ∅];refine tbn (wpAny_newTuple ?_);unfold newFields;refine u5 (hd:=by size_fits) (bc (q _ _ (cG _ rfl (aW _ (iJ _ rfl) rfl) (aC.trans aA.jt aA.jt))))
end
end
noncomputable abbrev NB:Array Nat:=#[14,10,4,1,1,22,0,31,16,127,0,13,7,22,0,31,16,127,0,1]
noncomputable abbrev NK:Array Nat:=#[14,14,4,1,1,9,4294966783,0,0,2147483648,0,0,0,0,0,13,11,9,4294966783,0,0,2147483648,0,0,0,0,0,1]
theorem jww:rU NB 10:=⟨SN,rfl,∅,λZ=>⟨_,rfl⟩,rfl,∅,λZ=>⟨_,rfl⟩,rfl⟩
theorem jwx:rU NK 13:=⟨SQ,rfl,∅,λZ=>⟨_,rfl⟩,rfl,∅,λZ=>⟨_,rfl⟩,rfl⟩
noncomputable def pI:Str:="Control characters not allowed in headers"
abbrev jDd:Scope:=(dw bj 17 1).2.2
abbrev jAR:List Stmt:=(dw bj 17 1).2.1
abbrev fC(rows:LV)(x:List Nat)(b:Bool)(r:List (OV)):ME:=[mk jDd ([some (.hdr rows),some (.str x),some (.bool b)]++r)]
theorem jst{A:Around}{D n:Nat}{S:Sp}(hA:aR A D)(O:Ops D S){env:Env}{η:ME}{C K:AP}{KG:NP}{s:Shared}(fa:FA env η C K KG s){y z:Str}{yp ap zp pos:Pos}{p:Addr}{x:List Nat}{k:Nat}
  (hy:aG S n η (.Name y yp)=some (.obj p))(hz:cF (aG S n η) [.Name z zp]=some [.str x])(hline:(ap.endLine==pos.line)=true)(hp:∃code,lg V.h₀ p code/\rU code (x.getD k 0))(hk:k<x.length)(hx:∀j,j<k->jA (x.getD j 0)=true)(hl:x.length<1000000000000):
  Wp A (isTrue (.Call (.Attribute (.Name y yp) "search" ap) [.Name z zp] [] pos) env (eval (.Call (.Attribute (.Name y yp) "search" ap) [.Name z zp] [] pos) env)) (λr s'=>r=true/\aA s s') s:=by
 refine aH hp λcode hp F=>?_;have hE:=(sound hA O n).1;show Wp A (do let v ←eval (.Call (.Attribute (.Name y yp) "search" ap) [.Name z zp] [] pos) env;standAt pos;holding [v] (truthy v)) _ s;refine Wp.bind (Q:=λv s'=>∃a,v=.ref a/\s'.TypeIs v "re.Match"/\aA s s') ?_ λv s' q=>?_
 ·rw[u0,mQ (by rfl)];refine Wp.bind (hE η _ env C K KG s _ fa hy) λov s₁ h₁=>tbn (gr ?_);refine kA h₁ λe₁ hov=>?_;obtain rfl:=VR.xx hov;refine kA (noStar (env:=env) (pos:=pos) hz) λq1 q2=>?_;have up:∀{s':Shared},(∀b o,V.h₀.get? b=some o->s'.heap.get? b=some o)->lg s'.heap p code:=λhb=>by
   refine qw hp.ob λo q vs oq n h1 h2 h3 zz=>cD zz λh4 h5 r=>?_;exact⟨o,q,vs,oq,n,hb _ _ h1,h2,h3,h4,hb _ _ h5,r⟩
  have dM:=fa.ext e₁;refine qw ((up dM.base).ob) λob Z Z Z Z hob hcls hdn Z=>?_;have:=yP (A:=A) (s:=s₁) (o:=.Name y yp) (env:=env) (ov:=.ref p) (m:="search") (trees:=backTo pos (starEach [.Name z zp] env)) (apos:=ap) (pos:=pos) (T:="re.Pattern") (id:="re.Pattern.search") (Q:=λv s'=>∃a,v=.ref a/\s'.TypeIs v "re.Match"/\aA s s') hline (by rw[q2];show 1<20;decide) q1 (Ej (aW ob hob hcls) jcu Lp jgB (λa' ea=>by cases ea;exact aW ob hob hdn) ⟨rfl,rfl⟩)
   (Wp.mono (lO hE [.Name z zp] s₁ s₁ _ aC.refl dM hz) λvs s₂ q=>by
    refine kA q λe₂ hvs=>?_;refine oW vs hvs.one λv hv=>?_;refine cR v hv.qp λt=>?_;exact Wp.mono (jmQ (up (dM.ext e₂).base) hk hx F hl) λv s₃ q=>by
     refine eO q λa h1 h2 h3=>?_;exact cG a h1 h2 ((aC.trans e₁ e₂).trans h3))
  rw[q2] at this;exact this
 ·refine eO q λa eq1 ht e=>?_;subst eq1;exact tbn (gr (dJ (tmo (jjF ht) (λb s'' q=>⟨q.1,q.2▸e⟩) λZ Z f=>f)))
theorem jj5(hA:aR A 2)(hfr:A.frames=some outer)(hst:base.StaysIn s.heap)(hfun:s.heap.FunFrames base outer)
  (hh:Here C s)(hs:VR C s.heap (.hdr rows) ov)(hv:VR C s.heap (.str x) vv)(hk:k<x.length)(hx:∀j,j<k->jA (x.getD j 0)=true)(hl:x.length<1000000000000)(F:rU (if b then NB else NK) (x.getD k 0))
  (hE:∀e t0 tk h' (s₂:Shared),aC (λb=>¬b<s.heap.objs.size) (λi=>¬i<s.gens.size) s s₂->Heap.FlyingW base outer e (.type "ValueError") (.ref t0) h'->h'.TupAt t0 [.str pI tk]->base.get? t0=none->s₂.heap.UpToSlots h'->E (.ref e) {s₂ with heap:=h'}):
  wpAny (model V.prog V.w) A (call (.ref 175) [ov,vv] [("name",.bool b)]) Q E s:=by
 have hbd:∀A:Around,Wp A (bindArgs (d7 V.h₀ 175) ⟨[ov,vv],[("name",.bool b)]⟩) (λr s'=>r=(["self","value","name"]:List Str).zip [ov,vv,.bool b]/\s'=s) s:=λA=>by
  rw[jiE];exact bc ⟨rfl,rfl⟩
 refine SJ (D:=1) (C:=C) (l:=[.hdr rows,.str x,.bool b]) (vs:=[ov,vv,.bool b]) (η:=fC rows x b []) (params:=["self","value","name"]) Th @hbd hA hh (.cons hs (.cons hv (.cons (.bool b) .nil))) ⋯ λenv C' s' hsc hfm hlo ext Z Z fa hR=>?_;have O:=HJ (aN 1) uQ [] (gens:=false) (λh=>nomatch h);refine dI (Ac (tmo ((sound hR O 12).2.1 (fC rows x b []) _ env C' _ _ s' true fa (cM rfl (dN rfl rfl rfl rfl (aK (az rfl rfl) aO) rfl) (XN rfl rfl rfl rfl) rfl)) (λr s₁ q=>?_) λZ Z f=>f.elim));refine gJ r q λe₁=>?_;rw[aX rfl];refine dI (Wp.cont (mV hR O 12 _ (cA (jxG (cA jAR 0)) 0) env C' _ _ s₁ .next (fC rows x b [some (.obj (if b then 140 else 145))]) (fa.ext e₁) (by cases b<;>kernel_rfl)) λC2 s₂ lE cO=>?_);refine dI (Ac (tmo (jst (n:=12) hR O cO (by cases b<;>kernel_rfl) (by cases b<;>kernel_rfl) rfl (show ∃code,lg V.h₀ (if b then 140 else 145) code/\rU code (x.getD k 0) from by
  cases b
  ·exact aW _ Tt F
  ·exact aW _ Tq F) hk hx hl) (λr s₃ q=>?_) λZ Z f=>f.elim))
 refine gJ r q λcu=>?_;rw[aX rfl];have gH:=cO.ext cu;refine dI (wpAny_Raise_call PySem.F.excCall_ValueError V0 hR.handled rfl (tmo (jht.load gH ⋯ ⋯) (λu s4 q=>?_) λZ Z f=>f.elim));refine kA q λeq1 eq2=>?_;subst eq1;subst eq2;refine⟨rfl,tmo (vX (Q:=λa s'=>a.kw=[]/\aA s4 s'/\eH C2 s4.heap.objs.size s4.gens.size s' [.str pI.cps.toList] a.pos) rfl (Wp.mono (lO (sound hR O 11).1 _ s4 s4 [.str pI.cps.toList] aC.refl gH (aK (aQ rfl) aO)) λvs s' q=>⟨rfl,q⟩)) (λa s5 q=>?_) λZ Z f=>f.elim⟩;obtain⟨apos,akw⟩:=a;refine cD q λhkw e5 hv'=>?_;refine aH hv'.one λv hp hv'=>?_;refine kE hv'.qp λtk bB=>?_;subst bB;have jH3:(⟨pI.cps.toList.toArray⟩:Str)=pI:=by simp
 rw[jH3] at hp;have hp:apos=[.str pI tk]:=hp;subst hp;refine⟨hkw,by show 1<=sizeLine;decide,λh' e hm=>?_⟩;have VK:aC (λb=>¬b<s.heap.objs.size) (λi=>¬i<s.gens.size) s s5:=((ext.cC.trans (aA.cC e₁)).trans lE.ev).trans (aA.cC (aC.trans cu e5));have VF:base.StaysIn s5.heap:=λb o hb=>VK.heap b o (λq=>q (hls (hst b o hb))) (hst b o hb);have Dy:=gH.ext e5;refine eV Dy.sees λm f hns Z=>?_;have hnew:base.get? env.locals=none:=by
  cases hq:base.get? env.locals with|none=>rfl|some o=>exact absurd (hls (hst _ o hq)) (bw hlo)
 have hout:s5.heap.FunFrames base outer:=by
  refine hfun.of_keeps λb o hb Z=>aW o (VK.heap b o (λq=>q (hls hb)) hb) rfl
 have hff:s5.heap.FunFrames base (env::outer):=.cons (by rw[Dy.fn];decide) hfm hns hnew hout;refine wpAny_leaves_madeW (Js hfr) hfm VF hff hm.of λh₂ t0 Qg htup ht0 hup=>?_;exact hE e t0 tk h₂ s5 VK Qg htup ht0 ((Heap.UpToSlots.of_keeps hm.keeps).trans hup)
def j8(base:Heap)(outer:List Env)(s:Shared)(e:Value)(s':Shared):Prop:=
 ∃e0 t0 tk h' s₂,e=.ref e0/\s'={s₂ with heap:=h'}/\aC (λb=>¬b<s.heap.objs.size) (λi=>¬i<s.gens.size) s s₂/\Heap.FlyingW base outer e0 (.type "ValueError") (.ref t0) h'/\h'.TupAt t0 [.str pI tk]/\base.get? t0=none/\s₂.heap.UpToSlots h'
theorem j8.after(x:j8 base outer s₁ e s')(k:aC (λb=>¬b<s.heap.objs.size) (λi=>¬i<s.gens.size) s s₁):j8 base outer s e s':=by
 refine qw x λe0 t0 tk h' s₂ h1 h2 h3 r=>?_;exact⟨e0,t0,tk,h',s₂,h1,h2,k.trans (aC.mono h3 (λb Z w q=>w (bJ q k.size)) λi Z w q=>w (bJ q k.cV)),r⟩
theorem j8.leave(x:j8 base (env::outer) s e s')(hfr:A.frames=some (env::outer))(hfm:env.frame=some env.locals)
  (h:∀s'',j8 base outer s e s''->Q () s''):wpAny M A (leaving env e) Q E s':=by
 refine qw x λe0 t0 tk h' s₂ eq1 eq2 h3 zz=>cW zz λh4 h5 h6 h7=>?_;subst eq1;subst eq2;exact wpAny_leaves_onW hfr hfm h4 λh'' k1 k2=>h _ (Fi e0 t0 tk h'' s₂ rfl rfl h3 k1 (h5.of_slots k2) h6 (h7.trans k2))
theorem jmb(hA:aR A 2)(hfr:A.frames=some outer)(hst:base.StaysIn s.heap)(hfun:s.heap.FunFrames base outer)
  (hh:Here C s)(hs:VR C s.heap (.hdr rows) ov)(hv:VR C s.heap (.str x) vv)(hx:∃k,k<x.length/\(∀j,j<k->jA (x.getD j 0)=true)/\rU (if b then NB else NK) (x.getD k 0))(hl:x.length<1000000000000):
  wpAny (model V.prog V.w) A (call (.ref 175) [ov,vv] [("name",.bool b)]) Q (j8 base outer s) s:=by
 refine eO hx λk hk hx F=>?_;exact jj5 hA hfr hst hfun hh hs hv hk hx hl F λe t0 tk h' s₂ h1 h2 h3 h4 h5=>Fi e t0 tk h' s₂ rfl rfl h1 h2 h3 h4 h5
abbrev uV(b:Bool)(x:List Nat):Prop:=∃k,k<x.length/\(∀j,j<k->jA (x.getD j 0)=true)/\rU (if b then NB else NK) (x.getD k 0)
theorem frames_at{C K:AP}{KG:NP}(fa:FA env η C K KG s)(hfm:env.frame=some env.locals)(hb:base.get? env.locals=none)(ho:s.heap.FunFrames base outer):s.heap.FunFrames base (env::outer):=by
 refine eV fa.sees λm f hns Z=>?_;exact .cons (by rw[fa.fn];decide) hfm hns hb ho
theorem jfU{A:Around}{D n:Nat}{S:Sp}(hA:aR A D)(hD:2<=D)(O:Ops D S){env:Env}{η:ME}{C K:AP}{KG:NP}{s:Shared}{rows:LV}{x:List Nat}{b:Bool}{outer:List Env}{base:Heap}{Q:Value->Shared->Prop}{o e:PE}{ap cp kp pos:Pos}{ck:Nat}
  (fa:FA env η C K KG s)(hfr:A.frames=some (env::outer))(hfm:env.frame=some env.locals)(hst:base.StaysIn s.heap)(hb:base.get? env.locals=none)(hfun:s.heap.FunFrames base outer)(hbo:baseOk o=true)(hline:(ap.endLine==pos.line)=true)
  (ho:aG S n η o=some (.hdr rows))(he:cF (aG S n η) [e]=some [.str x])(hx:uV b x)(hl:x.length<1000000000000):
  wpAny (model V.prog V.w) A (eval (.Call (.Attribute o "_convert_string_type" ap) [e] [⟨some ("name":Str),.Constant (.bool b) ck cp,kp⟩] pos) env) Q (j8 base (env::outer) s) s:=by
 rw[u0,mQ hbo];have hE:=(sound hA O n).1;refine tbn (tmo (hE η o env C K KG s _ fa ho) (λov s₁ q=>tbn (gr ?_)) λZ Z f=>f.elim);refine kA q λe₁ hov=>?_;have hov:VR C s₁.heap (.hdr rows) ov:=hov;refine kA (noStar (env:=env) (pos:=pos) he) λq1 q2=>?_;have dM:=fa.ext e₁;have:=js9 nT dM.base hov (m:="_convert_string_type") (k:="name") (b:=b) ⋯ Th joR ∅ (A:=A) (o:=o) (env:=env) (Q:=Q) (E:=j8 base (env::outer) s) (kt:=do let v ←eval (.Constant (.bool b) ck cp) env;standAt pos;pure v) hline (by rw[q2];show 1<20;decide) q1 (λs₂=>tbn (bc (tbn (gr (bc ⟨rfl,rfl⟩)))))
  (Wp.mono (lO hE [e] s₁ s₁ _ aC.refl dM he) λvs s₂ q=>⟨q.1,by
   refine kA q λe₂ hvs=>?_;refine oW vs hvs.one λv hv=>?_;have cO:=dM.ext e₂;have t8:aA s s₂:=aC.trans e₁ e₂;refine tmo (jmb (hA.mono hD) hfr (λb o g=>aA.heap t8 (hst b o g)) (frames_at cO hfm hb (hfun.of_keeps λb o g Z=>aW o (aA.heap t8 g) rfl)) cO.here (VR.ext e₂ hov) hv hx hl) (λZ Z q=>q) λe s' q=>q.after (aA.cC t8)⟩)
 rw[q2] at this;exact this
theorem Mv.Wv(y:Mv (λb=>b<s.heap.objs.size) (λi=>i<s.gens.size) C s C' s')(hst:base.StaysIn s.heap)(hfun:s.heap.FunFrames base outer):base.StaysIn s'.heap/\s'.heap.FunFrames base outer:=
 ⟨λb o g=>y.ev.heap b o (λq=>q (hls (hst b o g))) (hst b o g),hfun.of_keeps λb o g Z=>aW o (y.ev.heap b o (λq=>q (hls g)) g) rfl⟩
theorem jnl(hA:aR A 3)(hfr:A.frames=some outer)(hst:base.StaysIn s.heap)(hfun:s.heap.FunFrames base outer)(hh:Here C s)
  (hs:VR C s.heap (.hdr rows) ov)(hvn:VR C s.heap (.str n) vn)(H9:VR C s.heap (.str v) vv)(hn:n.length<1000000000000)(hv:v.length<=1000000)(hbad:uV false v\/(dU v=true/\uV true n)):
  wpAny (model V.prog V.w) A (call (.ref 271) [ov,vn,vv] []) Q (j8 base outer s) s:=by
 refine tmo (jiy (Q:=λZ=>False) (E:=j8 base outer s) hA hh ⋯ hs hvn H9 λenv C1 s₁ hfm hlo oR dM hR=>tmo (Q:=λZ Z=>False) (E:=j8 base (env::outer) s) ?_ (λZ Z f=>f) λe s'' q=>q.leave (Js hfr) hfm λs3 q=>q) (λZ Z f=>f.elim) λZ Z q=>q;have O:=wG (aN 2) uQ ["parts"];have hfr':=Js (env:=env) hfr;have hnew:base.get? env.locals=none:=by
  cases hq:base.get? env.locals with|none=>rfl|some o=>exact absurd (hls (hst _ o hq)) (bw hlo)
 refine dI (Wp.cont (mV hR O 12 _ (cA pG 0) env C1 _ _ s₁ .next (fA (.hdr rows) n v [some (.own [])]) dM ⋯) λC2 s₂ lE cO=>?_);have Jy:=oR.trans lE;rcases hbad with hb|⟨hsv,hb⟩
 ·refine dI (Ac (tmo ((sound hR O 12).2.1 (fA (.hdr rows) n v [some (.own [])]) _ env C2 _ _ s₂ true cO (cM rfl (az rfl rfl) (aQ rfl) rfl)) (λr s₃ q=>?_) λZ Z f=>f.elim));refine gJ r q λcu=>?_;rw[aX rfl];have W0:=Jy.trans (.ext cu);have k:=W0.Wv hst hfun;exact dI (Ab (hs:=by rw[yO];rfl) (tmo (jfU (n:=12) hR (aN 2) O (cO.ext cu) hfr' hfm k.1 hnew k.2 rfl rfl (az rfl rfl) (aK (az rfl rfl) aO) hb (mz hv ∅) (Q:=λZ Z=>False)) (λZ Z f=>f.elim) λe s' q=>q.after W0.ev))
 ·have st1:bh HQ 13 (fA (.hdr rows) n v [some (.own [])]) (cA pG 1)=some (.next,fA (.hdr rows) n v [some (.own [.str v])]):=
   eZ (c:=true) (cM rfl (az rfl rfl) (aQ rfl) rfl) (bu (aD:=fA (.hdr rows) n v [some (.own [])]) (fD (v:=.str v) rfl (Bq rfl (az rfl rfl) (aK (az rfl rfl) aO) (Vi hsv)) rfl ⋯) (bu (za (v:=.str v) rfl rfl (az rfl rfl) rfl rfl ⋯) dz))
  refine dI (Wp.cont (mV hR O 13 _ (cA pG 1) env C2 _ _ s₂ .next _ cO st1) λC3 s₃ Qh gH=>?_);refine dI (Wp.cont (jlk (y:="_params") hR.handled gH ⋯ ⋯ (by rfl) ⋯ (by rfl)) λC4 s4 xu gb=>?_);refine dI (Iz (hi:=gb.wY) (hs:=yM) (Iw (T:="list") (id:="list.append") (mQ rfl) rfl rfl Je Jg Jh ?_));refine tmo ((sound hR O 12).1 (fA (.hdr rows) n v [some (.own [.str v])]) _ env C4 _ _ s4 (.lst rows) gb (QQ rfl rfl rfl)) (λu s5 q=>?_) λZ Z f=>f.elim;refine kA q λe5 hu=>?_;refine cP u hu.iv λa vs ho Z=>?_;have W3:=Jy.trans ((Qh.trans xu).trans (.ext e5));have k:=W3.Wv hst hfun;refine⟨ho.isList.typeIs,λb eb=>by cases eb;refine ju ho λo ho n bB=>?_;subst bB;exact aW _ ho rfl,Ei (by rfl) (Calls.evalArgs_plain (Calls.spliced_cons (tmo (Q:=λZ Z=>False) (E:=j8 base (env::outer) s) ?_ (λZ Z f=>f.elim) λZ Z q=>q)))⟩;refine IV (x1:=0) (Calls.spliced_cons (tmo (Q:=λZ Z=>False) (E:=j8 base (env::outer) s) ?_ (λZ Z f=>f.elim) λZ Z q=>q));exact tmo (jfU (n:=12) (b:=true) hR (aN 2) O (gb.ext e5) hfr' hfm k.1 hnew k.2 rfl rfl (az rfl rfl) (aK (az rfl rfl) aO) hb hn (Q:=λZ Z=>False)) (λZ Z f=>f.elim) λe s' q=>q.after W3.ev
theorem jkW(h:wpAny M A t Q E s):
  wpAny M A t (λa s'=>(s.heap.objs.size<=s'.heap.objs.size/\s.gens.size<=s'.gens.size)/\Q a s') (λe s'=>(s.heap.objs.size<=s'.heap.objs.size/\s.gens.size<=s'.gens.size)/\E e s') s:=
 λΓ p hΓ=>ZW M Γ _ _ t _ _ p s ⟨aN _,aN _⟩ (h Γ p hΓ)
noncomputable def without(h:Heap)(L:Addr):Heap:=h.update L λo=>{o with data:=.freed}
theorem NQ(h:Heap)(L:Addr):(without h L).get? L=none:=by
 unfold without;obtain⟨objs,life⟩:=h;show Heap.get? ⟨objs.modify L _,life⟩ L=none;unfold Heap.get?;simp only[Array.getElem?_modify,gZ];cases objs[L]?<;>rfl
theorem Vv(h:Heap)(hb:b≠L):(without h L).get? b=h.get? b:=Heap.get?_update_other _ _ (sr hb)
theorem jiu(h:Heap)(L:Addr):(without h L).StaysIn h:=λb o hb=>by
 by_cases e:b=L
 ·subst e;rw[NQ] at hb;exact nn hb
 ·rwa[Vv h e] at hb
theorem jl2{A:Around}{D n:Nat}{S:Sp}(hA:aR A D)(hD:3<=D)(O:Ops D S){env:Env}{η:ME}{C K:AP}{KG:NP}{s:Shared}{rows:LV}(fa:FA env η C K KG s)(hfr:A.frames=some [env])(hfm:env.frame=some env.locals)
  {o en ev:PE}{ap pos spos:Pos}{u v:List Nat}(hb:baseOk o=true)(hline:(ap.endLine==pos.line)=true)(ho:aG S n η o=some (.hdr rows))(hl:cF (aG S n η) [en,ev]=some [.str u,.str v])(hu:u.length<1000000000000)(hv:v.length<=1000000)(hbad:uV false v\/(dU v=true/\uV true u)):
  wpAny (model V.prog V.w) A (exec (.Expr (.Call (.Attribute o ("add_header":Str) ap) [en,ev] [] pos) spos) env) (λZ Z=>False) (j8 (without s.heap env.locals) [env] s) s:=by
 refine O6 (Q:=λZ Z=>False) ?_ fa.wY yM;rw[u0,mQ hb];have hE:=(sound hA O n).1;refine tbn (tmo (hE η o env C K KG s _ fa ho) (λov s₁ q=>tbn (gr ?_)) λZ Z f=>f.elim);refine kA q λe₁ hov=>?_;have hov:VR C s₁.heap (.hdr rows) ov:=hov;refine kA (noStar (env:=env) (pos:=pos) hl) λq1 q2=>?_;have dM:=fa.ext e₁;have:=GP nT dM.base hov (m:="add_header") ⋯ Ti js8 ∅ (A:=A) (o:=o) (env:=env) (Q:=λZ Z=>False) (E:=j8 (without s.heap env.locals) [env] s) hline (by rw[q2];show 2<20;decide) q1
  (Wp.mono (lO hE [en,ev] s₁ s₁ _ aC.refl dM hl) λvs s₂ q=>⟨q.1,by
   refine kA q λe₂ hvs=>?_;cases hvs with
   |cons h1 r=>cases r with
    |cons h2 r=>
     cases r;have cO:=dM.ext e₂;have t8:aA s s₂:=aC.trans e₁ e₂;refine tmo (jnl (hA.mono hD) hfr (λb o g=>aA.heap t8 (jiu _ _ b o g)) (frames_at cO hfm (NQ _ _) lz) cO.here (VR.ext e₂ hov) (h1.plain rfl) (h2.plain rfl) hu hv hbad) (λZ Z f=>f) λe s' q=>q.after (aA.cC t8)⟩)
 rw[q2] at this;exact tmo this (λZ Z f=>f.elim) λZ Z q=>q
theorem j8.facts(x:j8 (without s.heap env.locals) [env] s e s')(hns:s.heap.Ns env.locals m):∃e0 t0 tk,e=.ref e0/\Heap.FlyingW (without s.heap env.locals) [env] e0 (.type "ValueError") (.ref t0) s'.heap/\s'.heap.TupAt t0 [.str pI tk]/\(without s.heap env.locals).get? t0=none/\s'.heap.Ns env.locals m/\
  (∀(i:Nat) (x:GenState),s.gens[i]?=some x->s'.gens[i]?=some x)/\(AllBare s.gens->AllBare s'.gens)/\s'.os=s.os:=by
 refine qw x λe0 t0 tk h' s₂ eq1 eq2 h1 zz=>cW zz λh2 h3 h4 h5=>?_;subst eq1;subst eq2;exact⟨e0,t0,tk,rfl,h2,h3,h4,h5.ns (hns.keeps λb o g=>h1.heap b o (λq=>q (hls g)) g),λi y hi=>h1.gens i y (λq=>q (Jt.mp hi).1) hi,h1.bare,h1.os⟩
noncomputable def jqc:Stmt->List Stmt
 | .Try b _ _ _ _=>b|_=>[]
noncomputable def jwd:PE->PE
 | .Call f _ _ _=>f|_=>default
noncomputable def jqD:PE->PE
 | .Attribute o _ _=>o|_=>default
abbrev H3:Stmt:=cA (jC (stL 27)) 0
abbrev jDi:PE:=jqD (jwd (Nk (cA (jqc H3) 0)))
abbrev jDh:List PySem.Expr:=callArgs (Nk (cA (jqc H3) 0))
theorem jxM{A:Around}{env:Env}{η:ME}{C K:AP}{KG:NP}{s:Shared}(hA:aR A 13)(hfr:A.frames=some [env])(hfm:env.frame=some env.locals)(x:FA env η C K KG s)
  (g3:lL η "ValueError"=true)(g4:lL η "str"=true)(g5:cZ η "error"=some .local)(hne:look "error" η=none){rows:LV}{u v:List Nat}(ho:aG dh 20 η jDi=some (.hdr rows))(hl:cF (aG dh 20 η) jDh=some [.str u,.str v])(hu:u.length<1000000000000)(hv:v.length<=1000000)(hbad:uV false v\/(dU v=true/\uV true u)):
  Wp A (exec H3 env) (XP env C K KG s .next η) s:=by
 refine dZ x.sees λm f hns jU9 hK hinj=>?_;have hloc:env.kindOf "error"=some .local:=x.kinds "error" .local g5;have hfun:(env.scope.kind== .class||(env.scope.kind== .module&&env.locals !=env.globals))=false:=by rw[x.fn];rfl
 have jH4:bW "ValueError" (.type "ValueError"):=pC ⋯ ⋯;have Qa:∀(s':Shared) (m':Str->Option Value),s'.heap.Ns env.locals m'->(∀y:Str,y≠("error":Str)->m' y=m y)->(without s.heap env.locals).StaysIn s'.heap->s.heap.objs.size<=s'.heap.objs.size->s.gens.size<=s'.gens.size->(AllBare s.gens->AllBare s'.gens)->FA env η C K KG s':=
  λs' m' h1 h2 h3 h4 h5 h6=>x.Xb hns h1 (λy pv hy=>h2 y λq=>by rw[q,hne] at hy;exact nn hy) (λb o hb hg=>h3 b o (by rw[Vv _ hb];exact hg)) h4 h5 h6
 refine wpAny_Try_except (dI (tmo (jkW (jl2 (n:=20) hA ∅ HN x hfr hfm rfl rfl ho hl hu hv hbad)) (λf s₁ q=>q.2.elim) λe s₁ q=>?_));refine kA q λbC q=>?_;obtain⟨z1,z2⟩:=bC;refine vH (q.facts hns) λe0 t0 tk eq1 Qg htup ht0 jH5 hgens zz=>kA zz λhbare hos=>?_;subst eq1;refine tmo (j4 (wpAny_looks_onW (Q:=λZ s'=>∃h',Heap.HeldW (without s.heap env.locals) [env] e0 (.type "ValueError") (.ref t0) env.locals h'/\s₁.heap.UpToSlots h'/\s'={s₁ with heap:=h'}) hfr hfm Qg λh' a b=>cG h' a b rfl)) (λZ s₂ q=>?_) λZ Z f=>f;refine vD q λbC h₂ held up2 eq2=>?_;obtain⟨z3,_⟩:=bC;subst eq2;refine tmo (j4 (wpAny_landsW (Q:=λZ s'=>∃h',Heap.FlyingW (without s.heap env.locals) [env] e0 (.type "ValueError") (.ref t0) h'/\h₂.UpToSlots h'/\s'={s₁ with heap:=h'}) held λh' a b=>cG h' a b rfl)) (λZ s₃ q=>?_) λZ Z f=>f;refine vD q λbC h₃ W4 up3 eq2=>?_;obtain⟨z4,_⟩:=bC;subst eq2;have W5:=up2.trans up3;have W6:h₃.Ns env.locals m:=W5.ns jH5;have z5:s.heap.objs.size<=h₃.objs.size:=aF z1 (aF z3 z4);have fa3:=Qa {s₁ with heap:=h₃} m W6 (λZ Z=>rfl) W4.1 z5 z2 hbare;refine wpAny_handleBy_builtin_as (X:="ValueError") (T:="ValueError") (b:=true) V0.isExc ⋯ ⋯ (tmo (jH4.load fa3 g3 ⋯) (λc s4 q=>?_) λZ Z f=>f.elim);refine vI c s4 q ?_;refine cW W4 λk1 k2 k3 k4=>?_;refine⟨rfl,k4.at.there,?_⟩;rw[aX rfl];refine tmo (j4 (wpAny_setFlight_noneW (Q:=λZ s'=>∃h',(without s.heap env.locals).StaysIn h'/\h'.TracedW (without s.heap env.locals) e0 (.type "ValueError") (.ref t0)/\(∀b o,h₃.get? b=some o->(∀vs,o.data≠.fields vs)->h'.get? b=some o)/\s'={s₁ with heap:=h'}) k1 k3 k4.at λh' a b c d=>ru h' a c d rfl)) (λZ s5 q=>?_) λZ Z f=>f;refine JF q λbC h₅ st5 tr5 kp5 eq2=>?_;obtain⟨z6,_⟩:=bC;subst eq2;have W7:h₅.Ns env.locals m:=by
  refine Ba W6 λo es ep ho hd r=>?_;exact⟨o,es,ep,kp5 _ o ho (λvs q=>by rw[hd] at q;cases q),hd,r⟩
 have Wo:h₅.TupAt t0 [.str pI tk]:=(htup.of_slots W5).of_slots λb o hb hf=>⟨o.slots,kp5 b o hb hf⟩;refine wpAny_storeName_local hloc W7 (λh₆ Qi Oe=>?_) hfun;have st6:(without s.heap env.locals).StaysIn h₆:=λb o hb=>by
  have Ia:b≠env.locals:=λq=>by rw[q,NQ] at hb;exact nn hb
  exact(Oe.2 b Ia).trans (st5 b o hb)
 have z7:s.heap.objs.size<=h₆.objs.size:=by rw[Oe.1];exact aF z5 z6
 have fa6:=Qa {s₁ with heap:=h₆,toks:=s₁.toks+1} _ Qi (λy hy=>by simp[hy]) st6 z7 z2 hbare;have hdict:∀o,h₅.get? env.locals=some o->∃es ep,o.data=.dict es ep:=λo ho=>by
  refine Ba W7 λo' es ep ho' hd Z=>?_;rw[ho] at ho';cases ho';exact kW es ep hd
 have htl:t0≠env.locals:=λq=>by
  refine eX Wo λo n ho Z hd=>?_;rw[q] at ho;refine kO (hdict o ho) λes ep hd'=>?_;rw[hd] at hd';cases hd'
 have jHM:h₆.TupAt t0 [.str pI tk]:=by
  refine eV Wo λo n ho r=>?_;exact fP o n ((Oe.2 t0 htl).trans ho) r
 have jHN:h₆.ExcAt e0 "ValueError" (.ref t0):=by
  refine qw tr5 λoe vs T oT ts he bC hd Z=>?_;obtain⟨hc,h0⟩:=bC;have hel:e0≠env.locals:=λq=>by
   rw[q] at he;refine kO (hdict oe he) λes ep hd'=>?_;rw[hd] at hd';cases hd'
  exact fW oe vs ((Oe.2 e0 hel).trans he) hc hd h0
 have hu:=hA.units;refine dI (Ac (wpAny_isTrue_Compare1 (wpAny_Call_ofName (tmo (jsU.load fa6 g4 ⋯) (λu s7 q=>?_) λZ Z f=>f.elim))));refine vI u s7 q ?_;have htr:∀p np,backTo p (starEach [PySem.Expr.Name "error" np] env)=[(false,eval (.Name "error" np) env)]:=λp np=>by
  rw[yI (by intro x p h;cases h),yJ];rfl
 rw[htr];refine O3 rfl (tmo (vX (Q:=λa s'=>a=⟨[.ref e0],[]⟩/\s'=({s₁ with heap:=h₆,toks:=s₁.toks+1}:Shared)) rfl (wX (qW (I6 x.fn hloc Qi (by simp) (El ⟨rfl,rfl⟩)) ⋯))) (λa s8 q=>?_) λZ Z f=>f.elim);refine vI a s8 q ?_;refine P.str_of_exc_one (PySem.F.excStr_ValueError) (by show A.units+2<cLine;lia) jHN jHM ?_;refine tmo (ZS (C:=C) (p:=.str pI.cps.toList) rfl) (λu s9 q=>?_) λZ Z f=>f.elim;refine kA q λe9 hv=>?_;refine cR u hv.qp λtk9=>?_;refine PySem.P.ne_str ?_;have hsame:(pI.cps.toList !=(⟨pI.cps.toList.toArray⟩:Str).cps.toList)=false:=by simp
 rw[hsame];refine I9 ?_;rw[aZ ∅];refine qg ?_;refine qg ?_;have jH6:=Qi.keeps λb o=>aA.heap e9;refine tmo (j4 (wpAny_nameGoes_keeps (Q:=λZ s'=>∃h' v,h'.Ns env.locals (λx=>if x=("error":Str) then v else if x=("error":Str) then some (.ref e0) else m x)/\Heap.SameBut env.locals s9.heap h'/\s'={s9 with heap:=h',toks:=s9.toks+1}) hloc jH6 hfun λh' v a b=>⟨h',v,a,b,rfl⟩)) (λZ s10 q=>?_) λZ Z f=>f;refine JC q λbC h10 v jHO zz=>kA zz λW8 eq2=>?_;obtain⟨z8,_⟩:=bC;subst eq2;have W9:(without s.heap env.locals).StaysIn h10:=λb o hb=>by
  have Ia:b≠env.locals:=λq=>by rw[q,NQ] at hb;exact nn hb
  exact(W8.2 b Ia).trans (aA.heap e9 (st6 b o hb))
 have zz:s.heap.objs.size<=h10.objs.size:=by rw[W8.1];exact aF z7 (aC.size e9)
 have gs9:s₁.gens.size<=s9.gens.size:=aC.cV (W:=no) (G:=no) (s:={s₁ with heap:=h₆,toks:=s₁.toks+1}) e9;have gg9:∀(i:Nat) (y:GenState),s₁.gens[i]?=some y->s9.gens[i]?=some y:=λi y hi=>aC.gens (W:=no) (G:=no) (s:={s₁ with heap:=h₆,toks:=s₁.toks+1}) e9 i y (λq=>q) hi;have gb9:AllBare s₁.gens->AllBare s9.gens:=λhb=>aC.bare (W:=no) (G:=no) (s:={s₁ with heap:=h₆,toks:=s₁.toks+1}) e9 hb;have go9:s9.os=s₁.os:=aC.os (W:=no) (G:=no) (s:={s₁ with heap:=h₆,toks:=s₁.toks+1}) e9;have gz:s.gens.size<=s9.gens.size:=aF z2 gs9;have jH7:=Qa {s9 with heap:=h10,toks:=s9.toks+1} _ jHO (λy hy=>by simp[hy]) W9 zz gz λhb=>gb9 (hbare hb);refine cG C (.of ⟨λb o hkb hb=>?_,zz,λi y Z hi=>gg9 i y (hgens i y hi),gz,λhb=>gb9 (hbare hb),go9.trans hos⟩) rfl jH7;have Ia:b≠env.locals:=λq=>hkb (q▸x.dY.2.1);exact W9 b o (by rw[Vv _ Ia];exact hb)
theorem jsm(h:dU w=true)(j:Nat)(hj:j<w.length):jA (w.getD j 0)=true:=by
 rw[g8,iy hj];exact cU.mp (bD h).1 _ (qi hj)
theorem jqG(h:dU w=true):uV true (w++[10]):=by
 refine cG w.length (by rw[bz];exact jo _) (λj hj=>?_) ?_
 ·rw[g8,Pz hj,←g8];exact jsm h j hj
 ·rw[g8,Ao (aN _),Ec];exact jww
theorem jnw:uV false [43,13]:=cG 1 ∅ (λj hj=>by
 cases j with
 |zero=>rfl
 |succ j=>lia) jwx
section
variable(l:List Int)(c:List Nat){T:List Tr}(H:rR T)(ln de nm vl a b d e f:OV){A:Around}{env:Env}{C K:AP}{KG:NP}{s:Shared}
abbrev NT(T:List Tr)(nm vl:OV):ME:=[mk bU (jV l c T++[ln,some (.dct (uR T [])),some (.int (bf T:Nat)),some (.own (jG T (bf T+1))),de,some (.lst ((List.range' 0 (bf T+1)).map (uU T))),nm,vl,some (.own (di T (bf T)++[wJ])),some (.int (rT c T:Nat)),some (keyV (pA c T)),some (keyV (pB c T)),some (.str (nameQ (qA c T))),some (.str (gC c T)),a,b,d,e,f])]
def H4(T:List Tr):Nat->ME
 |0=>NT l c ln de a b d e f T nm vl|1=>NT l c ln de a b d e f T (some (.str (gC c T++[10]))) (some (.str [43]))|_=>NT l c ln de a b d e f T (some (.str (gC c T))) (some (.str [43,13]))
include H
theorem jxT(hA:aR A 13)(hfr:A.frames=some [env])(hfm:env.frame=some env.locals)(fa:FA env (NT l c ln de a b d e f T nm vl) C K KG s):
  Wp A (exec (stL 27) env) (XP env C K KG s .next (H4 l c ln de nm vl a b d e f T 2)) s:=by
 refine cD (jho c H) λw1 w2 w3=>?_;have hk:aL (gC c T++[10]).length=true:=bG (by rw[bz,mD,w3];lia);have hsm:dU (gC c T)=true:=by
  unfold gC;split
  ·unfold dU;rw[bH,b8 (show(qP c T).length<1000000000000 by lia),mF,cU];intro x hx;refine eY x (gY.mp hx) λy hy=>?_;have h:=cU.mp w1 y hy;have key:∀d,d<128->wF d=true->jA (cI d)=true:=by decide+kernel
   exact key y (U8 h).2.2.2 h
  ·exact Vb w1 (by lia)
 have hz:=t6 H (aN (bf T));have:=jiS (n:=20) (E:=H4 l c ln de nm vl a b d e f T) (B:=λi=>H4 l c ln de nm vl a b d e f T (i+1)) (items:=[.tup [.str (gC c T++[10]),.str [43]],.tup [.str (gC c T),.str [43,13]]]) (pa:=.tup [.tup [.str (gC c T++[10]),.str [43]],.tup [.str (gC c T),.str [43,13]]]) (tgt:=rI (stL 27)) (it:=Vr (stL 27)) (body:=[H3]) (pos:=(stL 27).pos) hA HN (show FA env (H4 l c ln de nm vl a b d e f T 0) C K KG s from fa) (λZ=>rfl)
  (jZ (aK (jZ (aK (bA (az (p:=.str (gC c T)) rfl rfl) (aQ (p:=.str [10]) rfl) (ie hk)) (aK (aQ rfl) aO)) rfl) (aK (jZ (aK (az (p:=.str (gC c T)) rfl rfl) (aK (aQ rfl) aO)) rfl) aO)) rfl) rfl (λi y hy=>?_) λi C1 K1 qQ s₁ hi dM=>?_
 ·exact this
 ·match i,hy with
  |0,hy=>cases hy;kernel_rfl
  |1,hy=>cases hy;kernel_rfl
  |i+2,hy=>exact nn hy
 ·refine dI (Wp.cont (?_:Wp A (exec H3 env) (XP env C1 K1 qQ s₁ .next (H4 l c ln de nm vl a b d e f T (i+1))) s₁) λC2 s₂ lE cO=>qg (cG C2 lE rfl cO))
  match i,hi with|0,_=>exact jxM hA hfr hfm dM ⋯ ⋯ ⋯ ⋯ (bT rfl (az rfl rfl) (az rfl rfl) hz) (aK (az (p:=.str (gC c T++[10])) rfl rfl) (aK (az (p:=.str [43]) rfl rfl) aO)) (by rw[bz,mD,w3];lia) ∅ (.inr ⟨rfl,jqG hsm⟩)|1,_=>exact jxM hA hfr hfm dM ⋯ ⋯ ⋯ ⋯ (bT rfl (az rfl rfl) (az rfl rfl) hz) (aK (az (p:=.str (gC c T)) rfl rfl) (aK (az (p:=.str [43,13]) rfl rfl) aO)) (by rw[w3];lia) ∅ (.inl jnw)|i+2,hi=>exact absurd hi (by rw[dC,dC,jJ];lia)
end
theorem jrI(v:Value)(s:Shared)(A:Around):Wp A (bindArgs (d7 V.h₀ 336) ⟨[v],[]⟩) (λb s'=>b=(["script"]:List Str).zip [v]/\s'=s) s:=by
 rw[show bindArgs (d7 V.h₀ 336) ⟨[v],[]⟩=_ from(nR ⋯) [v] rfl];exact bc ⟨rfl,rfl⟩
theorem jtG:(defOf bj 28).2.1=(List.range 16).map stL++stL 16::((List.range' 17 10).map stL++stL 27::[stL 28]):=⋯
theorem joK(l:List Int):cH ((["script"]:List Str).map λx=>PySem.Expr.Name x default) [.lst (l.map .int)] [bQ bU]=some (A0 l):=⋯
theorem jzq(l:List Int)(hl:l.length<=63):∃c:List Nat,c.length=8/\dK (bh dh 20) (A0 l) ((List.range 16).map stL)=some (.next,[mk bU (Vo l c (gV c))]):=by
 refine eO (jnF l hl) λc hc hb h1=>?_;refine cW (jf4 hc) λhok hz n1 n3=>?_;have hs:cT (gV c)<=8:=by lia
 have hT:(gV c).length<=8:=by lia
 have hW:(wT (gV c)).length<=100:=by have:=jtk (gV c);lia
 have h:=(Np (gV c) hok).run;have h5:∀t∈gV c,t.size<=5:=λt ht=>hz▸Hx ht;exact aW c hc (bu (jAX l) (bu h1 (bu (jAY l c hc hb) (bu (jAZ l c _ hs) (bu (jA0 l c _ hW) (bu (jA1 l c _) (bu (jA2 l c _ hW h) (bu (jA3 l c _ hW) (bu (jA4 l c _ hW) (bu (jA5 l c _ hW) (bu (jy9 l c _ hok hW)
  (bu (jza l c _ hok hs hW) (bu (jzb l c _ hs hT hW h) (bu (jzc l c _ h5 hT) (bu (jzd l c _ hT) (bu (jze l c _ hs hT) dz))))))))))))))))
theorem jzr(l:List Int)(c:List Nat)(hc:c.length=8)(H:rR T)(ln de nm vl:OV):∃a b d e,dK (bh dh 20) [mk bU (Nv l c ln de nm vl T)] ((List.range' 17 10).map stL)=some (.next,ou l c T ln de nm vl a b d e e):=by
 refine uw (jzo l c ln de nm vl H hc) λa b d e h=>?_;exact JM a b d e (bu (jzf l c H ln de nm vl) (bu (jzg l c H ln de nm vl) (bu (jzh l c H ln de nm vl) (bu (jzi l c H ln de nm vl) (bu (jzj l c ln de nm vl H hc) (bu (jzk l c ln de nm vl H) (bu (jzl l c ln de nm vl H hc) (bu (jzm l c ln de nm vl H hc) (bu (jzn l c ln de nm vl H hc) (bu h dz))))))))))
theorem jrJ{A:Around}(hA:aR A 14)(hfr:A.frames=some []){C:AP}{s:Shared}(hh:Here C s){l:List Int}(hl:l.length<=63){v:Value}(hv:VR C s.heap (.lst (l.map .int)) v):
  Wp A (call (.ref 336) [v]) (λu s'=>u=.bool true/\aA s s') s:=by
 refine aH (jzq l hl) λc hc q1=>?_;refine cW (jf4 hc) λhok hz n1 n3=>?_;have H:rR (gV c):=⟨hz,n1,n3⟩;refine S6 (D:=13) jt0 (λA'=>@jrI v s A') hA hh (.cons hv .nil) (joK l) λenv C' s' hsc hfm ext hC' Z fa hR=>?_;rw[show(defOf pw 28).2.1=_ from jtG];have hX:=mV hR HN 20;refine jey hX _ (A0 l) C' s' fa q1 λC1 s₁ oR dM=>?_;refine dI (Wp.cont (jxS l c (gV c) hR H.sizes (by lia) (by lia) dM) λC2 s₂ lE cO=>?_);refine uw (jzr l c hc H (Nr (gV c) (bf (gV c)+1)) (deP (bf (gV c)+1)) (pH nameQ (gV c) (bf (gV c)+1)) (pH m9 (gV c) (bf (gV c)+1))) λa b d e q2=>?_;refine jey hX _ _ C2 s₂ cO q2 λC3 s₃ Qh gH=>?_;refine dI (Wp.cont (jxT l c H _ _ _ _ a b d e e hR (Js hfr) hfm gH) λC4 s4 xu gb=>?_);obtain⟨aq,q3⟩:=jzp l c _ _ H a b d e e (some (.str (gC c (gV c)))) (some (.str [43,13]));refine dI (Wp.mono (hX _ (stL 28) env C4 _ _ s4 (.ret (.bool true)) aq gb q3) λf s5 q=>?_);refine Xf q λC5 Qf u eq1 hu=>?_;subst eq1;cases hu;have h15:aC (λb=>¬b<s.heap.objs.size) (λi=>¬i<s.gens.size) s s5:=(aA.cC ext).trans ((oR.trans lE).trans ((Qh.trans xu).trans Qf)).ev;exact⟨rfl,aC.mono h15 (λb hb w=>w hb) λi hi w=>w hi⟩
theorem jw4{h:Heap}{a:Addr}{m m':Str->Option Value}(h1:h.Ns a m)(h2:h.Ns a m')(y:Str):m y=m' y:=by
 refine qt h1 λo es ep ho hd Z hq=>?_;refine qt h2 λo' es' ep' ho' hd' Z hq'=>?_;rw[ho] at ho';cases ho';rw[hd] at hd';cases hd';rw[←hq,←hq']
theorem lay_ints:∀(l:List Int) (s:Shared),∃vs t,layAllW R cl P ord (l.map .int) s=some (vs,{s with toks:=t})/\aV C h (l.map .int) vs
 |[],s=>fP ([]) s.toks rfl .nil
 |i::r,s=>by
  refine eV (lay_ints (R:=R) (cl:=cl) (P:=P) (ord:=ord) (C:=C) (h:=h) r {s with toks:=s.toks+1}) λvs t h1 h2=>?_;refine fP (.int i s.toks::vs) t ?_ (.cons (.int _ _) h2);simp only[fu,layAllW,layW,h1]
theorem has_int(h:WShape.has R d .int=true):∃i,d=.int i:=by
 cases d<;>first|exact⟨_,rfl⟩|exact(nomatch (show false=true from h))
theorem jg0:∀xs:List WData,WShape.hasItems R xs .int=true->∃l:List Int,xs=l.map .int
 |[],_=>⟨[],rfl⟩
 |x::r,h=>by
  have h:(WShape.has R x .int&&WShape.hasItems R r .int)=true:=h;rw[eN] at h;refine kE (has_int h.1) λi bB=>?_;subst bB;refine kE (jg0 r h.2) λl bB=>?_;subst bB;exact⟨i::l,rfl⟩
theorem jrp(h:WShape.has R d (.list .int)=true):∃l:List Int,d=.list (l.map .int):=by
 cases d<;>first|exact(nomatch (show false=true from h))|skip
 have h:(WShape.hasItems R _ .int||false)=true:=h;rw[Jb] at h;refine kE (jg0 _ h) λl bB=>?_;subst bB;exact⟨l,rfl⟩
theorem jsd(h:BK.row.claim.pre args=true):∃l:List Int,args=[.list (l.map .int)]/\l.length<=63:=by
 have h:(WShape.hasAll [] args [.list .int]&&(OpenLaw.pre BK).holds [] {args:=args})=true:=h;rw[eN] at h;refine kA h λh1 h2=>?_
 match args,h1 with
 |[],h1=>exact(nomatch (show false=true from h1))
 |[d],h1=>
  have h1:(WShape.has [] d (.list .int)&&true)=true:=h1;rw[mF] at h1;refine kE (jrp h1) λl bB=>?_;subst bB;refine aW l rfl ?_;have h2:(WTm.and (WTm.not (WTm.lt (.lit (.int 63)) (.len (.arg 0)))) (.lit (.bool true))).holds [] {args:=[.list (l.map .int)]}=true:=h2;have e:WTm.value [] (WTm.not (WTm.lt (.lit (.int 63)) (.len (.arg 0)))) {args:=[.list (l.map .int)]}=some (.bool (!decide ((63:Int)<((l.map WData.int).length:Int)))):=⋯
  unfold WTm.holds at h2;rw[WTm.value,e] at h2;cases hd:decide ((63:Int)<((l.map WData.int).length:Int)) with
  |true=>rw[hd] at h2;exact nf h2
  |false=>
   have:=of_decide_eq_false hd;rw[bH] at this;omega
 |x::y::r,h1=>
  have h1:(WShape.has [] x (.list .int)&&false)=true:=h1;rw[xj] at h1;exact nf h1
theorem jzK:BK.wellSaid=true:=⋯
theorem jrr:Gw w0:=by
 intro w s0 s₁ mg mb G y fa o pm cd doc dV kV ho hd hcd hD hmg hg args vals as L hpre hlay hrd hwl hlo;obtain rfl:w=w0:=Eq.mp (aU Prod.snd y) lz;have y:s0.heap=V.h₀:=aU (·.1.1) y;obtain⟨l,rfl,hl⟩:=jsd hpre;refine aH L.laid λord Z hlaid=>?_;refine eV (lay_ints (R:=BK.row.records) (cl:=classAt s0.heap) (P:=w0.params) (ord:=ord) (C:=λZ=>True) (h:=s₁.heap) l s0) λvs t h1 h2=>?_;simp only[layAllW,layW,h1,Option.some.injEq,Prod.mk.injEq] at hlaid;obtain⟨rfl,rfl⟩:=hlaid;have hk:∀b o,V.h₀.get? b=some o->(s0.heap.push {cls:=.type "list",data:=.seq vs.toArray}).get? b=some o:=λb o hb=>fO _ (by rw[y];exact hb);have hfa:fa=336:=by
  refine aH jvY λmg' hm' hv=>?_;have e:=jw4 (hm'.keeps hk) G.T.g;have e2:mg ("law":Str)=some (.ref fa):=hmg;rw[←e ("law":Str)] at e2;rcases hv with hv|⟨hv,_⟩
  ·rw[hv] at e2;cases e2;rfl
  ·rw[hv] at e2;exact nn e2
 subst hfa;have hh:Here (λZ=>True) {s0 with heap:=s0.heap.push {cls:=.type "list",data:=.seq vs.toArray},toks:=t}:=⟨hk,λZ Z=>lz,.of_eq hg⟩;have hv:VR (λZ=>True) (s0.heap.push {cls:=.type "list",data:=.seq vs.toArray}) (.lst (l.map .int)) (.ref s0.heap.objs.size):=.lst lz (.new _ _) h2;refine tmo (jrJ (A:=callerA) ⟨rfl,∅,∅⟩ rfl hh hl hv) (λu s' q=>?_) λZ Z f=>f.elim;obtain⟨rfl,e⟩:=q;refine jh (.inl (Qy (.bool true) (.bool true) ([]) rfl (λZ=>rfl) (.bool true) ⋯ (λZ=>⟨List.nodup_nil,λa ha=>(nomatch ha)⟩))) (.of_keep λb o hb=>aA.heap e hb) (aC.os e) (aC.bare e hh.bare)
theorem glue:BK.Holds:=by
 w_on
 refine holds_law jzK λsaid=>?_;refine holds_openX (d:=dL.1) (kwd:=dL.2) (q:=BJ) (loose:=Gv) (Xt:=λZ=>true) (XP:=λZ Z=>True) (Yf:=λs=>(s.heap,s.toks)) (Ya:=λw=>(uC w.params,2697)) (N:=300000) left (λZ Z=>lz) (λZ Z Z Z Z=>lz) ⋯ ⋯ ⋯ (λZ Z=>recFacts_nil rfl) rfl (by first|assumption|decide+kernel) (by decide+kernel) ⟨rfl,rfl,rfl,rfl,rfl,by decide+kernel⟩ ?hw ?hc
 case hw=>w_witness2
 case hc=>exact λw s0 s₁ mg mb G y=>jot jrr w w s0 s₁ mg mb G (Prod.ext y (eq_true rfl).symm)
end
end Mine.Internal
theorem PySem.Challenge.cw_ta0117_01_holds : PySem.Challenge.rw_ta0117_01.Holds :=
  Mine.Internal.glue
