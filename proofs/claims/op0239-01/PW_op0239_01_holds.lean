import PyProof.Rows.All
import Wide.All
import OpenK.AllK
import Wide.FinOn
import PySem.Challenge.RW_op0239_01
set_option Elab.async false
set_option maxRecDepth 100000
set_option maxHeartbeats 0
set_option linter.unusedVariables false
set_option genSizeOf false
set_option genInjectivity false
set_option bootstrap.genMatcherCode false
set_option compiler.extract_closed false
namespace lp
open PySem.Heap List Option
open PySem PySem.W PyProof.Rows
abbrev aH:=@wpAny_bind
abbrev cm:=@List.getElem?_eq_getElem
abbrev bT:=@Option.some.inj
abbrev b9:=@List.mem_append_right
abbrev c7:=@List.getD_eq_getElem?_getD
abbrev b6:=@List.mem_append_left
abbrev bu:=@wpAny_pure
abbrev aI:=@if_neg
abbrev d5:=@decide_eq_true_iff
abbrev bO:=@List.length_map
abbrev b8:=@List.not_mem_nil
abbrev cM:=@List.mem_cons_self
abbrev dZ:=@Heap.get?_push_of_some
abbrev aQ:=@if_pos
abbrev eF:=@beq_eq_false_iff_ne
abbrev dc:=@Heap.get?_push_size
abbrev cQ:=@List.mem_singleton
abbrev ej:=@of_decide_eq_true
abbrev gc:=@Nat.le_of_ble_eq_true
abbrev ey:=@List.mem_cons_of_mem
abbrev c0:=@Nat.zero_le
abbrev fX:=@List.mem_map_of_mem
abbrev bI:=@List.mem_cons
abbrev eu:=@decide_eq_true
abbrev fN:=@slot_list_getitem
abbrev eW:=@List.mem_of_getElem?
abbrev di:=@List.lookup_cons
abbrev bA:=@List.mem_map
abbrev dX:=@List.map_map
abbrev dJ:=@List.length_cons
abbrev eb:=@List.getElem?_map
abbrev ei:=@Nat.le_trans
abbrev dk:=@List.mem_append
abbrev ea:=@Nat.le_refl
abbrev gW:=@beq_self_eq_true
abbrev dV:=@wpAny_mono
abbrev kG:=@List.getElem?_eq_some_iff
abbrev g8:=@List.any_eq_true
abbrev fB:=@List.length_append
abbrev jC:=@List.filter_eq_nil_iff
abbrev dY:=@List.map_append
abbrev fY:=@wpAny_holding
abbrev ew:=@List.mem_filter
abbrev iq:=@wpAny_newObj_type
abbrev g7:=@List.map_congr_left
abbrev lb:=@Calls.callWith_builtin
abbrev iP:=@List.all_eq_true
abbrev h7:=@Option.map_eq_some_iff
abbrev fM:=@List.filter_cons
abbrev gL:=@List.nodup_append
abbrev i9:=@Bool.and_eq_true
abbrev k7:=@Bool.and_eq_true_iff
abbrev nk:=@Option.isSome_iff_exists
abbrev mr:=@builtinLookup_eq_fast
abbrev k5:=@List.pairwise_cons
abbrev kE:=@List.take_of_length_le
abbrev gz:=@beq_iff_eq
abbrev hO:=@List.take_add_one
abbrev eE:=@List.map_cons
abbrev h8:=@List.append_assoc
abbrev gM:=@List.foldl_cons
abbrev iu:=@List.foldl_append
abbrev k6:=@Nat.lt_succ_self
abbrev i7:=@List.append_of_mem
abbrev lS:=@Calls.spliced_nil
abbrev lP:=@Nat.le_of_succ_le
abbrev j6:=@List.mem_range
abbrev k4:=@Nat.not_lt_zero
abbrev mu:=@wpAny_truthy_bool
abbrev mv:=@wpAny_Call_method
abbrev mm:=@List.size_toArray
abbrev mn:=@slot_dict_getitem
abbrev j7:=@List.filter_append
abbrev nq:=@Int.natCast_nonneg
theorem fh{b:Prop}(h:∀G:Prop,(b->G)->G):b:=h b id
variable {A:Around} {E c6 Q:Value->Shared->Prop} {s s' b2 s₀ au aL:Shared}
theorem oK{α:Type}{M:Model}{x:Sem α}{Q:α->Shared->Prop}(h:∀cJ:α->Shared->Prop,(∀v t,Q v t->cJ v t)->wpAny M A x cJ E s):wpAny M A x Q E s:=h Q λ_ _ q=>q
theorem jH{α:Sort fj}{motive:α->Prop}(x:α)(h:∀y,motive y):motive x:=h x
theorem tu{α:Type}{M:Model}{x:Sem α}{Q:α->Shared->Prop}(h:∀E:Value->Shared->Prop,wpAny M A x Q E s):wpAny M A x Q E s:=h E
theorem bH{x a b:Nat}(h:x<=a)(k:Nat.ble a b=true):x<=b:=ei h (gc k)
theorem o2{x a b:Nat}(h:x<=a)(k:Nat.ble (a+1) b=true):x < b:=Nat.lt_of_le_of_lt h (gc k)
theorem Hd{x a b:Nat}(h:x < a)(k:Nat.ble a b=true):x < b:=Nat.lt_of_lt_of_le h (gc k)
theorem aE{P Q:Prop}{G:Prop}(h:P/\Q)(k:P->Q->G):G:=k h.1 h.2
theorem cB{P Q R:Prop}{G:Prop}(h:P/\Q/\R)(k:P->Q->R->G):G:=k h.1 h.2.1 h.2.2
theorem eR{P Q R S:Prop}{G:Prop}(h:P/\Q/\R/\S)(k:P->Q->R->S->G):G:=k h.1 h.2.1 h.2.2.1 h.2.2.2
theorem F9{P Q R S T:Prop}{G:Prop}(h:P/\Q/\R/\S/\T)(k:P->Q->R->S->T->G):G:=k h.1 h.2.1 h.2.2.1 h.2.2.2.1 h.2.2.2.2
theorem uT{P Q R S T eV:Prop}{G:Prop}(h:P/\Q/\R/\S/\T/\eV)(k:P->Q->R->S->T->eV->G):G:=k h.1 h.2.1 h.2.2.1 h.2.2.2.1 h.2.2.2.2.1 h.2.2.2.2.2
theorem aP{α:Sort fj}{P:α->Prop}{G:Prop}(h:∃a,P a)(k:∀a,P a->G):G:=h.elim λa h=>k a h
theorem ah{α:Sort fj}{P Q:α->Prop}{G:Prop}(h:∃a,P a/\Q a)(k:∀a,P a->Q a->G):G:=h.elim λa h=>k a h.1 h.2
theorem dK{α:Sort fj}{P Q R:α->Prop}{G:Prop}(h:∃a,P a/\Q a/\R a)(k:∀a,P a->Q a->R a->G):G:=h.elim λa h=>k a h.1 h.2.1 h.2.2
theorem iD{α:Sort fj}{P Q R S:α->Prop}{G:Prop}(h:∃a,P a/\Q a/\R a/\S a)(k:∀a,P a->Q a->R a->S a->G):G:=h.elim λa h=>k a h.1 h.2.1 h.2.2.1 h.2.2.2
theorem nI{α:Sort fj}{P Q R S T:α->Prop}{G:Prop}(h:∃a,P a/\Q a/\R a/\S a/\T a)(k:∀a,P a->Q a->R a->S a->T a->G):G:=h.elim λa h=>k a h.1 h.2.1 h.2.2.1 h.2.2.2.1 h.2.2.2.2
theorem te{α:Sort fj}{P Q R S T eV:α->Prop}{G:Prop}(h:∃a,P a/\Q a/\R a/\S a/\T a/\eV a)(k:∀a,P a->Q a->R a->S a->T a->eV a->G):G:=h.elim λa h=>k a h.1 h.2.1 h.2.2.1 h.2.2.2.1 h.2.2.2.2.1 h.2.2.2.2.2
theorem Gn{α:Sort fj}{P Q R S T eV V:α->Prop}{G:Prop}(h:∃a,P a/\Q a/\R a/\S a/\T a/\eV a/\V a)(k:∀a,P a->Q a->R a->S a->T a->eV a->V a->G):G:=h.elim λa h=>k a h.1 h.2.1 h.2.2.1 h.2.2.2.1 h.2.2.2.2.1 h.2.2.2.2.2.1 h.2.2.2.2.2.2
theorem FK{α:Sort fj}{P Q R S T eV V X Y Z:α->Prop}{G:Prop}(h:∃a,P a/\Q a/\R a/\S a/\T a/\eV a/\V a/\X a/\Y a/\Z a)(k:∀a,P a->Q a->R a->S a->T a->eV a->V a->X a->Y a->Z a->G):G:=h.elim λa h=>k a h.1 h.2.1 h.2.2.1 h.2.2.2.1 h.2.2.2.2.1 h.2.2.2.2.2.1 h.2.2.2.2.2.2.1 h.2.2.2.2.2.2.2.1 h.2.2.2.2.2.2.2.2.1 h.2.2.2.2.2.2.2.2.2
theorem cn{α:Sort fj}{β:Sort hl}{P:α->β->Prop}{G:Prop}(h:∃a b,P a b)(k:∀a b,P a b->G):G:=h.elim λa h=>h.elim λb h=>k a b h
theorem dP{α:Sort fj}{β:Sort hl}{P Q:α->β->Prop}{G:Prop}(h:∃a b,P a b/\Q a b)(k:∀a b,P a b->Q a b->G):G:=h.elim λa h=>h.elim λb h=>k a b h.1 h.2
theorem bj{α:Sort fj}{β:Sort hl}{P Q R:α->β->Prop}{G:Prop}(h:∃a b,P a b/\Q a b/\R a b)(k:∀a b,P a b->Q a b->R a b->G):G:=h.elim λa h=>h.elim λb h=>k a b h.1 h.2.1 h.2.2
theorem iC{α:Sort fj}{β:Sort hl}{P Q R S:α->β->Prop}{G:Prop}(h:∃a b,P a b/\Q a b/\R a b/\S a b)(k:∀a b,P a b->Q a b->R a b->S a b->G):G:=h.elim λa h=>h.elim λb h=>k a b h.1 h.2.1 h.2.2.1 h.2.2.2
theorem ta{α:Sort fj}{β:Sort hl}{P Q R S T:α->β->Prop}{G:Prop}(h:∃a b,P a b/\Q a b/\R a b/\S a b/\T a b)(k:∀a b,P a b->Q a b->R a b->S a b->T a b->G):G:=h.elim λa h=>h.elim λb h=>k a b h.1 h.2.1 h.2.2.1 h.2.2.2.1 h.2.2.2.2
theorem GO{α:Sort fj}{β:Sort hl}{P Q R S T eV:α->β->Prop}{G:Prop}(h:∃a b,P a b/\Q a b/\R a b/\S a b/\T a b/\eV a b)(k:∀a b,P a b->Q a b->R a b->S a b->T a b->eV a b->G):G:=h.elim λa h=>h.elim λb h=>k a b h.1 h.2.1 h.2.2.1 h.2.2.2.1 h.2.2.2.2.1 h.2.2.2.2.2
theorem AE{α:Sort fj}{β:Sort hl}{P Q R S T eV V X:α->β->Prop}{G:Prop}(h:∃a b,P a b/\Q a b/\R a b/\S a b/\T a b/\eV a b/\V a b/\X a b)(k:∀a b,P a b->Q a b->R a b->S a b->T a b->eV a b->V a b->X a b->G):G:=h.elim λa h=>h.elim λb h=>k a b h.1 h.2.1 h.2.2.1 h.2.2.2.1 h.2.2.2.2.1 h.2.2.2.2.2.1 h.2.2.2.2.2.2.1 h.2.2.2.2.2.2.2
theorem u6{α:Sort fj}{β:Sort hl}{fe:Sort jP}{P Q:α->β->fe->Prop}{G:Prop}(h:∃a b c,P a b c/\Q a b c)(k:∀a b c,P a b c->Q a b c->G):G:=h.elim λa h=>h.elim λb h=>h.elim λc h=>k a b c h.1 h.2
theorem gA{α:Sort fj}{β:Sort hl}{fe:Sort jP}{P Q R:α->β->fe->Prop}{G:Prop}(h:∃a b c,P a b c/\Q a b c/\R a b c)(k:∀a b c,P a b c->Q a b c->R a b c->G):G:=h.elim λa h=>h.elim λb h=>h.elim λc h=>k a b c h.1 h.2.1 h.2.2
theorem cg{α:Sort fj}{β:Sort hl}{fe:Sort jP}{P Q R S:α->β->fe->Prop}{G:Prop}(h:∃a b c,P a b c/\Q a b c/\R a b c/\S a b c)(k:∀a b c,P a b c->Q a b c->R a b c->S a b c->G):G:=h.elim λa h=>h.elim λb h=>h.elim λc h=>k a b c h.1 h.2.1 h.2.2.1 h.2.2.2
theorem iS{α:Sort fj}{β:Sort hl}{fe:Sort jP}{P Q R S T:α->β->fe->Prop}{G:Prop}(h:∃a b c,P a b c/\Q a b c/\R a b c/\S a b c/\T a b c)(k:∀a b c,P a b c->Q a b c->R a b c->S a b c->T a b c->G):G:=h.elim λa h=>h.elim λb h=>h.elim λc h=>k a b c h.1 h.2.1 h.2.2.1 h.2.2.2.1 h.2.2.2.2
theorem F6{α:Sort fj}{β:Sort hl}{fe:Sort jP}{P Q R S T eV:α->β->fe->Prop}{G:Prop}(h:∃a b c,P a b c/\Q a b c/\R a b c/\S a b c/\T a b c/\eV a b c)(k:∀a b c,P a b c->Q a b c->R a b c->S a b c->T a b c->eV a b c->G):G:=h.elim λa h=>h.elim λb h=>h.elim λc h=>k a b c h.1 h.2.1 h.2.2.1 h.2.2.2.1 h.2.2.2.2.1 h.2.2.2.2.2
theorem RH{α:Sort fj}{β:Sort hl}{fe:Sort jP}{hp:Sort mK}{P:α->β->fe->hp->Prop}{G:Prop}(h:∃a b c d,P a b c d)(k:∀a b c d,P a b c d->G):G:=h.elim λa h=>h.elim λb h=>h.elim λc h=>h.elim λd h=>k a b c d h
theorem xD{α:Sort fj}{β:Sort hl}{fe:Sort jP}{hp:Sort mK}{P Q:α->β->fe->hp->Prop}{G:Prop}(h:∃a b c d,P a b c d/\Q a b c d)(k:∀a b c d,P a b c d->Q a b c d->G):G:=h.elim λa h=>h.elim λb h=>h.elim λc h=>h.elim λd h=>k a b c d h.1 h.2
theorem vg{α:Sort fj}{β:Sort hl}{fe:Sort jP}{hp:Sort mK}{P Q R:α->β->fe->hp->Prop}{G:Prop}(h:∃a b c d,P a b c d/\Q a b c d/\R a b c d)(k:∀a b c d,P a b c d->Q a b c d->R a b c d->G):G:=h.elim λa h=>h.elim λb h=>h.elim λc h=>h.elim λd h=>k a b c d h.1 h.2.1 h.2.2
theorem xt{α:Sort fj}{β:Sort hl}{fe:Sort jP}{hp:Sort mK}{P Q R S:α->β->fe->hp->Prop}{G:Prop}(h:∃a b c d,P a b c d/\Q a b c d/\R a b c d/\S a b c d)(k:∀a b c d,P a b c d->Q a b c d->R a b c d->S a b c d->G):G:=h.elim λa h=>h.elim λb h=>h.elim λc h=>h.elim λd h=>k a b c d h.1 h.2.1 h.2.2.1 h.2.2.2
theorem GK{α:Sort fj}{β:Sort hl}{fe:Sort jP}{hp:Sort mK}{P Q R S T:α->β->fe->hp->Prop}{G:Prop}(h:∃a b c d,P a b c d/\Q a b c d/\R a b c d/\S a b c d/\T a b c d)(k:∀a b c d,P a b c d->Q a b c d->R a b c d->S a b c d->T a b c d->G):G:=h.elim λa h=>h.elim λb h=>h.elim λc h=>h.elim λd h=>k a b c d h.1 h.2.1 h.2.2.1 h.2.2.2.1 h.2.2.2.2
theorem Rw{α:Sort fj}{β:Sort hl}{fe:Sort jP}{hp:Sort mK}{P Q R S T eV V X Y:α->β->fe->hp->Prop}{G:Prop}(h:∃a b c d,P a b c d/\Q a b c d/\R a b c d/\S a b c d/\T a b c d/\eV a b c d/\V a b c d/\X a b c d/\Y a b c d)(k:∀a b c d,P a b c d->Q a b c d->R a b c d->S a b c d->T a b c d->eV a b c d->V a b c d->X a b c d->Y a b c d->G):G:=h.elim λa h=>h.elim λb h=>h.elim λc h=>h.elim λd h=>k a b c d h.1 h.2.1 h.2.2.1 h.2.2.2.1 h.2.2.2.2.1 h.2.2.2.2.2.1 h.2.2.2.2.2.2.1 h.2.2.2.2.2.2.2.1 h.2.2.2.2.2.2.2.2
theorem xu{α:Sort fj}{β:Sort hl}{fe:Sort jP}{hp:Sort mK}{nc:Sort vF}{P Q R S:α->β->fe->hp->nc->Prop}{G:Prop}(h:∃a b c d e,P a b c d e/\Q a b c d e/\R a b c d e/\S a b c d e)(k:∀a b c d e,P a b c d e->Q a b c d e->R a b c d e->S a b c d e->G):G:=h.elim λa h=>h.elim λb h=>h.elim λc h=>h.elim λd h=>h.elim λe h=>k a b c d e h.1 h.2.1 h.2.2.1 h.2.2.2
theorem GA{α:Sort fj}{β:Sort hl}{fe:Sort jP}{hp:Sort mK}{nc:Sort vF}{P Q R S T:α->β->fe->hp->nc->Prop}{G:Prop}(h:∃a b c d e,P a b c d e/\Q a b c d e/\R a b c d e/\S a b c d e/\T a b c d e)(k:∀a b c d e,P a b c d e->Q a b c d e->R a b c d e->S a b c d e->T a b c d e->G):G:=h.elim λa h=>h.elim λb h=>h.elim λc h=>h.elim λd h=>h.elim λe h=>k a b c d e h.1 h.2.1 h.2.2.1 h.2.2.2.1 h.2.2.2.2
theorem P6{α:Sort fj}{β:Sort hl}{fe:Sort jP}{hp:Sort mK}{nc:Sort vF}{P Q R S T eV:α->β->fe->hp->nc->Prop}{G:Prop}(h:∃a b c d e,P a b c d e/\Q a b c d e/\R a b c d e/\S a b c d e/\T a b c d e/\eV a b c d e)(k:∀a b c d e,P a b c d e->Q a b c d e->R a b c d e->S a b c d e->T a b c d e->eV a b c d e->G):G:=h.elim λa h=>h.elim λb h=>h.elim λc h=>h.elim λd h=>h.elim λe h=>k a b c d e h.1 h.2.1 h.2.2.1 h.2.2.2.1 h.2.2.2.2.1 h.2.2.2.2.2
theorem R6{α:Sort fj}{β:Sort hl}{fe:Sort jP}{hp:Sort mK}{nc:Sort vF}{P Q R S T eV V X:α->β->fe->hp->nc->Prop}{G:Prop}(h:∃a b c d e,P a b c d e/\Q a b c d e/\R a b c d e/\S a b c d e/\T a b c d e/\eV a b c d e/\V a b c d e/\X a b c d e)(k:∀a b c d e,P a b c d e->Q a b c d e->R a b c d e->S a b c d e->T a b c d e->eV a b c d e->V a b c d e->X a b c d e->G):G:=h.elim λa h=>h.elim λb h=>h.elim λc h=>h.elim λd h=>h.elim λe h=>k a b c d e h.1 h.2.1 h.2.2.1 h.2.2.2.1 h.2.2.2.2.1 h.2.2.2.2.2.1 h.2.2.2.2.2.2.1 h.2.2.2.2.2.2.2
theorem Qd{α:Sort fj}{β:Sort hl}{fe:Sort jP}{hp:Sort mK}{nc:Sort vF}{P Q R S T eV V X Y:α->β->fe->hp->nc->Prop}{G:Prop}(h:∃a b c d e,P a b c d e/\Q a b c d e/\R a b c d e/\S a b c d e/\T a b c d e/\eV a b c d e/\V a b c d e/\X a b c d e/\Y a b c d e)(k:∀a b c d e,P a b c d e->Q a b c d e->R a b c d e->S a b c d e->T a b c d e->eV a b c d e->V a b c d e->X a b c d e->Y a b c d e->G):G:=h.elim λa h=>h.elim λb h=>h.elim λc h=>h.elim λd h=>h.elim λe h=>k a b c d e h.1 h.2.1 h.2.2.1 h.2.2.2.1 h.2.2.2.2.1 h.2.2.2.2.2.1 h.2.2.2.2.2.2.1 h.2.2.2.2.2.2.2.1 h.2.2.2.2.2.2.2.2
theorem Pt{α:Sort fj}{β:Sort hl}{fe:Sort jP}{hp:Sort mK}{nc:Sort vF}{P Q R S T eV V X Y Z K:α->β->fe->hp->nc->Prop}{G:Prop}(h:∃a b c d e,P a b c d e/\Q a b c d e/\R a b c d e/\S a b c d e/\T a b c d e/\eV a b c d e/\V a b c d e/\X a b c d e/\Y a b c d e/\Z a b c d e/\K a b c d e)(k:∀a b c d e,P a b c d e->Q a b c d e->R a b c d e->S a b c d e->T a b c d e->eV a b c d e->V a b c d e->X a b c d e->Y a b c d e->Z a b c d e->K a b c d e->G):G:=h.elim λa h=>h.elim λb h=>h.elim λc h=>h.elim λd h=>h.elim λe h=>k a b c d e h.1 h.2.1 h.2.2.1 h.2.2.2.1 h.2.2.2.2.1 h.2.2.2.2.2.1 h.2.2.2.2.2.2.1 h.2.2.2.2.2.2.2.1 h.2.2.2.2.2.2.2.2.1 h.2.2.2.2.2.2.2.2.2.1 h.2.2.2.2.2.2.2.2.2.2
noncomputable abbrev hU(i:Nat):Stmt:=PySem.Challenge.pw_op0239_01.main.body.getD i (.Pass ⟨0,0,0,0⟩)
noncomputable abbrev mz(i j:Nat):Stmt:=match hU i with
 | .ClassDef _ _ _ body _ _ _ _ _ _ _=>body.getD j (.Pass ⟨0,0,0,0⟩)
 |s=>s
noncomputable abbrev fK(s:Stmt)(q:Str)(d:Value)(m:Str)(t:Tok)(c:Addr):Obj:=match s with
 | .FunctionDef name params body _ _ _ scope _ _ _=>{cls:= .type "function",data:= .func {name:=name,qualname:=q,params:=params,body:= .stmts body,scope:=scope,globals:=3,closure:=[],defaults:=d,kwdefaults:= .none,pyModule:= .str m t,code:= .ref c}}
 |_=>{cls:= .none,data:= .freed}
noncomputable abbrev iJ(n:Str)(t1:Tok)(q:Str)(fa t3:Tok)(eD gH kU yv yE:Int)(gT:Addr)(b:Bool)(Cj:Int)(fb jw Vm kq:Addr)(Ci CP:Int)(lH:Tok):Obj:=
 {cls:= .type "code",data:= .fields #[.str n t1,.str q fa,.str "/claim/cut.py" t3,.int eD 0,.int gH 0,.int kU 0,.int yv 0,.int yE 0,.ref gT,.bool b,.int Cj 0,.ref fb,.none,.ref jw,.ref Vm,.ref kq,.int Ci 0,.int CP 0,.str "/claim/cut.py" lH]}
noncomputable abbrev m3(n:Str)(t1:Tok)(q:Str)(fa t3:Tok)(eD gH kU yv yE:Int)(gT:Addr)(b:Bool)(Cj:Int)(fb kq:Addr)(Ci CP:Int)(lH:Tok):Obj:=
 {cls:= .type "code",data:= .fields #[.str n t1,.str q fa,.str "/claim/cut.py" t3,.int eD 0,.int gH 0,.int kU 0,.int yv 0,.int yE 0,.ref gT,.bool b,.int Cj 0,.ref fb,.none,.none,.none,.ref kq,.int Ci 0,.int CP 0,.str "/claim/cut.py" lH]}
noncomputable abbrev ck(P:Params)(x:Str)(t:Tok)(v:Value):DictEntry:={hash:=PyData.keyHash P x,key:= .str x t,val:=v}
noncomputable abbrev KK(P:Params):Frag:=[
 (2,{cls:= .none,data:= .dict #[ck P "\x69mport.loaded._sre" 183 (.bool true),ck P "class._frozen_importlib.BuiltinImporter" 185 (.ref 14),ck P "watched.\x69mport" 206 (.ref 18),ck P "class._frozen_importlib.ModuleSpec" 216 (.ref 22),ck P "sys.modules.booked-epoch" 245 (.int 3 0),ck P "\x69mport.later-laid._sre" 270 (.bool true),ck P "watched.library" 272 (.ref 27),ck P "watched.library-objects" 0 (.str "\x0c" 0),ck P "watched.library-deep._sre" 273 (.str "\x04\x00\x00\x0b\x04\x00\x00\x0b\x04\x00\x00\x03\x04\x00\x00\x0b\x08\x04dict\x02" 0)] 9}),
 (3,{cls:= .type "dict",data:= .dict #[ck P "__name__" 165 (.str "law_op0239_01" 549),ck P "__doc__" 166 .none,ck P "__package__" 167 .none,ck P "__loader__" 168 (.builtin "__main__.__loader__#opaque"),ck P "__spec__" 169 .none,ck P "__annotations__" 170 (.ref 6),ck P "__builtins__" 171 (.ref 4),ck P "__file__" 173 (.str "/claim/cut.py" 172),ck P "__cached__" 174 .none,ck P "_sre" 275 (.ref 12),ck P "_wall" 288 (.ref 38),ck P "IPV4_RE" 320 (.ref 43),ck P "is_HDN" 327 (.ref 50),ck P "domain_match" 336 (.ref 57),ck P "reach" 345 (.ref 64),ck P "_initial_missing" 348 (.ref 65),ck P "reduce" 360 (.ref 73),ck P "_c3_merge" 366 (.ref 78),ck P "_NODE_OUT" 371 (.int (-1) 370),ck P "_NODE_DONE" 374 (.int (-2) 373),ck P "_NodeInfo" 411 (.ref 97),ck P "CycleError" 429 (.ref 112),ck P "TopologicalSorter" 548 (.ref 194),ck P "_law_cells" 556 (.ref 203),ck P "_law_labels" 565 (.ref 210),ck P "_law_ladder" 571 (.ref 215),ck P "_law_climb" 578 (.ref 222),ck P "_law_prices" 590 (.ref 229),ck P "_law_fit" 596 (.ref 234),ck P "_law_ends" 607 (.ref 241),ck P "_law_run" 613 (.ref 246),ck P "_law_cut" 619 (.ref 251),ck P "_law_order" 625 (.ref 256),ck P "_law_least" 631 (.ref 261),ck P "_law_lay" 637 (.ref 266),ck P "law" 643 (.ref 271)] 36}),
 (37,iJ "_wall" 282 "_wall" 283 284 2 1 0 0 3 32 true 276 33 34 35 36 286 2 287),
 (38,fK (hU 1) "_wall" .none "__main__" 164 37),
 (42,{cls:= .type "tuple",data:= .seq #[.int 14 0,.int 8 0,.int 1 0,.int 2 0,.int 4294967295 0,.int 1 0,.int 1 0,.int 46 0,.int 0 0,.int 16 0,.int 46 0,.int 24 0,.int 9 0,.int 1 0,.int 4294967295 0,.int 13 0,.int 4 0,.int 8 0,.int 0 0,.int 0 0,.int 1 0,.int 6 0,.int 5 0,.int 1 0]}),
 (43,{cls:= .type "re.Pattern",data:= .fields #[.str "\\.\\d+$" 292,.int 256 319,.int 0 0,.none,.none,.ref 42,.int 0 0]}),
 (49,iJ "is_HDN" 321 "is_HDN" 322 323 7 1 0 0 3 44 true 276 45 46 47 48 325 7 326),
 (50,fK (hU 4) "is_HDN" .none "cpy313.http.cookiejar" 289 49),
 (56,iJ "domain_match" 328 "domain_match" 329 330 15 2 0 0 3 51 true 276 52 53 54 55 334 15 335),
 (57,fK (hU 5) "domain_match" .none "cpy313.http.cookiejar" 289 56),
 (63,iJ "reach" 337 "reach" 338 339 30 1 0 0 3 58 true 276 59 60 61 62 343 30 344),
 (64,fK (hU 6) "reach" .none "cpy313.http.cookiejar" 289 63),
 (65,{cls:= .type "object"}),
 (66,{cls:= .type "tuple",data:= .seq #[.ref 65]}),
 (72,iJ "reduce" 349 "reduce" 350 351 40 3 0 0 3 67 true 276 68 69 70 71 358 40 359),
 (73,fK (hU 9) "reduce" (.ref 66) "cpy313.functools" 346 72),
 (77,m3 "_c3_merge" 361 "_c3_merge" 362 363 52 1 0 0 3 74 true 276 75 76 364 52 365),
 (78,fK (hU 10) "_c3_merge" .none "cpy313.functools" 346 77),
 (92,iJ "__init__" 391 "_NodeInfo.__init__" 392 393 78 2 0 0 3 87 true 276 88 89 90 91 396 78 397),
 (93,fK (mz 14 1) "_NodeInfo.__init__" .none "cpy313.graphlib" 367 92),
 (96,{cls:= .type "dict",data:= .dict #[ck P "__module__" 382 (.str "cpy313.graphlib" 367),ck P "__firstlineno__" 386 (.int 75 385),ck P "__slots__" 390 (.ref 86),ck P "__init__" 398 (.ref 93),ck P "__static_attributes__" 402 (.ref 94),ck P "node" 404 (.ref 98),ck P "npredecessors" 406 (.ref 99),ck P "successors" 408 (.ref 100),ck P "__doc__" 409 .none] 5}),
 (97,{cls:= .type "type",data:= .cls {name:="_NodeInfo",bases:=[.type "object"],mro:=[.ref 97,.type "object"],ns:=96,qualname:="_NodeInfo",hasDict:=false,slotNames:=["node","npredecessors","successors"]},slots:= #[none,none,some (.str "_NodeInfo" 375),some (.str "_NodeInfo" 383),some (.builtin "object.__new__"),some (.bool false)]}),
 (98,{cls:= .type "member_descriptor",data:= .fields #[.str "node" 403,.ref 97,.builtin "proto.slot",.builtin "proto.slot#set",.int 2 0]}),
 (99,{cls:= .type "member_descriptor",data:= .fields #[.str "npredecessors" 405,.ref 97,.builtin "proto.slot",.builtin "proto.slot#set",.int 1 0]}),
 (100,{cls:= .type "member_descriptor",data:= .fields #[.str "successors" 407,.ref 97,.builtin "proto.slot",.builtin "proto.slot#set",.int 0 0]}),
 (103,{cls:= .type "tuple",data:= .seq #[.type "ValueError"]}),
 (123,{cls:= .type "tuple",data:= .seq #[.none]}),
 (129,iJ "__init__" 442 "TopologicalSorter.__init__" 443 444 86 2 0 0 3 124 true 276 125 126 127 128 449 86 450),
 (130,fK (mz 16 0) "TopologicalSorter.__init__" (.ref 123) "cpy313.graphlib" 367 129),
 (136,iJ "_get_nodeinfo" 452 "TopologicalSorter._get_nodeinfo" 453 454 95 2 0 0 3 131 true 276 132 133 134 135 458 95 459),
 (137,fK (mz 16 1) "TopologicalSorter._get_nodeinfo" .none "cpy313.graphlib" 367 136),
 (143,iJ "add" 461 "TopologicalSorter.add" 462 463 100 2 0 0 7 138 true 276 139 140 141 142 470 100 471),
 (144,fK (mz 16 2) "TopologicalSorter.add" .none "cpy313.graphlib" 367 143),
 (148,m3 "prepare" 473 "TopologicalSorter.prepare" 474 475 109 1 0 0 3 145 true 276 146 147 476 109 477),
 (149,fK (mz 16 3) "TopologicalSorter.prepare" .none "cpy313.graphlib" 367 148),
 (155,iJ "get_ready" 479 "TopologicalSorter.get_ready" 480 481 117 1 0 0 3 150 true 276 151 152 153 154 486 117 487),
 (156,fK (mz 16 4) "TopologicalSorter.get_ready" .none "cpy313.graphlib" 367 155),
 (162,iJ "is_active" 489 "TopologicalSorter.is_active" 490 491 128 1 0 0 3 157 true 276 158 159 160 161 493 128 494),
 (163,fK (mz 16 5) "TopologicalSorter.is_active" .none "cpy313.graphlib" 367 162),
 (169,iJ "__bool__" 496 "TopologicalSorter.__bool__" 497 498 133 1 0 0 3 164 true 276 165 166 167 168 500 133 501),
 (170,fK (mz 16 6) "TopologicalSorter.__bool__" .none "cpy313.graphlib" 367 169),
 (176,iJ "done" 503 "TopologicalSorter.done" 504 505 136 1 0 0 7 171 true 276 172 173 174 175 514 136 515),
 (177,fK (mz 16 7) "TopologicalSorter.done" .none "cpy313.graphlib" 367 176),
 (183,iJ "_find_cycle" 517 "TopologicalSorter._find_cycle" 518 519 159 1 0 0 3 178 true 276 179 180 181 182 527 159 528),
 (184,fK (mz 16 8) "TopologicalSorter._find_cycle" .none "cpy313.graphlib" 367 183),
 (190,iJ "static_order" 530 "TopologicalSorter.static_order" 531 532 188 1 0 0 3 185 true 276 186 187 188 189 534 188 535),
 (191,fK (mz 16 9) "TopologicalSorter.static_order" .none "cpy313.graphlib" 367 190),
 (193,{cls:= .type "dict",data:= .dict #[ck P "__module__" 437 (.str "cpy313.graphlib" 367),ck P "__firstlineno__" 441 (.int 84 440),ck P "__init__" 451 (.ref 130),ck P "_get_nodeinfo" 460 (.ref 137),ck P "add" 472 (.ref 144),ck P "prepare" 478 (.ref 149),ck P "get_ready" 488 (.ref 156),ck P "is_active" 495 (.ref 163),ck P "__bool__" 502 (.ref 170),ck P "done" 516 (.ref 177),ck P "_find_cycle" 529 (.ref 184),ck P "static_order" 536 (.ref 191),ck P "__static_attributes__" 541 (.ref 192),ck P "__dict__" 543 (.ref 195),ck P "__weakref__" 545 (.ref 196),ck P "__doc__" 546 .none] 4}),
 (194,{cls:= .type "type",data:= .cls {name:="TopologicalSorter",bases:=[.type "object"],mro:=[.ref 194,.type "object"],ns:=193,qualname:="TopologicalSorter"},slots:= #[none,none,some (.str "TopologicalSorter" 430),some (.str "TopologicalSorter" 438),some (.builtin "object.__new__"),some (.bool true)]}),
 (202,m3 "_law_cells" 551 "_law_cells" 552 553 191 1 0 0 3 199 true 276 200 201 554 191 555),
 (203,fK (hU 18) "_law_cells" .none "law_op0239_01" 549 202),
 (209,iJ "_law_labels" 557 "_law_labels" 558 559 193 1 0 0 3 204 true 276 205 206 207 208 563 193 564),
 (210,fK (hU 19) "_law_labels" .none "law_op0239_01" 549 209),
 (214,m3 "_law_ladder" 566 "_law_ladder" 567 568 199 1 0 0 3 211 true 276 212 213 569 199 570),
 (215,fK (hU 20) "_law_ladder" .none "law_op0239_01" 549 214),
 (221,iJ "_law_climb" 572 "_law_climb" 573 574 202 1 0 0 3 216 true 276 217 218 219 220 576 202 577),
 (222,fK (hU 21) "_law_climb" .none "law_op0239_01" 549 221),
 (228,iJ "_law_prices" 579 "_law_prices" 580 581 204 2 0 0 3 223 true 276 224 225 226 227 588 204 589),
 (229,fK (hU 22) "_law_prices" .none "law_op0239_01" 549 228),
 (233,m3 "_law_fit" 591 "_law_fit" 592 593 210 2 0 0 3 230 true 276 231 232 594 210 595),
 (234,fK (hU 23) "_law_fit" .none "law_op0239_01" 549 233),
 (240,iJ "_law_ends" 597 "_law_ends" 598 599 213 1 0 0 3 235 true 276 236 237 238 239 605 213 606),
 (241,fK (hU 24) "_law_ends" .none "law_op0239_01" 549 240),
 (245,m3 "_law_run" 608 "_law_run" 609 610 220 1 0 0 3 242 true 276 243 244 611 220 612),
 (246,fK (hU 25) "_law_run" .none "law_op0239_01" 549 245),
 (250,m3 "_law_cut" 614 "_law_cut" 615 616 234 1 0 0 3 247 true 276 248 249 617 234 618),
 (251,fK (hU 26) "_law_cut" .none "law_op0239_01" 549 250),
 (255,m3 "_law_order" 620 "_law_order" 621 622 242 2 0 0 3 252 true 276 253 254 623 242 624),
 (256,fK (hU 27) "_law_order" .none "law_op0239_01" 549 255),
 (260,m3 "_law_least" 626 "_law_least" 627 628 246 3 0 0 3 257 true 276 258 259 629 246 630),
 (261,fK (hU 28) "_law_least" .none "law_op0239_01" 549 260),
 (265,m3 "_law_lay" 632 "_law_lay" 633 634 258 2 0 0 3 262 true 276 263 264 635 258 636),
 (266,fK (hU 29) "_law_lay" .none "law_op0239_01" 549 265),
 (270,m3 "law" 638 "law" 639 640 261 1 0 0 3 267 true 276 268 269 641 261 642),
 (271,fK (hU 30) "law" .none "law_op0239_01" 549 270)]
noncomputable abbrev Vl:List Addr:=[2,3,37,38,42,43,49,50,56,57,63,64,65,66,72,73,77,78,92,93,96,97,98,99,100,103,123,129,130,136,137,143,144,148,149,155,156,162,163,169,170,176,177,183,184,190,191,193,194,202,203,209,210,214,215,221,222,228,229,233,234,240,241,245,246,250,251,255,256,260,261,265,266,270,271]
noncomputable abbrev m9:Program:={PySem.Challenge.pw_op0239_01 with main:={PySem.Challenge.pw_op0239_01.main with body:=[0,1,3,4,5,6,8,10,12,13,14,15,16,18,19,20,21,22,23,24,25,26,27,28,29,30].map hU}}
noncomputable abbrev loose:List Str:=["IPV4_RE","_initial_missing","reduce","_NodeInfo"]
noncomputable abbrev pq:Hook:=kmHook KK Vl (λ_=>by kernel_rfl) [253,217]
theorem O5:LeftO PySem.Challenge.rw_op0239_01.row.toRowW.prog m9 loose (λs=>xlAt m9 [] s&&recOk (RowW.records PySem.Challenge.rw_op0239_01.row.toRowW) s) (Hook.obs pq) (Hook.val pq) 3492:=by
 intro w;kernel_rfl
theorem PH:PySem.Challenge.rw_op0239_01.wellSaid=true:=by kernel_rfl
theorem VR(h:∀d vj,defOf m9 PySem.Challenge.rw_op0239_01.row.name=some (d,vj)->WalkO m9 loose (XL m9 []) (Hook.says pq) PySem.Challenge.rw_op0239_01.row.toRowW d vj λf vs=>PySem.call f vs):PySem.Challenge.rw_op0239_01.Holds:=by
 w_on
 refine holds_law PH λVX=>?_;refine holds_open (q:=m9) (loose:=loose) (Xt:=λs=>xlAt m9 [] s&&recOk (RowW.records PySem.Challenge.rw_op0239_01.row.toRowW) s) (XP:=XL m9 []) (Yf:=Hook.obs pq) (Ya:=Hook.val pq) (YP:=Hook.says pq) (N:=3492) O5 (Hook.of pq) (Hook.keeps pq) (λs e=>xl_of s (k7.mp e).1) XL.keeps (by rfl) (by rfl) (by rfl) (λs e=>recFacts_of (k7.mp e).2) (by rfl) (by first |assumption |decide+kernel) (by decide+kernel) ⟨rfl,rfl,rfl,rfl,rfl,by decide+kernel⟩ ?hw ?U
 case hw=>w_witness2
 case U=>exact h _ _ rfl
local macro_rules | `(tactic|walk_at"o")=> `(tactic|first
 |(with_reducible first
  |assumption
  |exact bH (a:=OfNat.ofNat _) (by assumption) rfl
  |exact o2 (a:=OfNat.ofNat _) (by assumption) rfl
  |exact Hd (a:=OfNat.ofNat _) (by assumption) rfl
  |exact gc rfl
  |exact Nat.le_of_lt (by assumption))
 |((with_reducible repeat (first |(rename Exists _=>dt;clear dt) |(rename ∀_,_=>dt;clear dt) |(rename @Eq (_->_) _ _=>dt;clear dt)));lia) |lia |omega)
def cc(b:Addr):Prop:=b=217\/b=253
noncomputable abbrev KF(w:World):Frag:=KK w.params
inductive ak where
 |none
 |bool (b:Bool)
 |int (i:Int)
 |str (x:Str)
 |list (l:List ak)
 |tup (l:List ak)
 |dict (ks:List Str) (l:List ak)
 |val (v:Value)
 |bw (l:List ak)
 |eP (ks:List Str) (l:List ak)
 |obj (T:String)
 |hj (a b c:Int)
 |lam (P:FuncData->Prop)
def rd(cP:Obj)(q:Str):Prop:=cP.cls= .type "code"/\∃vs t,cP.data= .fields vs/\vs[1]? =some (.str q t)
def KeysAre(w:World):List Str->List DictEntry->Prop
 |[],es=>es=[]
 |k::ks,es=>∃e r,es=e::r/\(∃t,e.key= .str k t)/\e.hash=hashStr w k/\KeysAre w ks r
mutual
def a6(w:World)(h:Heap)(W:Addr->Prop):ak->Value->Prop
 | .none,v=>v= .none
 | .bool b,v=>v= .bool b
 | .int i,v=>∃t,v= .int i t
 | .str x,v=>∃t,v= .str x t
 | .list l,v=>∃a vs n,v= .ref a/\¬W a/\h.get? a=some {cls:= .type "list",data:= .seq ⟨vs⟩ n}/\bJ w h W l vs
 | .tup l,v=>∃a vs n,v= .ref a/\¬W a/\h.get? a=some {cls:= .type "tuple",data:= .seq ⟨vs⟩ n}/\bJ w h W l vs
 | .dict ks l,v=>∃a es n,v= .ref a/\¬W a/\h.get? a=some {cls:= .type "dict",data:= .dict ⟨es⟩ n}/\(KeysAre w ks es/\ks.Nodup/\(a==sysModules)=false)/\bJ w h W l (es.map (·.val))
 | .val u,v=>v=u
 | .bw l,v=>∃a vs n,v= .ref a/\W a/\h.get? a=some {cls:= .type "list",data:= .seq ⟨vs⟩ n}/\bJ w h W l vs
 | .eP ks l,v=>∃a es n,v= .ref a/\W a/\h.get? a=some {cls:= .type "dict",data:= .dict ⟨es⟩ n}/\(KeysAre w ks es/\ks.Nodup/\(a==sysModules)=false)/\bJ w h W l (es.map (·.val))
 | .obj T,v=>∃a o,v= .ref a/\¬W a/\h.get? a=some o/\o.cls= .type T
 | .hj i j k,v=>∃a t u x,v= .ref a/\¬W a/\h.get? a=some {cls:= .type "range",data:= .fields #[.int i t,.int j u,.int k x]}
 | .lam P,v=>∃a o fd c cP,v= .ref a/\(¬W a/\h.get? a=some o/\o.cls= .type "function")/\(¬W c/\h.get? c=some cP/\rd cP fd.qualname)/\o.data= .func fd/\fd.code= .ref c/\P fd
def bJ(w:World)(h:Heap)(W:Addr->Prop):List ak->List Value->Prop
 |[],vs=>vs=[]
 |p::ps,vs=>∃v r,vs=v::r/\a6 w h W p v/\bJ w h W ps r
end
def Cm(h h':Heap):Prop:=∀b o,o.cls≠ .none->h.get? b=some o->h'.get? b=some o
theorem eN{t:String}:Value.type t≠Value.none:=λq=>by injection q
mutual
def cb:ak->Prop
 | .list l=>dB l
 | .tup l=>dB l
 | .dict _ l=>dB l
 | .bw _=>False
 | .eP _ _=>False
 |_=>True
def dB:List ak->Prop
 |[]=>True
 |p::ps=>cb p/\dB ps
end
mutual
theorem wR{w:World}{h h':Heap}{W W':Addr->Prop}{c:Prop}(k:∀b o,¬W b->o.cls≠ .none->h.get? b=some o->h'.get? b=some o/\¬W' b)(d:¬c->∀b o,W b->o.cls≠ .none->h.get? b=some o->h'.get? b=some o/\W' b):∀{p:ak} {v:Value},(c->cb p)->a6 w h W p v->a6 w h' W' p v
 | .none,_,_,x=>x
 | .bool _,_,_,x=>x
 | .int _,_,_,x=>x
 | .str _,_,_,x=>x
 | .val _,_,_,x=>x
 | .list _,_,f,x=>by
  refine cg x λa vs n e aA aj hs=>?_;exact⟨a,vs,n,e,(k _ _ aA eN aj).2,(k _ _ aA eN aj).1,pH k d f hs⟩
 | .tup _,_,f,x=>by
  refine cg x λa vs n e aA aj hs=>?_;exact⟨a,vs,n,e,(k _ _ aA eN aj).2,(k _ _ aA eN aj).1,pH k d f hs⟩
 | .dict _ _,_,f,x=>by
  refine iS x λa vs n e aA aj ar hs=>?_;exact⟨a,vs,n,e,(k _ _ aA eN aj).2,(k _ _ aA eN aj).1,ar,pH k d f hs⟩
 | .bw _,_,f,x=>by
  refine cg x λa vs n e aA aj hs=>?_;exact⟨a,vs,n,e,(d f _ _ aA eN aj).2,(d f _ _ aA eN aj).1,pH k d (λq=>(f q).elim) hs⟩
 | .eP _ _,_,f,x=>by
  refine iS x λa vs n e aA aj ar hs=>?_;exact⟨a,vs,n,e,(d f _ _ aA eN aj).2,(d f _ _ aA eN aj).1,ar,pH k d (λq=>(f q).elim) hs⟩
 | .obj _,_,_,x=>by
  refine iC x λa o e aA aj U=>?_;exact⟨a,o,e,(k _ _ aA (U▸eN) aj).2,(k _ _ aA (U▸eN) aj).1,U⟩
 | .hj _ _ _,_,_,z=>by
  refine vg z λa t u x e aA aj=>?_;exact⟨a,t,u,x,e,(k _ _ aA eN aj).2,(k _ _ aA eN aj).1⟩
 | .lam _,_,_,x=>by
  refine xu x λa o fd c cP e x y r=>?_;have U:=k _ _ x.1 (x.2.2▸eN) x.2.1;have fx:=k _ _ y.1 (y.2.2.1▸eN) y.2.1;exact⟨a,o,fd,c,cP,e,⟨U.2,U.1,x.2.2⟩,⟨fx.2,fx.1,y.2.2⟩,r⟩
theorem pH{w:World}{h h':Heap}{W W':Addr->Prop}{c:Prop}(k:∀b o,¬W b->o.cls≠ .none->h.get? b=some o->h'.get? b=some o/\¬W' b)(d:¬c->∀b o,W b->o.cls≠ .none->h.get? b=some o->h'.get? b=some o/\W' b):∀{p:List ak} {v:List Value},(c->dB p)->bJ w h W p v->bJ w h' W' p v
 |[],_,_,x=>x
 |_::_,_,f,z=>by
  refine bj z λv r e x y=>?_;exact⟨v,r,e,wR k d (λq=>(f q).1) x,pH k d (λq=>(f q).2) y⟩
end
variable {w:World} {h h' h₀ h₁:Heap} {dN aJ V W W' W₀:Addr->Prop}
theorem a6.mono(k:Cm h h'){p:ak}{v:Value}:a6 w h W p v->a6 w h' W p v:=
 wR (c:=False) (λb o n c e=>⟨k b o c e,n⟩) (λ_ b o n c e=>⟨k b o c e,n⟩) False.elim
theorem bJ.mono(k:Cm h h'){p:List ak}{v:List Value}:bJ w h W p v->bJ w h' W p v:=
 pH (c:=False) (λb o n c e=>⟨k b o c e,n⟩) (λ_ b o n c e=>⟨k b o c e,n⟩) False.elim
theorem a6.upd(k:∀b o,¬W b->o.cls≠ .none->h.get? b=some o->h'.get? b=some o/\¬W' b){p:ak}{v:Value}(f:cb p):a6 w h W p v->a6 w h' W' p v:=
 wR (c:=True) k (λq=>(q trivial).elim) λ_=>f
theorem bJ.upd(k:∀b o,¬W b->o.cls≠ .none->h.get? b=some o->h'.get? b=some o/\¬W' b){p:List ak}{v:List Value}(f:dB p):bJ w h W p v->bJ w h' W' p v:=
 pH (c:=True) k (λq=>(q trivial).elim) λ_=>f
theorem a6.chg(k:∀b o,o.cls≠ .none->h.get? b=some o->h'.get? b=some o/\(W b↔W' b)){p:ak}{v:Value}:a6 w h W p v->a6 w h' W' p v:=
 wR (c:=False) (λb o n c e=>⟨(k b o c e).1,λq=>n ((k b o c e).2.mpr q)⟩) (λ_ b o n c e=>⟨(k b o c e).1,(k b o c e).2.mp n⟩) False.elim
theorem bJ.len:∀{l:List ak} {vs:List Value},bJ w h W l vs->l.length=vs.length:=by
 intro ba;induction ba with
 |nil=>
  intro _ x;rw[show _=[] from x];rfl
 |cons _ _ aw=>
  intro _ r7;refine bj r7 λv r e _ y=>?_;rw[e,dJ,dJ,aw y]
theorem bJ.at:∀{l:List ak} {vs:List Value},bJ w h W l vs->∀{i:Nat} {p:ak},l[i]? =some p->∃v,vs[i]? =some v/\a6 w h W p v:=by
 intro l;induction l with
 |nil=>intro vs _ i p e;injection e
 |cons yF l aw=>
  intro vs x i p q;refine bj x λv r e x y=>?_;rcases i with _ |i
  ·obtain rfl:=bT q;exact⟨v,by rw[e];rfl,x⟩
  ·refine ah (aw y (i:=i) (p:=p) (by exact q)) λip ab ae=>?_;exact⟨ip,by rw[e];exact ab,ae⟩
theorem bJ.at':∀{l:List ak} {vs:List Value},bJ w h W l vs->∀{i:Nat} {v:Value},vs[i]? =some v->∃p,l[i]? =some p/\a6 w h W p v:=by
 intro l;induction l with
 |nil=>intro vs x i v e;rw[show _=[] from x] at e;injection e
 |cons p l aw=>
  intro vs x i u q;refine bj x λv r e x y=>?_;rw[e] at q;rcases i with _ |i
  ·obtain rfl:=bT q;exact⟨p,rfl,x⟩
  ·refine ah (aw y (i:=i) (v:=u) (by exact q)) λip ab ae=>?_;exact⟨ip,by exact ab,ae⟩
theorem bJ.app:∀{l l':List ak} {vs en:List Value},bJ w h W l vs->bJ w h W l' en->bJ w h W (l++l') (vs++en):=by
 intro ba;induction ba with
 |nil=>
  intro _ _ _ x y;rw[show _=[] from x];exact y
 |cons _ _ aw=>
  intro _ _ _ Sg z;refine bj Sg λv r e x y=>?_;rw[e];exact⟨v,_,rfl,x,aw y z⟩
theorem bJ.one{p:ak}{v:Value}(x:a6 w h W p v):bJ w h W [p] [v]:=⟨v,[],rfl,x,rfl⟩
def gy(h h':Heap):Prop:=∀b o,¬cc b->h.get? b=some o->h'.get? b=some o
theorem gy.refl(h:Heap):gy h h:=λ_ _ _ e=>e
theorem gy.trans{hy:Heap}(x:gy h h')(y:gy h' hy):gy h hy:=λb o I e=>y b o I (x b o I e)
theorem gy.of(k:∀b o,h.get? b=some o->h'.get? b=some o):gy h h':=λb o _ e=>k b o e
structure Ext (s s':Shared):Prop where
 same:∃h tk,s'={s with heap:=h,toks:=tk}
 keep:gy s.heap s'.heap
theorem Ext.refl(s:Shared):Ext s s:=⟨⟨s.heap,s.toks,rfl⟩,.refl _⟩
theorem Ext.trans(x:Ext s s')(y:Ext s' b2):Ext s b2:=by
 refine cn x.same λh tk aU=>?_;subst aU;refine cn y.same λh' oQ a7=>?_;subst a7;exact⟨⟨h',oQ,rfl⟩,x.keep.trans y.keep⟩
theorem Ext.tok(s:Shared)(tk:Nat):Ext s {s with toks:=tk}:=⟨⟨s.heap,tk,rfl⟩,.refl _⟩
variable {firstLine i n tk:Nat}
theorem Ext.keeps(k:∀b o,s.heap.get? b=some o->h.get? b=some o):Ext s {s with heap:=h,toks:=tk}:=⟨⟨h,tk,rfl⟩,.of k⟩
theorem Ext.push(s:Shared)(o:Obj):Ext s {s with heap:=s.heap.push o}:=⟨⟨_,_,rfl⟩,.of λ_ _ e=>dZ _ e⟩
def uI(h:Heap)(c:Addr)(q:Str):Prop:=∃o vs t,h.get? c=some o/\o.cls= .type "code"/\o.data= .fields vs/\vs[1]? =some (.str q t)
def w6(h:Heap)(a:Addr)(ps:Array Value):Prop:=
 ps= #[]\/∃c,(a=217/\ps= #[rawInt 203,rawInt 18,.ref c]/\uI h c "_law_climb.<locals>.<lambda>")\/(a=253/\ps= #[rawInt 245,rawInt 29,.ref c]/\uI h c "_law_order.<locals>.<lambda>")
theorem w6.of{a:Addr}{ps:Array Value}(k:∀b o,o.cls= .type "code"->h.get? b=some o->h'.get? b=some o)(x:w6 h a ps):w6 h' a ps:=by
 rcases x with rfl |⟨c,⟨af,aa,o,vs,t,ab,ae,aC⟩ |⟨af,aa,o,vs,t,ab,ae,aC⟩⟩
 ·exact .inl rfl
 ·exact .inr ⟨c,.inl ⟨af,aa,o,vs,t,k _ _ ae ab,ae,aC⟩⟩
 ·exact .inr ⟨c,.inr ⟨af,aa,o,vs,t,k _ _ ae ab,ae,aC⟩⟩
structure G (w:World) (h:Heap):Prop where
 K:(KF w).In h
 B:∃mb,h.Ns builtinsNs mb/\∀x:Str,x≠"__name__"->mb x=bootBuiltins x
 T:∀a,cc a->∃ps,h.get? a=some (tabObj ps)/\w6 h a ps
 M:∃o,h.get? 4=some o/\o.cls= .type "module"/\o.dict=some builtinsNs/\o.data= .plain
theorem G.keeps(g:G w h)(k:∀b o,h.get? b=some o->h'.get? b=some o):G w h' where
 K:=g.K.keeps k
 B:=ah (g.B) λmb x y=>⟨mb,x.keeps k,y⟩
 T:=λa af=>ah (g.T a af) λps ab ae=>⟨ps,k _ _ ab,ae.of λb o _ e=>k b o e⟩
 M:=ah (g.M) λo e r=>⟨o,k _ _ e,r⟩
theorem G.push(g:G w h)(o:Obj):G w (h.push o):=g.keeps λ_ _ e=>dZ _ e
theorem G.gf(g:G w h){b:Addr}{o:Obj}(e:h.get? b=some o)(U:o.cls≠ .none):¬cc b:=λq=>by
 refine ah (g.T b q) λps ab _=>?_;rw[e] at ab;obtain rfl:=bT ab;exact U rfl
theorem G.m6(g:G w h)(x:gy h h'):Cm h h':=λb o U e=>x b o (g.gf e U) e
theorem G.fC(g:G w h){b:Addr}(I:h.get? b=none):¬cc b:=λq=>by
 refine ah (g.T b q) λps ab _=>?_;rw[I] at ab;injection ab
theorem a6.ext{p:ak}{v:Value}(x:a6 w s.heap W p v)(g:G w s.heap)(e:Ext s s'):a6 w s'.heap W p v:=x.mono (g.m6 e.keep)
theorem bJ.ext{p:List ak}{v:List Value}(x:bJ w s.heap W p v)(g:G w s.heap)(e:Ext s s'):bJ w s'.heap W p v:=x.mono (g.m6 e.keep)
structure bK (n:Nat) (A:Around):Prop where
 depth:A.depth+n<=700
 units:A.units+10*n<=9000
 calm:A.handled=Option.none
theorem bK.le{m:Nat}(r:bK n A)(h:m<=n):bK m A:=⟨by have:=r.depth;walk_at"o",by have:=r.units;walk_at"o",r.calm⟩
theorem bK.lim(r:bK n A):A.depth < recursionLimit:=by have:=r.depth;show _ < 1000;walk_at"o"
theorem bK.line(r:bK n A):A.units < cLine:=by have:=r.units;show _ < 9900;walk_at"o"
variable {cenv env:Env}
theorem bK.in(r:bK (n+1) A):bK n (A.deeper env):=⟨by have:=r.depth;show A.depth+1+n<=700;walk_at"o",by have:=r.units;show A.units+3+10*n<=9000;walk_at"o",r.calm⟩
theorem bK.in1(r:bK (n+1) A):bK n A.in1:=⟨by have:=r.depth;show A.depth+n<=700;walk_at"o",by have:=r.units;show A.units+1+10*n<=9000;walk_at"o",r.calm⟩
def hA(env:Env)(h:Heap)(x:Str)(v:Value):Prop:=
 (env.kindOf x=some .local/\∃m,h.Ns env.locals m/\m x=some v)\/
 ((env.kindOf x=some .cell\/(env.kindOf x=some .free/\(x==("__classdict__":Str))=false))/\∃c,env.cells.lookup x=some c/\h.IsCell c (some v))
noncomputable abbrev Loc:=List (Str×ak)
def cx(o:Obj):Prop:=o.cls≠ .type "code"\/∀vs,o.data≠ .fields vs
abbrev eI(W:Addr->Prop)(h:Heap):Prop:=∀a,W a->(∃o,h.get? a=some o/\cx o)/\¬cc a
theorem eI.kt(x:eI W h)(k:gy h h'):eI W h':=λa af=>aE (x a af) λUJ I=>ah UJ λo e cF=>⟨⟨o,k _ _ I e,cF⟩,I⟩
theorem eI.not(x:eI W h){a:Addr}(e:h.get? a=none):¬W a:=λq=>by
 refine aE (x _ q) λbz _=>?_;refine ah bz λo aO cF=>?_;rw[e] at aO;injection aO
theorem eA(h:Heap):h.get? h.objs.size=none:=by
 induction e:h.get? h.objs.size with
 |none=>rfl
 |some o=>exact absurd (lt_size e) (Nat.lt_irrefl _)
theorem eI.fresh(x:eI W h):¬W h.objs.size:=x.not (eA h)
structure St (w:World) (env:Env) (W:Addr->Prop) (m:Loc) (h:Heap):Prop where
 fn:env.scope.kind= .function
 gl:env.globals=3
 bi:env.builtins=0
 g:G w h
 low:eI W h
 nl:¬cc env.locals
 cZ:∀n c,env.cells.lookup n=some c->¬cc c
 has:∀x p,m.lookup x=some p->∃v,hA env h x v/\a6 w h W p v
theorem hA.kt{x:Str}{v:Value}(k:gy h h')(nl:¬cc env.locals)(cZ:∀n c,env.cells.lookup n=some c->¬cc c)(q:hA env h x v):hA env h' x v:=by
 rcases q with⟨bR,m,aA,aq⟩ |⟨bR,c,U,o,aj,hd⟩
 ·exact .inl ⟨bR,m,aA.at' λo e=>k _ _ nl e,aq⟩
 ·exact .inr ⟨bR,c,U,o,k _ _ (cZ _ _ U) aj,hd⟩
variable {m m' mf m₁:Loc}
theorem St.kt(x:St w env W m h)(k:gy h h')(g:G w h'):St w env W m h' where
 fn:=x.fn
 gl:=x.gl
 bi:=x.bi
 g:=g
 low:=x.low.kt k
 nl:=x.nl
 cZ:=x.cZ
 has:=λy p aa=>ah (x.has y p aa) λv ab ae=>⟨v,ab.kt k x.nl x.cZ,ae.mono (x.g.m6 k)⟩
theorem St.ext(x:St w env W m s.heap)(e:Ext s s')(g:G w s'.heap):St w env W m s'.heap:=x.kt e.keep g
def Ev(prog:Program)(w:World)(n:Nat)(env:Env)(m:Loc)(e:Expr)(p:ak):Prop:=
 ∀(W:Addr->Prop) (A:Around) (s:Shared) (Q:Value->Shared->Prop) (E:Value->Shared->Prop),bK n A->St w env W m s.heap->
  (∀v s',a6 w s'.heap W p v->Ext s s'->G w s'.heap->Q v s')->wpAny (model prog w) A (eval e env) Q E s
variable {apos AY qy bX cf fU fG iI mZ qz tU tX pos px py dz bN hI sp f5 ma:Pos} {q q':ak} {op:CmpOp}
theorem Ev.int{i:Int}{k:Nat} :Ev prog w n env m (.Constant (.int i) k pos) (.int i):=λW A s Q E r x h=>
 wpAny_Constant_int (h _ _ ⟨_,rfl⟩ (.tok s _) x.g)
theorem Ev.str{y:Str}{k:Nat} :Ev prog w n env m (.Constant (.str y) k pos) (.str y):=λW A s Q E r x h=>
 Calls.Constant_str (h _ _ ⟨_,rfl⟩ (.tok s _) x.g)
theorem Ev.bool{b:Bool}{k:Nat} :Ev prog w n env m (.Constant (.bool b) k pos) (.bool b):=λW A s Q E r x h=>
 bu (h _ _ rfl (.refl s) x.g)
theorem Ev.none{k:Nat} :Ev prog w n env m (.Constant .none k pos) .none:=λW A s Q E r x h=>
 bu (h _ _ rfl (.refl s) x.g)
theorem hA.load{y:Str}{v:Value}{M:Model}(fn:env.scope.kind= .function)(x:hA env s.heap y v)(h:Q v s):wpAny M A (loadName env y) Q E s:=by
 rcases x with⟨bR,m,aA,aq⟩ |⟨bR |⟨bR,cI⟩,c,U,aq⟩
 ·exact wpAny_loadName_local fn bR aA aq h
 ·exact wpAny_loadName_cell fn bR U aq h
 ·exact wpAny_loadName_free fn bR U aq h cI
theorem Ev.name{y:Str}{p:ak}(ao:m.lookup y=some p)(hd:(y==("__debug__":Str))=false):Ev prog w n env m (.Name y pos) p:=λW A s Q E r x h=>by
 refine ah (x.has y p ao) λv ab ae=>?_;exact wpAny_Name (ab.load x.fn (h _ _ ae (.refl s) x.g)) hd
theorem fL{y:Str}{v:Value}(ar:env.kindOf y=some .globalImplicit)(aq:nsIn (KF w) 3 y=some (some v))(hd:(y==("__debug__":Str))=false):Ev prog w n env m (.Name y pos) (.val v):=λW A s Q E r x h=>by
 refine Calls.Name_function_global x.fn ar ?_ hd;unfold loadGlobal;refine aH ?_;rw[x.gl];refine looks_nsIn x.g.K aq A _ E s (λ_ _ e=>e) ?_;exact bu (h _ _ rfl (.refl s) x.g)
theorem y7{y:Str}{i:Int}{t:Tok}(ar:env.kindOf y=some .globalImplicit)(aq:nsIn (KF w) 3 y=some (some (.int i t)))(hd:(y==("__debug__":Str))=false):Ev prog w n env m (.Name y pos) (.int i):=λW A s Q E r x h=>
 fL ar aq hd W A s Q E r x λv s' jW=>h v s' ⟨t,jW⟩
theorem fA{y:Str}{v:Value}(ar:env.kindOf y=some .globalImplicit)(aq:nsIn (KF w) 3 y=some none)(I:bootBuiltins y=some v)(av:y≠"__name__")(hd:(y==("__debug__":Str))=false):Ev prog w n env m (.Name y pos) (.val v):=λW A s Q E r x h=>by
 refine Calls.Name_function_global x.fn ar ?_ hd;unfold loadGlobal;refine aH ?_;rw[x.gl,x.bi];refine looks_nsIn x.g.K aq A _ E s (λ_ _ e=>e) ?_;refine ah x.g.B λmb ab ae=>?_;refine aH (wpAny_nsGet ab ?_);rw[ae y av,I];exact bu (h _ _ rfl (.refl s) x.g)
def cA(prog:Program)(w:World)(op:Value->Value->Sem Value)(p q r:ak):Prop:=
 ∀(W:Addr->Prop) (A:Around) (s:Shared) (a b:Value) (Q:Value->Shared->Prop) (E:Value->Shared->Prop),bK 0 A->G w s.heap->eI W s.heap->a6 w s.heap W p a->a6 w s.heap W q b->
  (∀v s',a6 w s'.heap W r v->Ext s s'->G w s'.heap->Q v s')->wpAny (model prog w) A (op a b) Q E s
theorem d8{l r:Expr}{op:Operator}{p z:ak}(ao:Ev prog w n env m l p)(bf:Ev prog w n env m r q)(aj:cA prog w (binaryOp op) p q z):Ev prog w n env m (.BinOp l op r pos) z:=λW A s Q E ai x h=>by
 refine wpAny_BinOp (ao W A s _ E ai x λa au af az aF=>bf W A au _ E ai (x.ext az aF) λb aL I aR aY=>?_);exact aj W A aL a b Q E (ai.le (c0 _)) aY ((x.ext az aF).ext aR aY).low (af.ext aF aR) I λv s' aq e g=>h v s' aq ((az.trans aR).trans e) g
theorem Ev.cmp{l r:Expr}{p z:ak}(ao:Ev prog w n env m l p)(bf:Ev prog w n env m r q)(aj:cA prog w (compareOp op) p q z)(hm:behindInMarks op r=false):Ev prog w n env m (.Compare l [op] [r] pos) z:=λW A s Q E ai x h=>by
 refine wpAny_Compare1 (ao W A s _ E ai x λa au af az aF=>bf W A au _ E ai (x.ext az aF) λb aL I aR aY=>?_) hm;exact aj W A aL a b Q E (ai.le (c0 _)) aY ((x.ext az aF).ext aR aY).low (af.ext aF aR) I λv s' aq e g=>h v s' aq ((az.trans aR).trans e) g
theorem qP{a b:Int}:cA prog w (binaryOp .Add) (.int a) (.int b) (.int (a+b)):=λW A s _ _ Q E r g _ fy hX h=>by
 refine aP fy λt e=>?_;refine aP hX λu aO=>?_;subst e aO;exact PyProof.Rows.add_int (h _ _ ⟨_,rfl⟩ (.tok s _) g)
theorem sD{a b:Int}:cA prog w (binaryOp .Sub) (.int a) (.int b) (.int (a - b)):=λW A s _ _ Q E r g _ ki mU h=>by
 refine aP ki λt e=>?_;refine aP mU λu aO=>?_;subst e aO;exact PyProof.Rows.sub_int (h _ _ ⟨_,rfl⟩ (.tok s _) g)
theorem qN{a b:Int}(I:b≠0):cA prog w (binaryOp .Mod) (.int a) (.int b) (.int (a.fmod b)):=λW A s _ _ Q E r g _ o6 oN h=>by
 refine aP o6 λt e=>?_;refine aP oN λu aO=>?_;subst e aO;exact PyProof.Rows.mod_int I (h _ _ ⟨_,rfl⟩ (.tok s _) g)
theorem wG{a b:Int}(I:b≠0)(hs:b.natAbs < 1073741824):cA prog w (binaryOp .FloorDiv) (.int a) (.int b) (.int (a.fdiv b)):=λW A s _ _ Q E r g _ o5 oL h=>by
 refine aP o5 λt e=>?_;refine aP oL λu aO=>?_;subst e aO;exact PyProof.Rows.floordiv_int I (h _ _ ⟨_,rfl⟩ (.tok s _) g) (.inl (PyProof.noPylong_small hs))
theorem Kz{a b:Int}(h0:0<=b)(ab:b<=1000000)(af:a.natAbs < 2 ^ 64):cA prog w (binaryOp .Pow) (.int a) (.int b) (.int (a ^ b.toNat)):=λW A s _ _ Q E r g _ oJ vi h=>by
 refine aP oJ λt e=>?_;refine aP vi λu aO=>?_;subst e aO;exact PyProof.Rows.pow_int_small h0 ab af (h _ _ ⟨_,rfl⟩ (.tok s _) g)
theorem lL{a b:Str}(hz:a.length+b.length<=sizeLine):cA prog w (binaryOp .Add) (.str a) (.str b) (.str (a++b)):=λW A s _ _ Q E r g _ uS AO h=>by
 refine aP uS λt e=>?_;refine aP AO λu aO=>?_;subst e aO;exact PyProof.Rows.add_str (λe2 tk=>h _ _ ⟨_,rfl⟩ (.tok s _) g) hz
theorem sF{a b:Int}:cA prog w (compareOp .Eq) (.int a) (.int b) (.bool (a==b)):=λW A s _ _ Q E r g _ Qz R5 h=>by
 refine aP Qz λt e=>?_;refine aP R5 λu aO=>?_;subst e aO;exact PyProof.Rows.eq_int (h _ _ rfl (.refl s) g)
theorem zl{a b:Int}:cA prog w (compareOp .NotEq) (.int a) (.int b) (.bool (a != b)):=λW A s _ _ Q E r g _ QA RM h=>by
 refine aP QA λt e=>?_;refine aP RM λu aO=>?_;subst e aO;exact PyProof.Rows.ne_int (h _ _ rfl (.refl s) g)
theorem zj{a b:Int}:cA prog w (compareOp .Lt) (.int a) (.int b) (.bool (decide (a < b))):=λW A s _ _ Q E r g _ Q3 QF h=>by
 refine aP Q3 λt e=>?_;refine aP QF λu aO=>?_;subst e aO;exact PyProof.Rows.lt_int (h _ _ rfl (.refl s) g)
theorem LC{a b:Int}:cA prog w (compareOp .GtE) (.int a) (.int b) (.bool (decide (b<=a))):=λW A s _ _ Q E r g _ R1 RD h=>by
 refine aP R1 λt e=>?_;refine aP RD λu aO=>?_;subst e aO;exact PyProof.Rows.ge_int (h _ _ rfl (.refl s) g)
theorem uj{a b:Str}:cA prog w (compareOp .Eq) (.str a) (.str b) (.bool (a==b)):=λW A s _ _ Q E r g _ P2 RQ h=>by
 refine aP P2 λt e=>?_;refine aP RQ λu aO=>?_;subst e aO;exact PyProof.Rows.eq_str (h _ _ rfl (.refl s) g)
theorem Ea{a b:Str}:cA prog w (compareOp .NotEq) (.str a) (.str b) (.bool (a != b)):=λW A s _ _ Q E r g _ Qj Q5 h=>by
 refine aP Qj λt e=>?_;refine aP Q5 λu aO=>?_;subst e aO;exact PyProof.Rows.ne_str (h _ _ rfl (.refl s) g)
theorem uu{a b:Bool}:cA prog w (compareOp .Is) (.bool a) (.bool b) (.bool (a==b)):=λW A s _ _ Q E r g _ e aO h=>by
 subst e aO;exact wpAny_is_plain rfl (h _ _ (by show _=Value.bool _;(induction a)<;>(induction b)<;>rfl) (.refl s) g)
theorem Dd{a b:Bool}:cA prog w (compareOp .IsNot) (.bool a) (.bool b) (.bool (!(a==b))):=λW A s _ _ Q E r g _ e aO h=>by
 subst e aO;exact wpAny_isNot_plain rfl (h _ _ (by show _=Value.bool _;(induction a)<;>(induction b)<;>rfl) (.refl s) g)
def hb(prog:Program)(w:World)(p:ak)(b:Bool):Prop:=
 ∀(W:Addr->Prop) (A:Around) (s:Shared) (a:Value) (Q:Bool->Shared->Prop) (E:Value->Shared->Prop),bK 0 A->G w s.heap->a6 w s.heap W p a->
  (∀s',Ext s s'->G w s'.heap->Q b s')->wpAny (model prog w) A (truthy a) Q E s
theorem hb.bool{b:Bool}:hb prog w (.bool b) b:=λW A s _ Q E r g e h=>by subst e;exact mu (h _ (.refl s) g)
theorem hb.none:hb prog w .none false:=λW A s _ Q E r g e h=>by subst e;exact PyProof.Rows.truthy_none (h _ (.refl s) g)
def bV(prog:Program)(w:World)(n:Nat)(env:Env)(m:Loc)(e:Expr)(b:Bool):Prop:=
 ∀(W:Addr->Prop) (A:Around) (s:Shared) (Q:Bool->Shared->Prop) (E:Value->Shared->Prop),bK n A->St w env W m s.heap->
  (∀s',Ext s s'->G w s'.heap->Q b s')->wpAny (model prog w) A (isTrue e env (eval e env)) Q E s
theorem bV.plain{e:Expr}{p:ak}{b:Bool}(he:Ev prog w n env m e p)(aM:hb prog w p b)
  (hs:∀whole,isTrue e env whole=(do let v<-whole;standAt e.pos;holding [v] (truthy v))):bV prog w n env m e b:=λW A s Q E ai x h=>by
 rw[hs];refine aH (he W A s _ E ai x λv au aq az aF=>aH (wpAny_standAt (fY ?_)));exact aM W A au v Q E (ai.le (c0 _)) aF aq λs' e g=>h s' (az.trans e) g
theorem bV.cmp{l r:Expr}{p:ak}{b:Bool}(ao:Ev prog w n env m l p)(bf:Ev prog w n env m r q)(aj:cA prog w (compareOp op) p q (.bool b))(hm:behindInMarks op r=false):bV prog w n env m (.Compare l [op] [r] pos) b:=λW A s Q E ai x h=>by
 refine wpAny_isTrue_Compare1 (ao W A s _ E ai x λa au af az aF=>bf W A au _ E ai (x.ext az aF) λc aL I aR aY=>?_) hm;refine aj W A aL a c _ E (ai.le (c0 _)) aY ((x.ext az aF).ext aR aY).low (af.ext aF aR) I λv s' aq e g=>?_;rw[show v= .bool b from aq];exact mu (h s' ((az.trans aR).trans e) g)
theorem bV.not{e:Expr}{b:Bool}(he:bV prog w n env m e b):bV prog w n env m (.UnaryOp .Not e pos) (!b):=λW A s Q E ai x h=>by
 show wpAny _ _ (do return !(<-isTrue e env (eval e env))) _ _ _;exact aH (he W A s _ E ai x λs' e g=>bu (h s' e g))
theorem sQ{a b:Expr}{x y:Bool}(af:bV prog w n env m a x)(I:x=false->bV prog w n env m b y):bV prog w n env m (.BoolOp .Or [a,b] pos) (x||y):=λW A s Q E ai st h=>by
 show wpAny _ _ (allTrue .Or [a,b] env) _ _ _;refine aH (af W A s _ E ai st λau az aF=>?_);induction x with
 |true=>exact bu (by simpa using h au az aF)
 |false=>
  refine aH (I rfl W A au _ E ai (st.ext az aF) λaL aR aY=>?_);have z:=h aL (az.trans aR) aY
  (induction y)<;>exact bu z
theorem bV.and{a b:Expr}{x y:Bool}(af:bV prog w n env m a x)(I:x=true->bV prog w n env m b y):bV prog w n env m (.BoolOp .And [a,b] pos) (x&&y):=λW A s Q E ai st h=>by
 show wpAny _ _ (allTrue .And [a,b] env) _ _ _;refine aH (af W A s _ E ai st λau az aF=>?_);induction x with
 |false=>exact bu (by simpa using h au az aF)
 |true=>
  refine aH (I rfl W A au _ E ai (st.ext az aF) λaL aR aY=>?_);have z:=h aL (az.trans aR) aY
  (induction y)<;>exact bu z
theorem Du{t a b:Expr}{c:Bool}{p:ak}(aM:bV prog w n env m t c)(af:c=true->Ev prog w n env m a p)(I:c=false->Ev prog w n env m b p):Ev prog w n env m (.IfExp t a b pos) p:=λW A s Q E ai st h=>by
 show wpAny _ _ (do if<-isTrue t env (eval t env) then eval a env else eval b env) _ _ _;refine aH (aM W A s _ E ai st λau az aF=>?_);induction c with
 |true=>exact af rfl W A au Q E ai (st.ext az aF) λv s' aq e g=>h v s' aq (az.trans e) g
 |false=>exact I rfl W A au Q E ai (st.ext az aF) λv s' aq e g=>h v s' aq (az.trans e) g
def dn(m:Loc)(x:Str):Prop:=(∃l,m.lookup x=some (.bw l))\/∃ks l,m.lookup x=some (.eP ks l)
def pU:ak->Prop
 | .bw l=>dB l
 | .eP _ l=>dB l
 |p=>cb p
def bU(W₀:Addr->Prop)(env:Env)(m:Loc)(ad:Str->Addr)(J:Addr->Prop)(a:Addr):Prop:=
 W₀ a\/a=env.locals\/(∃n,env.cells.lookup n=some a)\/(∃x,dn m x/\ad x=a)\/J a
structure b1 (w:World) (s₀:Shared) (env:Env) (W₀:Addr->Prop) (ad:Str->Addr) (J:Addr->Prop) (m:Loc) (s:Shared):Prop where
 same:∃h tk,s={s₀ with heap:=h,toks:=tk}
 keep:gy s₀.heap s.heap
 dM:G w s₀.heap
 st:St w env (bU W₀ env m ad J) m s.heap
 inj:∀x y,dn m x->dn m y->ad x=ad y->x=y
 own:∀x,dn m x->hA env s.heap x (.ref (ad x))/\s₀.heap.get? (ad x)=Option.none/\ad x≠env.locals/\∀n c,env.cells.lookup n=some c->ad x≠c
 eg:∀a,J a->s₀.heap.get? a=Option.none/\a≠env.locals/\(∀n c,env.cells.lookup n=some c->a≠c)/\∀x,dn m x->ad x≠a
 new:s₀.heap.get? env.locals=Option.none
 iT:∀n c,env.cells.lookup n=some c->s₀.heap.get? c=Option.none/\c≠env.locals
 apart:∀n il c,env.cells.lookup n=some c->env.cells.lookup il=some c->n=il
 fg:eI W₀ s₀.heap
 ns:∃cH,s.heap.Ns env.locals cH
 cl:∀n c,env.cells.lookup n=some c->∃v,s.heap.IsCell c v
 hh:∀x p,m.lookup x=some p->pU p
theorem O8(w:World):(KF w).lookup 217=none:=by kernel_rfl
theorem Pe(w:World):(KF w).lookup 253=none:=by kernel_rfl
theorem Ga{a:Addr}{o:Obj}(e:(KF w).lookup a=some o):¬cc a:=by
 rintro(rfl |rfl)
 ·rw[O8] at e;injection e
 ·rw[Pe] at e;injection e
theorem G.chg{X:Addr->Prop}(dM:G w h₀)(g:G w h)(vZ:∀a,X a->h₀.get? a=none/\∃o,h.get? a=some o/\cx o)(k:∀b o,¬X b->h.get? b=some o->h'.get? b=some o):G w h' where
 K:=λb ob e=>by
  have I:¬X b:=λq=>by have:=(vZ b q).1;rw[dM.K b ob e] at this;injection this
  exact k b ob I (g.K b ob e)
 B:=by
  refine ah g.B λmb x y=>?_;refine ah dM.B λ_ aU _=>?_;refine u6 aU λbZ _ _ aO _=>?_;have I:¬X builtinsNs:=λq=>by have:=(vZ _ q).1;rw[this] at aO;injection aO
  exact⟨mb,x.at' λo e=>k _ _ I e,y⟩
 M:=by
  refine ah g.M λo e r=>?_;refine ah dM.M λbZ aO _=>?_;have I:¬X 4:=λq=>by have:=(vZ _ q).1;rw[this] at aO;injection aO
  exact⟨o,k _ _ I e,r⟩
 T:=λb I=>by
  refine ah (g.T b I) λps ab ae=>?_;refine ah (dM.T b I) λ_ aO _=>?_;have S5:¬X b:=λq=>by rw[(vZ _ q).1] at aO;injection aO
  refine⟨ps,k _ _ S5 ab,?_⟩;have cr:∀c q,uI h c q->uI h' c q:=λc q x=>by
   refine cg x λcP vs t ax aD a8 bW=>?_;refine⟨cP,vs,t,k _ _ (λq=>?_) ax,aD,a8,bW⟩;refine ah ((vZ _ q).2) λo aj aA=>?_;rw[ax] at aj;obtain rfl:=bT aj;rcases aA with aA |aA
   ·exact aA aD
   ·exact aA _ a8
  rcases ae with rfl |⟨c,⟨af,aa,U⟩ |⟨af,aa,U⟩⟩
  ·exact .inl rfl
  ·exact .inr ⟨c,.inl ⟨af,aa,cr _ _ U⟩⟩
  ·exact .inr ⟨c,.inr ⟨af,aa,cr _ _ U⟩⟩
theorem G.set{a:Addr}{o:Obj}(dM:G w h₀)(g:G w h)(aA:h₀.get? a=none)(aj:h.get? a=some o)(hd:∀vs,o.data≠ .fields vs)(hs:SameBut a h h'):G w h':=
 dM.chg (X:=λb=>b=a) g (λb I=>by subst I;exact⟨aA,o,aj,.inr hd⟩) λb ob I e=>hs.extBut b ob I e
theorem Ns.fun{a:Addr}{m m':Str->Option Value}(x:h.Ns a m)(y:h.Ns a m')(n:Str):m n=m' n:=by
 refine cg x λo es ep ab ae _ bc=>?_;refine cg y λbZ jT Ww g1 g2 _ tQ=>?_;rw[ab] at g1;obtain rfl:=bT g1;rw[ae] at g2;(injection g2 with bB;subst bB);rw[<-bc, <-tQ]
theorem hA.fun{x:Str}{v ip:Value}(a:hA env h x v)(b:hA env h x ip):v=ip:=by
 rcases a with⟨bR,m,aA,aq⟩ |⟨bR,c,U,o,aj,hd⟩
 ·rcases b with⟨nY,m',gS,jW⟩ |⟨nY |⟨nY,_⟩,c',fx,bZ,cR,hW⟩
  ·rw[Ns.fun aA gS,jW] at aq;obtain rfl:=bT aq;rfl
  ·rw[bR] at nY;exact absurd nY (by decide)
  ·rw[bR] at nY;exact absurd nY (by decide)
 ·rcases b with⟨nY,m',gS,jW⟩ |⟨nY,c',fx,bZ,cR,hW⟩
  ·rcases bR with bR |⟨bR,_⟩<;>(rw[bR] at nY;exact absurd nY (by decide))
  ·rw[U] at fx;obtain rfl:=bT fx;rw[aj] at cR;obtain rfl:=bT cR;rw[hd] at hW;cases hW;rfl
variable {bZ n6 cP ik:Obj} {prog:Program}
section
variable {w:World} {s₀ s:Shared} {env:Env} {W₀ J:Addr->Prop} {ad:Str->Addr} {m:Loc}
theorem b1.ext(x:b1 w s₀ env W₀ ad J m s)(e:Ext s s')(g:G w s'.heap):b1 w s₀ env W₀ ad J m s' where
 same:=by
  refine cn x.same λh tk a7=>?_;subst a7;refine cn e.same λh' oQ bk=>?_;subst bk;exact⟨h',oQ,rfl⟩
 keep:=x.keep.trans e.keep
 dM:=x.dM
 st:=x.st.ext e g
 inj:=x.inj
 own:=λy av=>aE (x.own y av) λa b=>⟨a.kt e.keep x.st.nl x.st.cZ,b⟩
 eg:=x.eg
 new:=x.new
 iT:=x.iT
 apart:=x.apart
 fg:=x.fg
 ns:=aP (x.ns) λcH h=>⟨cH,h.at' λo q=>e.keep _ _ x.st.nl q⟩
 cl:=λn c h=>dP (x.cl n c h) λv o aj hd=>⟨v,o,e.keep _ _ (x.st.cZ n c h) aj,hd⟩
 hh:=x.hh
theorem b1.sW(x:b1 w s₀ env W₀ ad J m s):Ext s₀ s:=⟨x.same,x.keep⟩
theorem a5{x:Str}{p:ak} :List.lookup x ((x,p)::m)=some p:=by simp[List.lookup]
theorem kz{x y:Str}{p:ak}(h:y≠x):List.lookup y ((x,p)::m)=m.lookup y:=by
 rw[di,eF.mpr h]
theorem cb.o{p:ak}(h:cb p):pU p:=by cases p<;>first |exact h |exact h.elim
theorem sx{x y:Str}{p:ak}(h:dn ((x,p)::m) y)(aa:cb p):y≠x/\dn m y:=by
 by_cases e:y=x
 ·subst e;rcases h with⟨l,h⟩ |⟨ks,l,h⟩
  ·rw[a5] at h;obtain rfl:=bT h;exact aa.elim
  ·rw[a5] at h;obtain rfl:=bT h;exact aa.elim
 ·refine⟨e,?_⟩;unfold dn at h ⊢
  rwa [kz e] at h
theorem DF{x y:Str}{p:ak}(h:dn m y)(e:y≠x):dn ((x,p)::m) y:=by
 unfold dn at h ⊢
 rwa [kz e]
theorem b1.turn{x:Str}{p:ak}{v:Value}{a:Addr}(F:b1 w s₀ env W₀ ad J m s)(aq:a6 w s.heap (bU W₀ env m ad J) p v)(aa:cb p)
  (af:a=env.locals\/env.cells.lookup x=some a) (ig:s.heap.get? a=some n6) (dw:∀vs,n6.data≠ .fields vs) (hs:SameBut a s.heap h') (ag:hA env h' x v) (av:∀y u,y≠x->hA env s.heap y u->hA env h' y u) (p4:∃cH,h'.Ns env.locals cH)
  (eB:∀n c,env.cells.lookup n=some c->∃v,h'.IsCell c v) (hex:∃o,h'.get? a=some o/\cx o):b1 w s₀ env W₀ ad J ((x,p)::m) {s with heap:=h',toks:=tk}:=by
 have aW:bU W₀ env m ad J a:=af.elim (λe=> .inr (.inl e)) λe=> .inr (.inr (.inl ⟨_,e⟩));have kL:s₀.heap.get? a=none:=af.elim (λe=>e▸F.new) λe=>(F.iT _ _ e).1;have up:∀b o,b≠a->s.heap.get? b=some o->h'.get? b=some o:=λb o I e=>hs.extBut b o I e;have kK:∀b,bU W₀ env ((x,p)::m) ad J b->bU W₀ env m ad J b:=λb I=>by
  rcases I with I |I |I |⟨y,hZ,I⟩ |I
  ·exact .inl I
  ·exact .inr (.inl I)
  ·exact .inr (.inr (.inl I))
  ·exact .inr (.inr (.inr (.inl ⟨y,(sx hZ aa).2,I⟩)))
  ·exact .inr (.inr (.inr (.inr I)))
 have gv:G w h':=F.dM.set F.st.g kL ig dw hs;have gr:∀b o,¬bU W₀ env m ad J b->o.cls≠ .none->s.heap.get? b=some o->h'.get? b=some o/\¬bU W₀ env ((x,p)::m) ad J b:=λb o I _ e=>⟨up b o (λq=>I (q▸aW)) e,λq=>I (kK b q)⟩
 have Uu:∀y,dn m y->ad y≠a:=λy h=>by
  refine eR (F.own y h) λ_ _ aC bc=>?_;exact af.elim (λe=>e▸aC) λe=>bc _ _ e
 refine cn F.same λh₁ sY jE=>?_;refine⟨⟨h',tk,by rw[jE]⟩,λb o I e=>up b o (λq=>by subst q;rw[kL] at e;injection e) (F.keep b o I e),F.dM,?_,λy z tp hz=>F.inj y z (sx tp aa).2 (sx hz aa).2,λy tp=>?_,
  λb I=>eR (F.eg b I) λab ae aC bc=>⟨ab,ae,aC,λy av=>bc y (sx av aa).2⟩,F.new,F.iT,F.apart,F.fg,p4,eB,λy q aG=>?_⟩
 ·refine⟨F.st.fn,F.st.gl,F.st.bi,gv,λb I=>?_,F.st.nl,F.st.cZ,λy q aG=>?_⟩
  ·refine aE (F.st.low b (kK b I)) λbz qa=>?_;refine ah bz λo e cF=>?_;refine⟨?_,qa⟩;by_cases q:b=a
   ·exact q▸hex
   ·exact⟨o,up b o q e,cF⟩
  ·by_cases e:y=x
   ·subst e;rw[a5] at aG;obtain rfl:=bT aG;exact⟨v,ag,aq.upd gr aa⟩
   ·rw[kz e] at aG;replace aG:=aG;refine ah (F.st.has y q aG) λu bE eZ=>?_;refine⟨u,av y u e bE,?_⟩;have et:=F.hh y q aG;have ih:∀dE:dn m y,u= .ref (ad y)/\ad y≠a/\bU W₀ env ((x,p)::m) ad J (ad y):=λdE=>⟨bE.fun (F.own y dE).1,Uu y dE,.inr (.inr (.inr (.inl ⟨y,DF dE e,rfl⟩)))⟩
    cases q with
    |bw l=>
     refine cg eZ λb vs n ax aD a8 bW=>?_;refine cB (ih (.inl ⟨l,aG⟩)) λeo ph wo=>?_;rw[ax] at eo;(injection eo with bB;subst bB);exact⟨_,vs,n,ax,wo,up _ _ ph a8,bW.upd gr et⟩
    |eP ks l=>
     refine iS eZ λb vs n ax aD a8 bW d7=>?_;refine cB (ih (.inr ⟨ks,l,aG⟩)) λeo ph wo=>?_;rw[ax] at eo;(injection eo with bB;subst bB);exact⟨_,vs,n,ax,wo,up _ _ ph a8,bW,d7.upd gr et⟩
    |_=>exact eZ.upd gr et
 ·refine aE (sx tp aa) λe dE=>?_;refine aE (F.own y dE) λab ae=>?_;exact⟨av y _ e ab,ae⟩
 ·by_cases e:y=x
  ·subst e;rw[a5] at aG;obtain rfl:=bT aG;exact aa.o
  ·rw[kz e] at aG;exact F.hh y q aG
theorem uc{c:Addr}{v:Option Value}(x:h.IsCell c v):∃o,h.get? c=some o/\∀vs,o.data≠ .fields vs:=by
 refine ah x λo aj hd=>?_;exact⟨o,aj,λvs q=>by rw[hd] at q;injection q⟩
theorem nj{a:Addr}{m:Str->Option Value}(x:h.Ns a m):∃o,h.get? a=some o/\∀vs,o.data≠ .fields vs:=by
 refine gA x λo es ep aj hd _=>?_;exact⟨o,aj,λvs q=>by rw[hd] at q;injection q⟩
theorem b1.zZ{x:Str}{p:ak}{v:Value}{Q:Unit->Shared->Prop}(F:b1 w s₀ env W₀ ad J m s)(aq:a6 w s.heap (bU W₀ env m ad J) p v)(aa:cb p)
  (ar:env.kindOf x=some .local\/(env.kindOf x=some .cell/\(env.cells.lookup x).isSome=true)) (h:∀s',b1 w s₀ env W₀ ad J ((x,p)::m) s'->(∀b o,b≠env.locals->(∀n c,env.cells.lookup n=some c->b≠c)->s.heap.get? b=some o->s'.heap.get? b=some o)->Q () s'):wpAny (model prog w) A (storeName env x v) Q E s:=by
 rcases ar with ar |⟨ar,U⟩
 ·refine aP F.ns λcH aA=>?_;refine wpAny_storeName_local ar aA (λh' gS eH=>?_) (by rw[F.st.fn];rfl);refine ah (nj aA) λn6 ig dw=>?_;refine h _ (F.turn aq aa (.inl rfl) ig dw eH (.inl ⟨ar,_,gS,by simp⟩) (λy u av bE=>?_) ⟨_,gS⟩ (λn c U=>?_) (ah (nj gS) λo aj hd=>⟨o,aj,.inr hd⟩)) λb o I _ e=>eH.extBut b o I e
  ·rcases bE with⟨bR,m4,rI,vl⟩ |⟨bR,c,U,o,aj,hd⟩
   ·refine .inl ⟨bR,_,gS,?_⟩;rw[aI av,Ns.fun aA rI,vl]
   ·exact .inr ⟨bR,c,U,o,eH.extBut _ _ (F.iT _ _ U).2 aj,hd⟩
  ·refine dP (F.cl n c U) λv o aj hd=>?_;exact⟨v,o,eH.extBut _ _ (F.iT _ _ U).2 aj,hd⟩
 ·refine aP (nk.mp U) λc U=>?_;refine aP (F.cl x c U) λQs s7=>?_;refine wpAny_storeName_cell F.st.fn ar U s7 λh' fx eH=>?_;refine ah (uc s7) λn6 ig dw=>?_;have eB:=(F.iT _ _ U).2;have t:=F.turn (tk:=s.toks) aq aa (.inr U) ig dw eH (.inr ⟨.inl ar,c,U,fx⟩) (λy u av bE=>?_) (let⟨cH,aA⟩:=F.ns;⟨cH,aA.sameBut eH eB.symm⟩) (λn c' tv=>?_) (ah (uc fx) λo aj hd=>⟨o,aj,.inr hd⟩)
  ·exact h _ t λb o _ I e=>eH.extBut b o (I _ _ U) e
  ·rcases bE with⟨bR,m4,rI,vl⟩ |⟨bR,c',tv,o,aj,hd⟩
   ·exact .inl ⟨bR,m4,rI.sameBut eH eB.symm,vl⟩
   ·refine .inr ⟨bR,c',tv,o,eH.extBut _ _ (λq=>av ?_) aj,hd⟩;subst q;exact F.apart _ _ _ tv U
  ·by_cases q:c'=c
   ·subst q;exact⟨_,fx⟩
   ·refine dP (F.cl n c' tv) λv o aj hd=>?_;exact⟨v,o,eH.extBut _ _ q aj,hd⟩
theorem b1.oF(F:b1 w s₀ env W₀ ad J m s)(e:Ext s s')(g:G w s'.heap)(a0:∀a,J a->dN a)(aA:∀a,dN a->¬J a->s.heap.get? a=none/\(∃o,s'.heap.get? a=some o/\cx o)/\¬cc a):b1 w s₀ env W₀ ad dN m s':=by
 have aS:=F.ext e g;have fresh:∀a,dN a->¬J a->∀b o,s.heap.get? b=some o->b≠a:=λa ab ae b o e q=>by
  subst q;rw[(aA _ ab ae).1] at e;injection e
 have h0:∀a,s.heap.get? a=none->s₀.heap.get? a=none\/cc a:=λa q=>by
  induction dO:s₀.heap.get? a with
  |none=>exact .inl rfl
  |some o=>
   by_cases aM:cc a
   ·exact .inr aM
   ·rw[F.keep _ _ aM dO] at q;injection q
 have Qg:∀y,dn m y->∃o,s.heap.get? (ad y)=some o:=λy av=>by
  refine aE (F.st.low (ad y) (.inr (.inr (.inr (.inl ⟨y,av,rfl⟩))))) λb7 _=>?_;refine ah b7 λo q cF=>?_;exact⟨o,q⟩
 refine⟨aS.same,aS.keep,F.dM,⟨F.st.fn,F.st.gl,F.st.bi,g,λb I=>?_,F.st.nl,F.st.cZ,λy q aG=>?_⟩,F.inj,aS.own,λa af=>?_,F.new,F.iT,F.apart,F.fg,aS.ns,aS.cl,F.hh⟩
 ·rcases I with I |I |I |I |I
  ·exact aS.st.low b (.inl I)
  ·exact aS.st.low b (.inr (.inl I))
  ·exact aS.st.low b (.inr (.inr (.inl I)))
  ·exact aS.st.low b (.inr (.inr (.inr (.inl I))))
  ·by_cases aN:J b
   ·exact aS.st.low b (.inr (.inr (.inr (.inr aN))))
   ·exact(aA b I aN).2
 ·refine ah (F.st.has y q aG) λu bE eZ=>?_;refine⟨u,bE.kt e.keep F.st.nl F.st.cZ,eZ.chg λb o U ct=>⟨F.st.g.m6 e.keep b o U ct,⟨λI=>?_,λI=>?_⟩⟩⟩
  ·rcases I with I |I |I |I |I
   ·exact .inl I
   ·exact .inr (.inl I)
   ·exact .inr (.inr (.inl I))
   ·exact .inr (.inr (.inr (.inl I)))
   ·exact .inr (.inr (.inr (.inr (a0 b I))))
  ·rcases I with I |I |I |I |I
   ·exact .inl I
   ·exact .inr (.inl I)
   ·exact .inr (.inr (.inl I))
   ·exact .inr (.inr (.inr (.inl I)))
   ·by_cases aN:J b
    ·exact .inr (.inr (.inr (.inr aN)))
    ·exact absurd rfl (fresh b I aN b o ct)
 ·by_cases aN:J a
  ·exact F.eg a aN
  ·refine cB (aA a af aN) λab ae aC=>?_;refine⟨(h0 a ab).resolve_right aC,λq=>?_,λnm c U q=>?_,λy av q=>?_⟩
   ·refine xD F.ns λcH o _ _ aj _=>?_;rw[<-q,ab] at aj;injection aj
   ·refine dP (F.cl nm c U) λv o aj _=>?_;rw[<-q,ab] at aj;injection aj
   ·refine aP (Qg y av) λo aj=>?_;rw[q,ab] at aj;injection aj
theorem b1.ro(F:b1 w s₀ env W₀ ad J m s)(HX:∀a,dN a->J a)(jE:∃h tk,s'={s with heap:=h,toks:=tk})(k:∀b o,¬J b->¬cc b->s.heap.get? b=some o->s'.heap.get? b=some o)(g:G w s'.heap)(a0:∀a,dN a->∃o,s'.heap.get? a=some o/\cx o):b1 w s₀ env W₀ ad dN m s':=by
 have tV:∀b o,s₀.heap.get? b=some o->¬J b:=λb o e q=>by rw[(F.eg b q).1] at e;injection e
 have nl:¬J env.locals:=λq=>(F.eg _ q).2.1 rfl;have cZ:∀nm c,env.cells.lookup nm=some c->¬J c:=λnm c U q=>(F.eg _ q).2.2.1 nm c U rfl;have no:∀y,dn m y->¬J (ad y):=λy av q=>(F.eg _ q).2.2.2 y av rfl;have dt:∀y v,hA env s.heap y v->hA env s'.heap y v:=λy v q=>by
  rcases q with⟨bR,cH,aA,aq⟩ |⟨bR,c,U,o,aj,hd⟩
  ·exact .inl ⟨bR,cH,aA.at' λo e=>k _ _ nl F.st.nl e,aq⟩
  ·exact .inr ⟨bR,c,U,o,k _ _ (cZ _ _ U) (F.st.cZ _ _ U) aj,hd⟩
 refine cn F.same λh₁ sY az=>?_;refine cn jE λcX Ao aR=>?_;have kK:∀b,bU W₀ env m ad dN b->bU W₀ env m ad J b:=λb I=>by
  rcases I with I |I |I |I |I
  ·exact .inl I
  ·exact .inr (.inl I)
  ·exact .inr (.inr (.inl I))
  ·exact .inr (.inr (.inr (.inl I)))
  ·exact .inr (.inr (.inr (.inr (HX b I))))
 have gr:∀b o,¬bU W₀ env m ad J b->o.cls≠ .none->s.heap.get? b=some o->s'.heap.get? b=some o/\¬bU W₀ env m ad dN b:=λb o I U e=>⟨k b o (λq=>I (.inr (.inr (.inr (.inr q))))) (F.st.g.gf e U) e,λq=>I (kK b q)⟩
 refine⟨⟨cX,Ao,by rw[aR,az]⟩,λb o I e=>k b o (tV b o e) I (F.keep b o I e),F.dM,⟨F.st.fn,F.st.gl,F.st.bi,g,λb I=>?_,F.st.nl,F.st.cZ,λy q aG=>?_⟩,F.inj,λy av=>⟨dt _ _ (F.own y av).1,(F.own y av).2⟩,λa af=>F.eg a (HX a af),F.new,F.iT,F.apart,F.fg,
  let⟨cH,aA⟩:=F.ns;⟨cH,aA.at' λo e=>k _ _ nl F.st.nl e⟩,λnm c U=>dP (F.cl nm c U) λv o aj hd=>⟨v,o,k _ _ (cZ nm c U) (F.st.cZ nm c U) aj,hd⟩,F.hh⟩
 ·refine aE (F.st.low b (kK b I)) λcC aM=>?_;refine ah cC λo e cF=>?_;refine⟨?_,aM⟩;rcases I with I |rfl |⟨nm,I⟩ |⟨y,av,rfl⟩ |I
  ·exact⟨o,k b o (λq=>by refine aE (F.fg b I) λc1 _=>?_;refine ah c1 λbZ aO _=>?_;exact tV b bZ aO q) aM e,cF⟩
  ·exact⟨o,k _ o nl aM e,cF⟩
  ·exact⟨o,k b o (cZ nm b I) aM e,cF⟩
  ·exact⟨o,k _ o (no y av) aM e,cF⟩
  ·exact a0 b I
 ·refine ah (F.st.has y q aG) λu bE eZ=>?_;refine⟨u,dt _ _ bE,?_⟩;have et:=F.hh y q aG;cases q with
  |bw l=>
   refine cg eZ λb vs n ax aD a8 bW=>?_;have dE:dn m y:= .inl ⟨l,aG⟩;have eo:=bE.fun (F.own y dE).1;rw[ax] at eo;(injection eo with bB;subst bB);exact⟨_,vs,n,ax,.inr (.inr (.inr (.inl ⟨y,dE,rfl⟩))),k _ _ (no y dE) (F.st.g.gf a8 eN) a8,bW.upd gr et⟩
  |eP ks l=>
   refine iS eZ λb vs n ax aD a8 bW d7=>?_;have dE:dn m y:= .inr ⟨ks,l,aG⟩;have eo:=bE.fun (F.own y dE).1;rw[ax] at eo;(injection eo with bB;subst bB);exact⟨_,vs,n,ax,.inr (.inr (.inr (.inl ⟨y,dE,rfl⟩))),k _ _ (no y dE) (F.st.g.gf a8 eN) a8,bW,d7.upd gr et⟩
  |_=>exact eZ.upd gr et
theorem b1.uF(F:b1 w s₀ env W₀ ad J m s)(a0:∀a,dN a->J a):b1 w s₀ env W₀ ad dN m s:=by
 have kK:∀b,bU W₀ env m ad dN b->bU W₀ env m ad J b:=λb I=>by
  rcases I with I |I |I |I |I
  ·exact .inl I
  ·exact .inr (.inl I)
  ·exact .inr (.inr (.inl I))
  ·exact .inr (.inr (.inr (.inl I)))
  ·exact .inr (.inr (.inr (.inr (a0 b I))))
 have gr:∀b o,¬bU W₀ env m ad J b->o.cls≠ .none->s.heap.get? b=some o->s.heap.get? b=some o/\¬bU W₀ env m ad dN b:=λb o I _ e=>⟨e,λq=>I (kK b q)⟩
 refine⟨F.same,F.keep,F.dM,⟨F.st.fn,F.st.gl,F.st.bi,F.st.g,λb I=>F.st.low b (kK b I),F.st.nl,F.st.cZ,λy q aG=>?_⟩,F.inj,F.own,λa af=>F.eg a (a0 a af),F.new,F.iT,F.apart,F.fg,F.ns,F.cl,F.hh⟩;refine ah (F.st.has y q aG) λu bE eZ=>?_;refine⟨u,bE,?_⟩;have et:=F.hh y q aG;cases q with
 |bw l=>
  refine cg eZ λb vs n ax aD a8 bW=>?_;have dE:dn m y:= .inl ⟨l,aG⟩;have eo:=bE.fun (F.own y dE).1;rw[ax] at eo;(injection eo with bB;subst bB);exact⟨_,vs,n,ax,.inr (.inr (.inr (.inl ⟨y,dE,rfl⟩))),a8,bW.upd gr et⟩
 |eP ks l=>
  refine iS eZ λb vs n ax aD a8 bW d7=>?_;have dE:dn m y:= .inr ⟨ks,l,aG⟩;have eo:=bE.fun (F.own y dE).1;rw[ax] at eo;(injection eo with bB;subst bB);exact⟨_,vs,n,ax,.inr (.inr (.inr (.inl ⟨y,dE,rfl⟩))),a8,bW,d7.upd gr et⟩
 |_=>exact eZ.upd gr et
theorem b1.sub(F:b1 w s₀ env W₀ ad J m s)(h:∀x p,m'.lookup x=some p->m.lookup x=some p):b1 w s₀ env W₀ ad J m' s:=by
 have ih:∀x,dn m' x->dn m x:=λx q=>by
  rcases q with⟨l,q⟩ |⟨ks,l,q⟩
  ·exact .inl ⟨l,h _ _ q⟩
  ·exact .inr ⟨ks,l,h _ _ q⟩
 have kK:∀b,bU W₀ env m' ad J b->bU W₀ env m ad J b:=λb I=>by
  rcases I with I |I |I |⟨y,hZ,I⟩ |I
  ·exact .inl I
  ·exact .inr (.inl I)
  ·exact .inr (.inr (.inl I))
  ·exact .inr (.inr (.inr (.inl ⟨y,ih y hZ,I⟩)))
  ·exact .inr (.inr (.inr (.inr I)))
 have gr:∀b o,¬bU W₀ env m ad J b->o.cls≠ .none->s.heap.get? b=some o->s.heap.get? b=some o/\¬bU W₀ env m' ad J b:=λb o I _ e=>⟨e,λq=>I (kK b q)⟩
 refine⟨F.same,F.keep,F.dM,⟨F.st.fn,F.st.gl,F.st.bi,F.st.g,λb I=>F.st.low b (kK b I),F.st.nl,F.st.cZ,λy q aG=>?_⟩,λy z av hz=>F.inj y z (ih y av) (ih z hz),λy av=>F.own y (ih y av),λb I=>eR (F.eg b I) λab ae aC bc=>⟨ab,ae,aC,λy av=>bc y (ih y av)⟩,F.new,F.iT,F.apart,F.fg,F.ns,F.cl,λy q aG=>F.hh y q (h y q aG)⟩;refine ah (F.st.has y q (h y q aG)) λu bE eZ=>?_;refine⟨u,bE,?_⟩;have et:=F.hh y q (h y q aG);cases q with
 |bw l=>
  refine cg eZ λb vs n ax aD a8 bW=>?_;have dE:dn m' y:= .inl ⟨l,aG⟩;have eo:=bE.fun (F.own y (ih y dE)).1;rw[ax] at eo;(injection eo with bB;subst bB);exact⟨_,vs,n,ax,.inr (.inr (.inr (.inl ⟨y,dE,rfl⟩))),a8,bW.upd gr et⟩
 |eP ks l=>
  refine iS eZ λb vs n ax aD a8 bW d7=>?_;have dE:dn m' y:= .inr ⟨ks,l,aG⟩;have eo:=bE.fun (F.own y (ih y dE)).1;rw[ax] at eo;(injection eo with bB;subst bB);exact⟨_,vs,n,ax,.inr (.inr (.inr (.inl ⟨y,dE,rfl⟩))),a8,bW,d7.upd gr et⟩
 |_=>exact eZ.upd gr et
end
inductive dp where
 |next |brk |cont
 |ret (p:ak)
def bC(W W':Addr->Prop)(s s':Shared):Prop:=∀b o,¬W b->¬cc b->s.heap.get? b=some o->s'.heap.get? b=some o/\¬W' b
theorem bC.refl(W:Addr->Prop)(s:Shared):bC W W s s:=λb o I _ e=>⟨e,I⟩
theorem bC.trans{HA:Addr->Prop}(x:bC W W' s s')(y:bC W' HA s' b2):bC W HA s b2:=λb o I aM e=>y b o (x b o I aM e).2 aM (x b o I aM e).1
theorem bC.ext(e:Ext s s'):bC W W s s':=λb o I aM ct=>⟨e.keep b o aM ct,I⟩
theorem Dr(x:bC V W' s s')(h:∀b,V b->W b):bC W W' s s':=λb o I aM e=>x b o (λq=>I (h b q)) aM e
def b4(env:Env)(m:Loc)(ad:Str->Addr)(a:Addr):Prop:=a=env.locals\/(∃n,env.cells.lookup n=some a)\/∃x,dn m x/\ad x=a
theorem b4.ky{ad:Str->Addr}{J:Addr->Prop}{a:Addr}(h:b4 env m ad a):bU W₀ env m ad J a:=by
 rcases h with h |h |h
 ·exact .inr (.inl h)
 ·exact .inr (.inr (.inl h))
 ·exact .inr (.inr (.inr (.inl h)))
theorem bU.split{ad:Str->Addr}{J:Addr->Prop}{a:Addr}(h:bU W₀ env m ad J a):W₀ a\/J a\/b4 env m ad a:=by
 rcases h with h |h |h |h |h
 ·exact .inl h
 ·exact .inr (.inr (.inl h))
 ·exact .inr (.inr (.inr (.inl h)))
 ·exact .inr (.inr (.inr (.inr h)))
 ·exact .inr (.inl h)
theorem bU.nV{ad:Str->Addr}{J:Addr->Prop}{a:Addr}(h:W₀ a):bU W₀ env m ad J a:= .inl h
theorem bU.dy{ad:Str->Addr}{J:Addr->Prop}{a:Addr}(h:J a):bU W₀ env m ad J a:= .inr (.inr (.inr (.inr h)))
variable {a3 jF:Str->Addr}
theorem bC.ky{ad:Str->Addr}{J:Addr->Prop}(k:bC (b4 env m ad) (b4 env m' a3) s s'):bC (bU W₀ env m ad J) (bU W₀ env m' a3 J) s s':=λb o I aM e=>⟨(k b o (λq=>I q.ky) aM e).1,λq=>by
 rcases q.split with q |q |q
 ·exact I (.nV q)
 ·exact I (.dy q)
 ·exact(k b o (λq=>I q.ky) aM e).2 q⟩
theorem a6.FZ{ad:Str->Addr}{J:Addr->Prop}{p:ak}{v:Value}(x:a6 w s.heap (bU W₀ env m ad J) p v)(g:G w s.heap)(k:bC (b4 env m ad) (b4 env m' a3) s s')(aa:cb p):a6 w s'.heap (bU W₀ env m' a3 J) p v:=x.upd (λb o I U e=>k.ky b o I (g.gf e U) e) aa
def Out(w:World)(s₀:Shared)(env:Env)(W₀ J:Addr->Prop)(Φ:dp->Loc->Prop)(W:Addr->Prop)(s:Shared)(f:Flow)(s':Shared):Prop:=match f with
 | .next=>∃a3 m',b1 w s₀ env W₀ a3 J m' s'/\bC W (b4 env m' a3) s s'/\Φ .next m'
 | .brk=>∃a3 m',b1 w s₀ env W₀ a3 J m' s'/\bC W (b4 env m' a3) s s'/\Φ .brk m'
 | .cont=>∃a3 m',b1 w s₀ env W₀ a3 J m' s'/\bC W (b4 env m' a3) s s'/\Φ .cont m'
 | .ret v=>∃p,a6 w s'.heap W₀ p v/\cb p/\Ext s₀ s'/\G w s'.heap/\Φ (.ret p) []
def bg(prog:Program)(w:World)(n:Nat)(env:Env)(m:Loc)(ss:List Stmt)(Φ:dp->Loc->Prop):Prop:=
 ∀(s₀:Shared) (W₀ J:Addr->Prop) (ad:Str->Addr) (A:Around) (s:Shared) (E:Value->Shared->Prop),bK n A->b1 w s₀ env W₀ ad J m s->wpAny (model prog w) A (execs ss env) (Out w s₀ env W₀ J Φ (b4 env m ad) s) E s
def df(prog:Program)(w:World)(n:Nat)(env:Env)(m:Loc)(st:Stmt)(Φ:dp->Loc->Prop):Prop:=
 ∀(s₀:Shared) (W₀ J:Addr->Prop) (ad:Str->Addr) (A:Around) (s:Shared) (E:Value->Shared->Prop),bK n A->b1 w s₀ env W₀ ad J m s->wpAny (model prog w) A (exec st env) (Out w s₀ env W₀ J Φ (b4 env m ad) s) E s
abbrev TS(prog:Program)(w:World)(n:Nat)(env:Env)(rest:List Stmt)(Φ:dp->Loc->Prop):dp->Loc->Prop:=λf m'=>match f with | .next=>bg prog w n env m' rest Φ |f=>Φ f m'
abbrev Br(bh:Loc->Prop)(Φ:dp->Loc->Prop):dp->Loc->Prop:=λer dF=>match er with | .next=>bh dF | .cont=>bh dF | .brk=>Φ .next dF | .ret r=>Φ (.ret r) dF
abbrev H3(p:ak):dp->Loc->Prop:=λer _=>match er with | .ret q=>q=p | .next=>p= .none |_=>False
variable {body orelse rest ss:List Stmt}
section
variable {prog:Program} {w:World} {n:Nat} {env:Env} {m:Loc} {Φ:dp->Loc->Prop}
theorem Out.pre{J:Addr->Prop}{f:Flow}(k:bC W W' s au)(x:Out w s₀ env W₀ J Φ W' au f s'):Out w s₀ env W₀ J Φ W s f s':=by
 induction f with
 |next=>refine bj x λad m' a k' b=>?_;exact⟨ad,m',a,k.trans k',b⟩
 |brk=>refine bj x λad m' a k' b=>?_;exact⟨ad,m',a,k.trans k',b⟩
 |cont=>refine bj x λad m' a k' b=>?_;exact⟨ad,m',a,k.trans k',b⟩
 |ret v=>exact x
theorem bg.nil(h:Φ .next m):bg prog w n env m [] Φ:=λs₀ W₀ J ad A s E ai F=>wpAny_execs_nil ⟨ad,m,F,.refl _ s,h⟩
theorem bg.cons{st:Stmt}(h:df prog w n env m st (TS prog w n env rest Φ)):bg prog w n env m (st::rest) Φ:=λs₀ W₀ J ad A s E ai F=>by
 refine wpAny_execs_cons (dV (h s₀ W₀ J ad A s E ai F) (λf s' o=>?_) λ_ _ e=>e);induction f with
 |next=>refine bj o λa3 m' a k b=>?_;exact dV (b s₀ W₀ J a3 A s' E ai a) (λf b2 o=>o.pre k) λ_ _ e=>e
 |brk=>exact o
 |cont=>exact o
 |ret v=>exact o
theorem b4.sub{ad:Str->Addr}(hs:∀x p,m'.lookup x=some p->m.lookup x=some p):∀b,b4 env m' ad b->b4 env m ad b:=λb I=>by
 rcases I with I |I |⟨y,hZ,I⟩
 ·exact .inl I
 ·exact .inr (.inl I)
 ·refine .inr (.inr ⟨y,?_,I⟩);rcases hZ with⟨l,q⟩ |⟨ks,l,q⟩
  ·exact .inl ⟨l,hs _ _ q⟩
  ·exact .inr ⟨ks,l,hs _ _ q⟩
theorem b4.cons{ad:Str->Addr}{x:Str}{p:ak}(aa:cb p):∀b,b4 env ((x,p)::m) ad b->b4 env m ad b:=λb I=>by
 rcases I with I |I |⟨y,hZ,I⟩
 ·exact .inl I
 ·exact .inr (.inl I)
 ·exact .inr (.inr ⟨y,(sx hZ aa).2,I⟩)
theorem bg.sub(h:bg prog w n env m' ss Φ)(hs:∀x p,m'.lookup x=some p->m.lookup x=some p):bg prog w n env m ss Φ:=λs₀ W₀ J ad A s E ai F=>
 dV (h s₀ W₀ J ad A s E ai (F.sub hs)) (λf s' o=>o.pre (Dr (.refl _ s) (b4.sub hs))) λ_ _ e=>e
theorem b1.put{J:Addr->Prop}{ad:Str->Addr}{x:Str}{p:ak}{v:Value}{Q:Unit->Shared->Prop}(F:b1 w s₀ env W₀ ad J m s)(aq:a6 w s.heap (bU W₀ env m ad J) p v)(aa:cb p)
  (ar:env.kindOf x=some .local\/(env.kindOf x=some .cell/\(env.cells.lookup x).isSome=true)) (h:∀s',b1 w s₀ env W₀ ad J ((x,p)::m) s'->bC (b4 env m ad) (b4 env ((x,p)::m) ad) s s'->Q () s'):wpAny (model prog w) A (storeName env x v) Q E s:=
 F.zZ aq aa ar λs' aS keep=>h s' aS λb o I _ e=>⟨keep b o (λq=>I (.inl q)) (λnm c U q=>I (.inr (.inl ⟨nm,q▸U⟩))) e,λq=>I (b4.cons aa b q)⟩
theorem jA{x:Str}{e:Expr}{p:ak}(he:Ev prog w n env m e p)(aa:cb p)(ar:env.kindOf x=some .local\/(env.kindOf x=some .cell/\(env.cells.lookup x).isSome=true))(h:Φ .next ((x,p)::m))
  (hs:swapsWith e (some (.Name x px)) pos.line env=pure false):df prog w n env m (.Assign [.Name x px] e pos) Φ:=λs₀ W₀ J ad A s E ai F=>by
 refine wpAny_Assign_Name (he _ A s _ E ai F.st λv au aq az aF=>?_) hs;exact(F.ext az aF).put aq aa ar λs' aS k=>⟨ad,_,aS,(bC.ext az).trans k,h⟩
theorem kB{t:Expr}{a b:List Stmt}{c:Bool}(aM:bV prog w n env m t c)(af:c=true->bg prog w n env m a Φ)(I:c=false->bg prog w n env m b Φ):df prog w n env m (.If t a b pos) Φ:=λs₀ W₀ J ad A s E ai F=>by
 refine wpAny_If (aM _ A s _ E ai F.st λau az aF=>?_);induction c with
 |true=>exact dV (af rfl s₀ W₀ J ad A au E ai (F.ext az aF)) (λf s' o=>o.pre (.ext az)) λ_ _ e=>e
 |false=>exact dV (I rfl s₀ W₀ J ad A au E ai (F.ext az aF)) (λf s' o=>o.pre (.ext az)) λ_ _ e=>e
theorem df.ret{e:Expr}{p:ak}(he:Ev prog w n env m e p)(aa:cb p)(h:Φ (.ret p) []):df prog w n env m (.Return (some e) pos) Φ:=λs₀ W₀ J ad A s E ai F=>by
 refine wpAny_Return_some (he _ A s _ E ai F.st λv au aq az aF=>⟨p,?_,aa,F.sW.trans az,aF,h⟩);exact aq.upd (λb o I _ e=>⟨e,λq=>I (.inl q)⟩) aa
end
def d3(prog:Program)(w:World)(n:Nat)(f:Addr)(args:List ak)(p:ak):Prop:=
 ∀(W:Addr->Prop) (A:Around) (s:Shared) (vs:List Value) (Q:Value->Shared->Prop) (E:Value->Shared->Prop),bK n A->G w s.heap->eI W s.heap->bJ w s.heap W args vs->
  (∀v s',a6 w s'.heap W p v->Ext s s'->G w s'.heap->Q v s')->wpAny (model prog w) A (call (.ref f) vs) Q E s
theorem DX(w:World):nsOkIn (KF w) cStatics=true:=by kernel_rfl
theorem Ny(w:World):nsIn (KF w) cStatics "sys.recursionlimit"=some none:=by kernel_rfl
theorem G.lim(g:G w h):h.NoLimit:=⟨h.nsMap cStatics,.of_isNs (isNs_of_in g.K (DX w)),nsMap_none_of_in g.K (DX w) (Ny w)⟩
theorem JH{k:Str->Option NameKind}{x:Str}:∀(binds:List (Str×Value)) (m:Str->Option Value),x∉binds.map (·.1)->bindL k binds m x=m x:=by
 intro ba;induction ba with
 |nil=>
  intro _ _;exact rfl
 |cons h3 r aw=>
  obtain⟨y,v⟩:=h3;intro m h;unfold bindL;have ag:x≠y:=λq=>h (by simp[q]);rw[aw _ (λq=>h (by simp at q ⊢;exact .inr q))];split
  ·simp[ag]
  ·rfl
theorem JP{k:Str->Option NameKind}{x:Str}:∀(binds:List (Str×Value)) (m:Str->Option Value),x∉binds.map (·.1)->bindC k binds m x=m x:=by
 intro ba;induction ba with
 |nil=>
  intro _ _;exact rfl
 |cons h3 r aw=>
  obtain⟨y,v⟩:=h3;intro m h;unfold bindC;have ag:x≠y:=λq=>h (by simp[q]);rw[aw _ (λq=>h (by simp at q ⊢;exact .inr q))];split
  ·rfl
  ·simp[ag]
theorem K2{k:Str->Option NameKind}{x:Str}{v:Value}(ar:k x=some .local):∀(binds:List (Str×Value)) (m:Str->Option Value),(binds.map (·.1)).Nodup->(x,v)∈binds->bindL k binds m x=some v:=by
 intro ba;induction ba with
 |nil=>
  intro _ _ h;exact absurd h b8
 |cons h3 r aw=>
  obtain⟨y,u⟩:=h3;intro m aA h;unfold bindL;simp only[map_cons,nodup_cons] at aA;replace aA:=aA;rcases bI.mp h with e |h
  ·cases e
   rw[JH r _ aA.1,aQ ar];simp
  ·exact aw _ aA.2 h
theorem LV{k:Str->Option NameKind}{x:Str}{v:Value}(ar:k x≠some .local):∀(binds:List (Str×Value)) (m:Str->Option Value),(binds.map (·.1)).Nodup->(x,v)∈binds->bindC k binds m x=some v:=by
 intro ba;induction ba with
 |nil=>
  intro _ _ h;exact absurd h b8
 |cons h3 r aw=>
  obtain⟨y,u⟩:=h3;intro m aA h;unfold bindC;simp only[map_cons,nodup_cons] at aA;replace aA:=aA;rcases bI.mp h with e |h
  ·cases e
   rw[JP r _ aA.1,aI ar];simp
  ·exact aw _ aA.2 h
theorem DD:∀{names:List Str} {args:List ak} {vs:List Value},bJ w h W args vs->∀{x:Str} {p:ak},(names.zip args).lookup x=some p->∃v,(x,v)∈names.zip vs/\a6 w h W p v:=by
 intro names;induction names with
 |nil=>intro _ _ _ x p e;injection e
 |cons y ns aw=>
  intro args vs h x p e;rcases args with _ |⟨q,ps⟩
  ·injection e
  refine bj h λv r z aq bf=>?_;subst z;rw[zip_cons_cons,di] at e;replace e:=e;induction mG:x==y with
  |true=>
   rw[mG] at e;obtain rfl:=bT e;exact⟨v,by rw[zip_cons_cons,eq_of_beq mG];exact cM ..,aq⟩
  |false=>
   rw[mG] at e;refine ah (aw bf e) λu bE jW=>?_;exact⟨u,by rw[zip_cons_cons];exact ey _ bE,jW⟩
theorem qM:∀{names:List Str} {args:List ak} {x:Str} {p:ak},(names.zip args).lookup x=some p->p∈args:=by
 intro names;induction names with
 |nil=>intro _ x p e;injection e
 |cons y ns aw=>
  intro args x p e;rcases args with _ |⟨q,ps⟩
  ·injection e
  rw[zip_cons_cons,di] at e;replace e:=e;induction mG:x==y with
  |true=>rw[mG] at e;obtain rfl:=bT e;exact cM ..
  |false=>rw[mG] at e;exact ey _ (aw e)
theorem od:∀{l:List ak} {p:ak},dB l->p∈l->cb p:=by
 intro ba;induction ba with
 |nil=>
  intro _ _ h;exact absurd h b8
 |cons q r aw=>
  intro p f h;rcases bI.mp h with rfl |h
  ·exact f.1
  ·exact aw f.2 h
theorem kF{l:List ak}(h:∀p∈l,cb p):dB l:=by
 induction l with
 |nil=>trivial
 |cons p r aw=>exact⟨h p (cM ..),aw λq aG=>h q (ey _ aG)⟩
theorem wB:∀{names:List Str} {vs:List Value},vs.length=names.length->(names.zip vs).map (·.1)=names:=by
 intro names;induction names with
 |nil=>exact λ_=>rfl
 |cons y ns aw=>
  intro vs e;rcases vs with _ |⟨v,vs⟩
  ·injection e
  rw[zip_cons_cons,eE,aw (by simpa using e)]
theorem cellsFrom_some{x:Str}:∀{names:List (Str×NameKind)} {n:Nat} {acc:List (Str×Addr)},((acc.lookup x).isSome=true\/names.lookup x=some .cell)->((cellsFrom n names acc).lookup x).isSome=true:=by
 intro ba;induction ba with
 |nil=>
  intro n acc h;rcases h with h |h
  ·exact h
  ·injection h
 |cons h3 r aw=>
  obtain⟨y,k⟩:=h3;intro n acc h;unfold cellsFrom;split
  ·rename_i ar;refine aw ?_;rw[di];induction mG:x==y with
   |true=>exact .inl rfl
   |false=>
    rcases h with h |h
    ·exact .inl h
    ·rw[di,mG] at h;exact .inr h
  ·rename_i ar;refine aw ?_;rcases h with h |h
   ·exact .inl h
   ·rw[di] at h;replace h:=h;induction mG:x==y with
    |true=>
     rw[mG] at h;obtain rfl:=bT h;exact absurd rfl ar
    |false=>rw[mG] at h;exact .inr h
structure c5 (env:Env) (sc:Scope):Prop where
 kind:∀y k,k≠ .free->sc.names.lookup y=some k->env.kindOf y=some k
 free:∀y,sc.names.lookup y=some .free->env.kindOf y=some .free\/env.kindOf y=some .cell
 cell:∀y,(sc.names.lookup y=some .cell\/sc.names.lookup y=some .free)->(env.cells.lookup y).isSome=true
 fn:env.scope.kind= .function
abbrev tx(w:World)(f c:Addr)(names:List Str)(o cP:Obj)(fd:FuncData)(body:List Stmt)(iL:Array Value)(lG:Tok)(sc:Scope)(kT:Str):Prop:=
 ((KF w).lookup f=some o)/\(o.data= .func fd)/\(fd.code= .ref c)/\((KF w).lookup c=some cP)/\(cP.data= .fields iL)/\(iL[1]? =some (.str fd.qualname lG))/\(fd.body= .stmts body)/\(names.Nodup)/\(fd.closure=[])/\(fd.globals=3)/\(fd.builtins=0)/\(∀L,∀x∈names,fd.scope.names.lookup x=some .local\/(fd.scope.names.lookup x=some .cell/\((cellsFrom (L+1) fd.scope.names []).lookup x).isSome=true))/\(fd.scope.kind= .function)/\(fd.scope.isCoroutine=false)/\(fd.scope.isGenerator=false)/\(fd.scope=sc)/\(fd.qualname=kT)/\((sc.names.all λx=>x.2 != .free)=true)
def Cl(prog:Program)(w:World)(n:Nat)(f:Value)(args:List ak)(p:ak):Prop:=
 ∀(W:Addr->Prop) (A:Around) (s:Shared) (vs:List Value) (Q:Value->Shared->Prop) (E:Value->Shared->Prop),bK n A->G w s.heap->eI W s.heap->bJ w s.heap W args vs->
  (∀v s',a6 w s'.heap W p v->Ext s s'->G w s'.heap->Q v s')->wpAny (model prog w) A (call f vs) Q E s
variable {args sN l' sj ps:List ak}
theorem d3.cl{f:Addr}{p:ak}(h:d3 prog w n f args p):Cl prog w n (.ref f) args p:=h
theorem Cl.le{k:Nat}{f:Value}{p:ak}(h:Cl prog w n f args p)(ar:n<=k):Cl prog w k f args p:=λW A s vs Q E ai=>h W A s vs Q E (ai.le ar)
def aK(prog:Program)(w:World)(n:Nat)(env:Env)(m:Loc)(pos:Pos)(es:List Expr)(ps:List ak):Prop:=
 ∀(W:Addr->Prop) (A:Around) (s:Shared) (Q:List Value->Shared->Prop) (E:Value->Shared->Prop),bK n A->St w env W m s.heap->
  (∀vs s',bJ w s'.heap W ps vs->Ext s s'->G w s'.heap->Q vs s')->wpAny (model prog w) A (spliced (backTo pos (starEach es env))) Q E s
def Callee(w:World)(f:Value):Prop:=(∃id,f= .builtin id)\/(∃T,f= .type T)\/∃a o fd,f= .ref a/\(KF w).lookup a=some o/\o.data= .func fd
variable {es ifs:List Expr} {elt eL m1 test wd:Expr} {hi:Option Expr} {vs:List Value}
theorem aK.nil:aK prog w n env m pos [] []:=λW A s Q E ai x h=>lS (h [] s rfl (.refl s) x.g)
theorem aK.cons{e:Expr}{p:ak}(he:Ev prog w n env m e p)(bf:aK prog w n env m pos es ps)(hs:starEach (e::es) env=(false,eval e env)::starEach es env):aK prog w n env m pos (e::es) (p::ps):=λW A s Q E ai x h=>by
 rw[hs];show wpAny _ _ (spliced ((false,eval e env)::backTo pos (starEach es env))) _ _ _;refine Calls.spliced_cons (he W A s _ E ai x λv au aq az aF=>bf W A au _ E ai (x.ext az aF) λvs aL bb aR aY=>?_);exact h _ _ ⟨v,vs,rfl,aq.ext aF aR,bb⟩ (az.trans aR) aY
theorem hu{M:Model}{f:Value}{l:List (Bool×Sem Value)}{Q:Args->Shared->Prop}(ao:∀x∈l,x.1=false)(h:wpAny M A (spliced l) (λvs s'=>Q ⟨vs,[]⟩ s') E s):wpAny M A (evalArgs f true l []) Q E s:=by
 induction l with
 |nil=>
  unfold evalArgs;show wpAny M A (spliced [] >>=_) Q E s;refine aH (dV h (λvs s' h'=>?_) λ_ _ x=>x);refine aH (bu ?_);refine fY ?_;exact aH (bu (aH (bu (bu h'))))
 |cons x r=>
  obtain⟨b,t⟩:=x;obtain rfl:b=false:=ao _ (cM ..);exact Calls.evalArgs_plain h
theorem jz{l:List (Bool×Sem Value)}(h:l.any (·.1)=false):∀x∈backTo pos l,x.1=false:=by
 intro x ag;unfold backTo at ag;refine ah (bA.mp ag) λy av aU=>?_;subst aU;have:=List.any_eq_false.mp h y av;exact Bool.eq_false_iff.mpr this
theorem kA{l:List (Bool×Sem Value)}(h:∀x∈l,x.1=false):l.any (·.1)=false:=List.any_eq_false.mpr λx ag=>by rw[h x ag];decide
theorem callWith_of{f:Value}{first:List Value}{fp:List ak}{p:ak}(hf:Callee w f)(ai:bK n A)(x:St w env W m s.heap)
  (Of:bJ w s.heap W fp first) (af:aK prog w n env m pos es ps) (U:Cl prog w n f (fp++ps) p) (cv:(starEach es env).any (·.1)=false)
  (h:∀v s',a6 w s'.heap W p v->Ext s s'->G w s'.heap->Q v s'):wpAny (model prog w) A (callWith pos f first (backTo pos (starEach es env)) []) Q E s:=by
 have I:=jz (pos:=pos) cv;have key:∀R:Shared->Prop,(∀s',Ext s s'->R s')->wpAny (model prog w) A (evalArgs f true (backTo pos (starEach es env)) []) (λa au=>R au/\wpAny (model prog w) A (call f (first++a.pos) a.kw) Q E au) E s:=λR md=>by
  refine hu I (af W A s _ E ai x λvs au bb az aF=>⟨md au az,?_⟩);exact U W A au (first++vs) Q E ai aF (x.ext az aF).low ((Of.ext x.g az).app bb) λv s' aq e g=>h v s' aq (az.trans e) g
 rcases hf with⟨id,rfl⟩ |⟨T,rfl⟩ |⟨a,o,fd,rfl,ar,hd⟩
 ·exact lb (kA I) (dV (key (λ_=>True) λ_ _=>trivial) (λ_ _ h=>h.2) λ_ _ e=>e)
 ·exact PySem.callWith_type (kA I) (dV (key (λ_=>True) λ_ _=>trivial) (λ_ _ h=>h.2) λ_ _ e=>e)
 ·refine Calls.callWith_function (o:=o) (fd:=fd) (dV (key (λs'=>s'.heap.get? a=some o) λs' e=>?_) (λ_ _ h=>⟨⟨h.1,hd⟩,h.2⟩) λ_ _ e=>e);exact e.keep _ _ (Ga ar) (x.g.K _ _ ar)
theorem Ev.call{f:Value}{p:ak}(iZ:Ev prog w n env m eL (.val f))(hf:Callee w f)(af:aK prog w n env m pos es ps)(U:Cl prog w n f ps p)(cv:(starEach es env).any (·.1)=false)
  (fu:eval (.Call eL es [] pos) env=(do callWith pos (<-eval eL env) [] (backTo pos (starEach es env)) (backToKw pos (keywordEach [] env)))):Ev prog w n env m (.Call eL es [] pos) p:=λW A s Q E ai x h=>by
 rw[fu];refine aH (iZ W A s _ E ai x λv au aq az aF=>?_);rw[show v=f from aq];exact callWith_of (fp:=[]) hf ai (x.ext az aF) rfl af U cv λv s' aq e g=>h v s' aq (az.trans e) g
structure Meth (T:String) (name:Str) (id:String):Prop where
 hG:PlainAttrs T
 slot:Slot T name id
 ty:typeOf (.builtin id)=pure (.type "method_descriptor")
def Typed(w:World)(p:ak)(T:String):Prop:=∀(W:Addr->Prop) (s:Shared) (v:Value),G w s.heap->a6 w s.heap W p v->s.TypeIs v T/\∀a,v= .ref a->∃ob,s.heap.get? a=some ob/\ob.dict=none
theorem Typed.str{x:Str}:Typed w (.str x) "str":=λW s v _ QO=>aP QO λt e=>by subst e;exact⟨typeIs_str _ _ _,λa q=>by injection q⟩
theorem Typed.list{l:List ak}:Typed w (.list l) "list":=λW s v _ QR=>cg QR λa vs n e _ aj _=>by subst e;exact⟨⟨_,aj,rfl⟩,λa q=>by(injection q with bB;subst bB);exact⟨_,aj,rfl⟩⟩
theorem Typed.bw{l:List ak}:Typed w (.bw l) "list":=λW s v _ QJ=>cg QJ λa vs n e _ aj _=>by subst e;exact⟨⟨_,aj,rfl⟩,λa q=>by(injection q with bB;subst bB);exact⟨_,aj,rfl⟩⟩
theorem Typed.tup{l:List ak}:Typed w (.tup l) "tuple":=λW s v _ P9=>cg P9 λa vs n e _ aj _=>by subst e;exact⟨⟨_,aj,rfl⟩,λa q=>by(injection q with bB;subst bB);exact⟨_,aj,rfl⟩⟩
theorem Typed.dict{ks:List Str}{l:List ak}:Typed w (.dict ks l) "dict":=λW s v _ QZ=>cg QZ λa vs n e _ aj _=>by subst e;exact⟨⟨_,aj,rfl⟩,λa q=>by(injection q with bB;subst bB);exact⟨_,aj,rfl⟩⟩
theorem Typed.eP{ks:List Str}{l:List ak}:Typed w (.eP ks l) "dict":=λW s v _ P5=>cg P5 λa vs n e _ aj _=>by subst e;exact⟨⟨_,aj,rfl⟩,λa q=>by(injection q with bB;subst bB);exact⟨_,aj,rfl⟩⟩
theorem j4{o:Expr}{name:Str}{T id:String}{p:ak}(mt:Meth T name id)(aj:Ev prog w n env m o q)(bD:Typed w q T)(af:aK prog w n env m pos es ps)(U:Cl prog w n (.builtin id) (q::ps) p)
  (cv:(starEach es env).any (·.1)=false) (ha:attributeBase o name env (eval o env)=eval o env)
  (jf:((backTo pos (starEach es env)).all (λx=> !x.1)&&(backToKw pos (keywordEach [] env)).all (λx=>x.1.isSome)&&decide (es.length+([]:List Keyword).length+(if([]:List Keyword).isEmpty then 0 else 1) < 30))=true)
  (gO:(apos.endLine==pos.line)=true):Ev prog w n env m (.Call (.Attribute o name apos) es [] pos) p:=λW A s Q E ai x h=>by
 refine mv ha jf gO mt.hG mt.slot mt.ty (aj W A s _ E ai x λv au aq az aF=>?_);refine aE (bD W au v aF aq) λab ae=>?_;refine⟨ab,ae,?_⟩;exact callWith_of (fp:=[q]) (.inl ⟨id,rfl⟩) ai (x.ext az aF) (.one aq) af U cv λv s' aq e g=>h v s' aq (az.trans e) g
theorem Ev.item{v i:Expr}{k p:ak}{T id:String}(aq:Ev prog w n env m v q)(hi:Ev prog w n env m i k)(bD:Typed w q T)(ao:typeLookup (.type T) "__getitem__"=pure (some (.builtin id)))(dj:cA prog w getItem q k p)
  (hs:∀o j,subscripted i false o j=operate [o,j] (getItem o j)):Ev prog w n env m (.Subscript v i pos) p:=λW A s Q E ai x h=>by
 refine PyProof.Rows.Subscript_ (aq W A s _ E ai x λa au af az aF=>hi W A au _ E ai (x.ext az aF) λb aL I aR aY=>?_);have HZ:=af.ext aF aR;refine PyProof.Rows.tail_any (bD W aL a aY HZ).1 ao (dj W A aL a b Q E (ai.le (c0 _)) aY ((x.ext az aF).ext aR aY).low HZ I λv s' aq e g=>h v s' aq ((az.trans aR).trans e) g) (hs a b)
theorem Fl{k:Int}(h0:0<=k)(h:k < n):seqIndex? k n=some k.toNat:=by
 unfold seqIndex?;have ab:¬k < 0:=by walk_at"o"
 simp only[ab,if_false];rw[aQ (by simp only[Bool.and_eq_true,decide_eq_true_eq];walk_at"o")]
theorem i8{α:Type}{l:List α}{p:α}(h:l[i]? =some p):i < l.length:=by
 rcases Nat.lt_or_ge i l.length with q |q
 ·exact q
 ·rw[getElem?_eq_none q] at h;injection h
theorem zE{k:Int}(ar:k < n)(aA:n<=sizeLine):k < 2 ^ 63:=by
 have:sizeLine=2 ^ 24:=rfl;walk_at"o"
theorem cA.item{l:List ak}{k:Int}{p:ak}(h0:0<=k)(aa:l[k.toNat]? =some p)(hz:l.length<=sizeLine):cA prog w getItem (.list l) (.int k) p:=λW A s _ _ Q E r g _ fy hX h=>by
 refine cg fy λa vs n e aW aj hs=>?_;refine aP hX λu aO=>?_;subst e aO;refine ah (hs.at aa) λv ab ae=>?_;exact wpAny_getItem_list ⟨_,aj,rfl,n,rfl⟩ h0 (zE (n:=l.length) (by have:=i8 aa;walk_at"o") hz) (by simpa using ab) (h _ _ ae (.refl s) g)
theorem Dt{l:List ak}{k:Int}{p:ak}(h0:0<=k)(aa:l[k.toNat]? =some p)(hz:l.length<=sizeLine):cA prog w getItem (.bw l) (.int k) p:=λW A s _ _ Q E r g _ ki mU h=>by
 refine cg ki λa vs n e aW aj hs=>?_;refine aP mU λu aO=>?_;subst e aO;refine ah (hs.at aa) λv ab ae=>?_;exact wpAny_getItem_list ⟨_,aj,rfl,n,rfl⟩ h0 (zE (n:=l.length) (by have:=i8 aa;walk_at"o") hz) (by simpa using ab) (h _ _ ae (.refl s) g)
theorem J2{l:List ak}{k:Int}{p:ak}(h0:0<=k)(aa:l[k.toNat]? =some p)(hz:l.length<=sizeLine):cA prog w getItem (.tup l) (.int k) p:=λW A s _ _ Q E r g _ o6 oN h=>by
 refine cg o6 λa vs n e aW aj hs=>?_;refine aP oN λu aO=>?_;subst e aO;refine ah (hs.at aa) λv ab ae=>?_;have cu:=i8 aa;exact PyProof.Rows.getItem_tuple ⟨_,aj,rfl,n,rfl⟩ (by walk_at"o") (zE (n:=l.length) (by walk_at"o") hz) (j:=k.toNat) (by rw[show(⟨vs⟩:Array Value).size=vs.length from rfl];exact Fl h0 (by rw[<-hs.len];walk_at"o")) (by simpa using ab) (h _ _ ae (.refl s) g)
theorem C5{l:List ak}{k:Int}{p:ak}(h0:k < 0)(ab: -(l.length:Int)<=k)(aa:l[(k+l.length).toNat]? =some p)(hz:l.length<=sizeLine):cA prog w getItem (.list l) (.int k) p:=λW A s _ _ Q E r g _ o5 oL h=>by
 refine cg o5 λa vs n e aW aj hs=>?_;refine aP oL λu aO=>?_;subst e aO;refine ah (hs.at aa) λv ae aC=>?_;have ao:=hs.len;have:sizeLine=2 ^ 24:=rfl;exact wpAny_getItem_list_neg (items:=⟨vs⟩) ⟨_,aj,rfl,n,rfl⟩ h0 (by show -((vs.length:Nat):Int)<=k;walk_at"o") (by walk_at"o") (by show(⟨vs⟩:Array Value)[(k+(vs.length:Nat)).toNat]? =some v;rw[<-ao];simpa using ae) (h _ _ aC (.refl s) g)
theorem C0{l:List ak}{k:Int}{p:ak}(h0:k < 0)(ab: -(l.length:Int)<=k)(aa:l[(k+l.length).toNat]? =some p)(hz:l.length<=sizeLine):cA prog w getItem (.bw l) (.int k) p:=λW A s _ _ Q E r g _ oJ vi h=>by
 refine cg oJ λa vs n e aW aj hs=>?_;refine aP vi λu aO=>?_;subst e aO;refine ah (hs.at aa) λv ae aC=>?_;have ao:=hs.len;have:sizeLine=2 ^ 24:=rfl;exact wpAny_getItem_list_neg (items:=⟨vs⟩) ⟨_,aj,rfl,n,rfl⟩ h0 (by show -((vs.length:Nat):Int)<=k;walk_at"o") (by walk_at"o") (by show(⟨vs⟩:Array Value)[(k+(vs.length:Nat)).toNat]? =some v;rw[<-ao];simpa using ae) (h _ _ aC (.refl s) g)
theorem wD{x:Str}{i:Int}(ab: -(x.length:Int)<=i)(ae:i < x.length)(hz:x.length<=sizeLine):cA prog w getItem (.str x) (.int i) (.str (Txt.item x i)):=λW A s _ _ Q E r g _ uS AO h=>by
 refine aP uS λt e=>?_;refine aP AO λu aO=>?_;subst e aO;have:sizeLine=2 ^ 24:=rfl;refine bj (SB.item (prog:=prog) (w:=w) (A:=A) (E:=E) (s:=s) (x:=x) (t:=t) (u:=u) (Q:=Q) (i:=i) (by unfold fitsSsize;simp only[Bool.not_eq_true',decide_eq_false_iff_not,Bool.or_eq_false_iff];walk_at"o") (PyProof.Rows.charAt_isSome ab ae) (h _ _ ⟨_,rfl⟩ (.tok s _) g)) λT id a1 a2 dG=>?_;exact dG
def jX(prog:Program)(w:World)(n:Nat)(env:Env)(m:Loc):Option Expr->Option Int->Prop
 |none,none=>True
 |some e,some i=>Ev prog w n env m e (.int i)
 |_,_=>False
theorem oh{e:Option Expr}{i:Option Int}(he:jX prog w n env m e i)(ai:bK n A)(x:St w env W m s.heap)(h:∀v s',IsPart v i->Ext s s'->G w s'.heap->Q v s'):
  wpAny (model prog w) A (valueOrNone (evalOpt e env)) Q E s:=by
 induction e with
 |none=>
  induction i with
  |none=>exact bu (h _ _ .none (.refl s) x.g)
  |some i=>exact he.elim
 |some e=>
  induction i with
  |none=>exact he.elim
  |some i=>exact he W A s Q E ai x λv s' aq e g=>by refine aP aq λt a7=>?_;subst a7;exact h _ _ (.int i t) e g
theorem yU{v:Expr}{lo st:Option Expr}{p:ak}{T id:String}{a b c:Option Int}(aq:Ev prog w n env m v q)(hY:jX prog w n env m lo a)(jh:jX prog w n env m hi b)(cv:jX prog w n env m st c)
  (bD:Typed w q T) (ao:typeLookup (.type T) "__getitem__"=pure (some (.builtin id)))
  (dj:∀(W:Addr->Prop) (A:Around) (s:Shared) (o:Value) (bQ:Addr) (g0 g5 vs:Value) (Q:Value->Shared->Prop) (E:Value->Shared->Prop),bK 0 A->G w s.heap->eI W s.heap->a6 w s.heap W q o->s.heap.IsSliceOf bQ g0 g5 vs->IsPart g0 a->IsPart g5 b->IsPart vs c->
   (∀v s',a6 w s'.heap W p v->Ext s s'->G w s'.heap->Q v s')->wpAny (model prog w) A (getItem o (.ref bQ)) Q E s):Ev prog w n env m (.Subscript v (.Slice lo hi st sp) pos) p:=λW A s Q E ai x h=>by
 refine PyProof.Rows.Subscript_ (aq W A s _ E ai x λo au aj az aF=>?_);show wpAny _ _ (do
  let l<-valueOrNone (evalOpt lo env)
  let u<-holding [l] (valueOrNone (evalOpt hi env))
  let t<-holding [l,u] (valueOrNone (evalOpt st env))
  newFields "slice" [l,u,t]) _ _ _
 have c4:=x.ext az aF;refine aH (oh hY ai c4 λg0 aL e1 aR aY=>aH (fY (oh jh ai (c4.ext aR aY) λg5 ef pu ee e4=>aH (fY (oh cv ai ((c4.ext aR aY).ext ee e4) λi3 c9 pt jI nC=>?_)))));refine iq ?_ (by show(3:Nat)<=_;decide);have Qu:=((c4.ext aR aY).ext ee e4).ext jI nC;have kg:Ext c9 {c9 with heap:=c9.heap.push {cls:= .type "slice",data:= .fields [g0,g5,i3].toArray}}:= .push ..;have jM:=nC.push {cls:= .type "slice",data:= .fields [g0,g5,i3].toArray};have rU:=(((aj.ext aF aR).ext aY ee).ext e4 jI).ext nC kg;have de:(c9.heap.push {cls:= .type "slice",data:= .fields [g0,g5,i3].toArray}).IsSliceOf c9.heap.objs.size g0 g5 i3:= .new ..;have fin:wpAny (model prog w) A (getItem o (.ref c9.heap.objs.size)) Q E {c9 with heap:=c9.heap.push {cls:= .type "slice",data:= .fields [g0,g5,i3].toArray}}:=
  dj W A _ o _ g0 g5 i3 Q E (ai.le (c0 _)) jM (Qu.ext kg jM).low rU de e1 pu pt λv s' aq e g=>h v s' aq (((((az.trans aR).trans ee).trans jI).trans kg).trans e) g
 induction st with
 |none=>exact PyProof.Rows.tail_any (bD W _ o jM rU).1 ao fin rfl
 |some st=>exact PyProof.Rows.tail_any (bD W _ o jM rU).1 ao fin rfl
theorem yS{l:List ak}(x:bJ w h W l vs)(sd:List Nat):bJ w h W (sd.filterMap (l[·]?)) (sd.filterMap (vs[·]?)):=by
 induction sd with
 |nil=>exact rfl
 |cons j r aw=>
  rw[filterMap_cons,filterMap_cons];induction aN:l[j]? with
  |some p=>
   refine ah (x.at aN) λv ab ae=>?_;rw[ab];exact⟨v,_,rfl,ae,aw⟩
  |none=>
   have:vs[j]? =none:=by
    have q:l.length<=j:=by simpa using aN
    exact getElem?_eq_none (by rw[<-x.len];exact q)
   rw[this];exact aw
noncomputable def pick(l:List ak)(a b c:Option Int):List ak:=let t:=sliceBounds a b c l.length;(sliceRange t.1 t.2.1 t.2.2).filterMap (l[·]?)
theorem ug{v:Expr}{lo st:Option Expr}{l:List ak}{a b c:Option Int}(aq:Ev prog w n env m v (.list l))(hY:jX prog w n env m lo a)(jh:jX prog w n env m hi b)(cv:jX prog w n env m st c)(h0:c≠some 0)(hz:l.length<=sizeLine):
  Ev prog w n env m (.Subscript v (.Slice lo hi st sp) pos) (.list (pick l a b c)):=by
 refine yU aq hY jh cv Typed.list fN.lookup ?_;intro W A s o bQ g0 g5 vs Q E ai g low aj de e1 pu pt h;refine cg aj λad us n bk aW iW hs=>?_;subst bk;refine wpAny_getItem_list_slice (items:=⟨us⟩) ⟨_,iW,rfl,n,rfl⟩ de e1 pu pt h0 ?_ (by show us.length<=_;rw[<-hs.len];exact hz);refine h _ _ ⟨_,(slicePick ⟨us⟩ a b c).toList,0,rfl,low.fresh,dc _ rfl,?_⟩ (.push ..) (g.push _);have e:(slicePick (⟨us⟩:Array Value) a b c).toList=(let t:=sliceBounds a b c us.length;(sliceRange t.1 t.2.1 t.2.2).filterMap (us[·]?)):=by
  unfold slicePick;simp
 rw[e];unfold pick;rw[hs.len];exact(yS hs _).mono λb o U e=>dZ _ e
theorem DA{x:Str}(ag:x.length<=5592405):Cl prog w n (.builtin "str.lower") [.str x] (.str (Txt.lower x)):=λW A s vs Q E ai g low fy h=>by
 refine bj fy λ_ _ ax aU a8=>?_;refine aP aU λt aD=>?_;subst ax aD;rw[show _=[] from a8];exact PyProof.Rows.SCL.lower ag λ_=>h _ _ ⟨_,rfl⟩ (.tok s _) g
theorem Dw{x:Str}(ag:x.length<=5592405):Cl prog w n (.builtin "str.upper") [.str x] (.str (Txt.upper x)):=λW A s vs Q E ai g low hX h=>by
 refine bj hX λ_ _ ax a7 a8=>?_;refine aP a7 λt aD=>?_;subst ax aD;rw[show _=[] from a8];exact PyProof.Rows.SCL.upper ag λ_=>h _ _ ⟨_,rfl⟩ (.tok s _) g
theorem Cl.find{x y:Str}:Cl prog w n (.builtin "str.find") [.str x,.str y] (.int (Txt.find x y)):=λW A s vs Q E ai g low ki h=>by
 refine bj ki λ_ _ ax bk b7=>?_;refine bj b7 λ_ _ a8 bz d7=>?_;refine aP bk λt aD=>?_;refine aP bz λu bW=>?_;subst ax aD a8 bW;rw[show _=[] from d7];exact SC.find (h _ _ ⟨_,rfl⟩ (.tok s _) g)
theorem Ka{x y:Str}:Cl prog w n (.builtin "str.rfind") [.str x,.str y] (.int (Txt.rfind x y)):=λW A s vs Q E ai g low mU h=>by
 refine bj mU λ_ _ ax cC c2=>?_;refine bj c2 λ_ _ a8 c1 d7=>?_;refine aP cC λt aD=>?_;refine aP c1 λu bW=>?_;subst ax aD a8 bW;rw[show _=[] from d7];exact SC.rfind (h _ _ ⟨_,rfl⟩ (.tok s _) g)
theorem KH{x y:Str}:Cl prog w n (.builtin "str.count") [.str x,.str y] (.int (Txt.count x y)):=λW A s vs Q E ai g low o6 h=>by
 refine bj o6 λ_ _ ax eS ft=>?_;refine bj ft λ_ _ a8 eQ d7=>?_;refine aP eS λt aD=>?_;refine aP eQ λu bW=>?_;subst ax aD a8 bW;rw[show _=[] from d7];exact SC.count (h _ _ ⟨_,rfl⟩ (.tok s _) g)
theorem IU{x y:Str}:Cl prog w n (.builtin "str.startswith") [.str x,.str y] (.bool (Txt.startswith x y)):=λW A s vs Q E ai g low oN h=>by
 refine bj oN λ_ _ ax fS iz=>?_;refine bj iz λ_ _ a8 gg d7=>?_;refine aP fS λt aD=>?_;refine aP gg λu bW=>?_;subst ax aD a8 bW;rw[show _=[] from d7];exact SC.startswith (h _ _ rfl (.refl s) g)
theorem C4{x y:Str}:Cl prog w n (.builtin "str.endswith") [.str x,.str y] (.bool (Txt.endswith x y)):=λW A s vs Q E ai g low o5 h=>by
 refine bj o5 λ_ _ ax iA oB=>?_;refine bj oB λ_ _ a8 ll d7=>?_;refine aP iA λt aD=>?_;refine aP ll λu bW=>?_;subst ax aD a8 bW;rw[show _=[] from d7];exact SC.endswith (h _ _ rfl (.refl s) g)
theorem Fq:Meth "str" "lower" "str.lower":=⟨F.plainAttrs_str,F.slot_str_lower,F.type_str_lower⟩
theorem Fi:Meth "str" "upper" "str.upper":=⟨F.plainAttrs_str,F.slot_str_upper,F.type_str_upper⟩
theorem Fz:Meth "str" "find" "str.find":=⟨F.plainAttrs_str,F.slot_str_find,F.type_str_find⟩
theorem Ou:Meth "str" "rfind" "str.rfind":=⟨F.plainAttrs_str,F.slot_str_rfind,F.type_str_rfind⟩
theorem OI:Meth "str" "count" "str.count":=⟨F.plainAttrs_str,F.slot_str_count,F.type_str_count⟩
theorem JT:Meth "str" "startswith" "str.startswith":=⟨F.plainAttrs_str,F.slot_str_startswith,F.type_str_startswith⟩
theorem DT:Meth "str" "endswith" "str.endswith":=⟨F.plainAttrs_str,F.slot_str_endswith,F.type_str_endswith⟩
theorem y3{v lo:Expr}{x:Str}{i:Int}(aq:Ev prog w n env m v (.str x))(hY:Ev prog w n env m lo (.int i))(hz:x.length<=sizeLine):
  Ev prog w n env m (.Subscript v (.Slice (some lo) none none sp) pos) (.str (Txt.slice x (some i) none)):=by
 refine yU (a:=some i) (b:=none) (c:=none) aq hY trivial trivial Typed.str F.slot_str_getitem.lookup ?_;intro W A s _ bQ g0 g5 vs Q E ai g low dg de e1 pu pt h;refine aP dg λt dr=>?_;subst dr;cases e1 with
 |int i u=>
  cases pu
  cases pt
  exact wpAny_getItem_str_slice (l:=some (i,u)) (u:=none) (st:=none) de rfl (post_val_or_str ⟨ei (Txt.slice_le x _ _) hz,λe2 k=>h _ _ ⟨_,rfl⟩ (.tok s _) g⟩)
noncomputable def g9:Array Nat:= #[14,8,1,2,4294967295,1,1,46,0,16,46,24,9,1,4294967295,13,4,8,0,0,1,6,5,1]
noncomputable def oT(x:Str):Sre.M:=Sre.forSearch g9 x.cps 0 0 x.cps.size false
noncomputable def kP(x:Str):Option Bool:=match((oT x).runFor 4000).outcome with
 |some .matched=>some true
 |some .failed=>some false
 |_=>none
theorem Dm(m:Sre.M)(h:m.outcome.isSome=true):∀k,m.runFor k=m:=by
 intro ba;induction ba with
 |zero=>
  exact rfl
 |succ k aw=>
  show(if m.outcome.isSome then m else _)=m;rw[aQ h]
theorem DE(a b:Nat):∀m:Sre.M,m.runFor (a+b)=(m.runFor a).runFor b:=by
 induction a with
 |zero=>intro m;rw[Nat.zero_add];rfl
 |succ a aw=>
  intro m;rw[Nat.add_right_comm];show(if m.outcome.isSome then m else(m.step).runFor (a+b))=(if m.outcome.isSome then m else(m.step).runFor a).runFor b;split
  ·rename_i h;rw[Dm m h]
  ·exact aw _
theorem Di{m:Sre.M}{a:Nat}(h:(m.runFor a).outcome.isSome=true)(b:Nat):m.runFor (a+b)=m.runFor a:=by
 rw[DE,Dm _ h]
theorem M5{M:Model}{Q:Sre.M->Shared->Prop} :∀(k turns:Nat) (m:Sre.M),k < turns->(m.runFor (4*k+4)).outcome.isSome=true->Q (m.runFor (4*k+4)) s->wpAny M A (Builtin.Re.reDrive turns m) Q E s:=by
 intro k t;induction t generalizing k with
 |zero=>exact λ_ h=>absurd h (k4 _)
 |succ t aw=>
  intro m h aj aG;rw[Builtin.Re.reDrive];show wpAny M A (if(m.runFor 4).outcome.isSome then pure (m.runFor 4) else do rule "sre.turn";Builtin.Re.reDrive t (m.runFor 4)) Q E s;split
  ·rename_i bc;have:m.runFor (4*k+4)=m.runFor 4:=by rw[Nat.add_comm];exact Di bc _
   rw[this] at aG;exact bu aG
  ·rename_i bc;induction k with
   |zero=>exact absurd aj bc
   |succ k=>
    have e:m.runFor (4*(k+1)+4)=(m.runFor 4).runFor (4*k+4):=by rw[<-DE];congr 1;walk_at"o"
    rw[e] at aj aG;exact aH (wpAny_rule (aw k (m.runFor 4) (by walk_at"o") aj aG))
theorem M6{M:Model}{α:Type}{f:α->PUnit->Sem (ForInStep PUnit)}(hf:∀(a:α) (u:PUnit) (R:ForInStep PUnit->Shared->Prop),(∀Cp,R (.yield Cp) s)->wpAny M A (f a u) R E s):
  ∀(l:List α) (u:PUnit) (Q:PUnit->Shared->Prop),(∀u,Q u s)->wpAny M A (forIn l u f) Q E s:=by
 intro l;induction l with
 |nil=>intro u Q h;rw[forIn_nil];exact bu (h u)
 |cons a l aw=>
  intro u Q h;rw[forIn_cons];exact aH (hf a u _ λCp=>aw Cp Q h)
theorem Ow{M:Model}{Q:Option Sre.M->Shared->Prop}{x:Str}{b:Bool}(I:kP x=some b)(h:∀m:Sre.M,Q (if b then some m else none) s):wpAny M A (Builtin.Re.reRunToEnd (oT x)) Q E s:=by
 unfold Builtin.Re.reRunToEnd;have aj:((oT x).runFor (4*999+4)).outcome.isSome=true:=by
  unfold kP at I;induction e:((oT x).runFor 4000).outcome with
  |none=>rw[e] at I;injection I
  |some o=>rfl
 refine aH (M5 999 (2 ^ 64) (oT x) (by decide) aj ?_);refine aH (M6 (λi u R md=>?_) _ _ _ λu=>?_)
 ·split
  ·exact aH (wpAny_rule (bu (md _)))
  ·exact bu (md _)
 ·show wpAny M A (match((oT x).runFor 4000).outcome with |some .matched=>pure (some _) |some .failed=>pure none |some (.stuck why)=>unsupported _ |none=>unsupported _) Q E s;unfold kP at I;induction e:((oT x).runFor 4000).outcome with
  |none=>rw[e] at I;injection I
  |some o=>
   rw[e] at I;replace I:=I;induction o with
   |matched=>obtain rfl:=bT I;exact bu (h _)
   |failed=>obtain rfl:=bT I;exact bu (h KY)
   |stuck=>injection I
where
 KY:Sre.M:=Sre.forSearch #[] #[] 0 0 0 false
theorem Dp:Slot "re.Pattern" "search" "re.Pattern.search":=
 .of (owner:="re.Pattern") (n:="search") (by rw[typeLookup_type,mr];kernel_rfl) (by kernel_rfl) (by kernel_rfl) (by kernel_rfl)
  (by first |exact .inl (by decide+kernel) |exact .inr (by decide+kernel)) (by rw[isSubtype_type];kernel_rfl)
theorem JJ:typeOf (.builtin "re.Pattern.search")=pure (.type "method_descriptor"):=by show builtinType _=_;rw[builtinType_eq_fast];kernel_rfl
theorem Jy:entryFor table "re.Pattern.search"=some Builtin.«re.Pattern.search»:=entryFor_of_tree (by kernel_rfl)
theorem IC:PlainAttrs "re.Pattern":=⟨⟨"object.__getattribute__",by rw[typeLookup_type,mr];kernel_rfl,by kernel_rfl⟩,by rw[typeLookup_type,mr];kernel_rfl⟩
theorem JO(a b:Value):argsOk "re.Pattern.search" ⟨[a,b],[]⟩:=by unfold argsOk;kernel_rfl
theorem xy(w:World):(KF w).lookup 43=some {cls:= .type "re.Pattern",data:= .fields #[.str "\\.\\d+$" 292,.int 256 319,.int 0 0,.none,.none,.ref 42,.int 0 0]}:=by kernel_rfl
theorem Q2(w:World):(KF w).lookup 42=some {cls:= .type "tuple",data:= .seq (g9.map λc=> .int (c:Nat) 0)}:=by kernel_rfl
theorem IK:Typed w (.val (.ref 43)) "re.Pattern":=λW s v g e=>by
 rw[show v= .ref 43 from e];exact⟨⟨_,g.K _ _ (xy w),rfl⟩,λa q=>by(injection q with bB;subst bB);exact⟨_,g.K _ _ (xy w),rfl⟩⟩
theorem J1{x:Str}{b:Bool}(I:kP x=some b)(ag:x.length<=sizeLine):Cl prog w n (.builtin "re.Pattern.search") [.val (.ref 43),.str x] (if b then .obj "re.Match" else .none):=λW A s vs Q E ai g low oL h=>by
 refine bj oL λ_ _ ax aD rE=>?_;refine bj rE λ_ _ a8 oE d7=>?_;refine aP oE λu bW=>?_;subst ax a8 bW;rw[show _=[] from d7,show _=Value.ref 43 from aD];refine wpAny_call_entry Dp ⟨_,g.K _ _ (xy w),rfl⟩ Jy ?_ (JO _ _);have qn:Builtin.Re.reNamed "re.Pattern.search" "search" ["string","pos","endpos"] 1 [.str x u] []=pure [some (.str x u),none,none]:=by kernel_rfl
 have key:wpAny (model prog w) A.in1 (Builtin.Re.reTarget "re.Pattern.search" "search" ⟨[.ref 43,.str x u],[]⟩) (λt s'=>t={pattern:= .ref 43,string:= .str x u,code:=g9,text:=x.cps,kind:=0,groups:=0,pos:=0,lim:=x.cps.size}/\s'=s) E s:=by
  unfold Builtin.Re.reTarget;refine aH (wpAny_of_eq qn ?_);refine aH (bu (aH (bu ?_)));refine aH (wpAny_fieldsOf (g.K _ _ (xy w)) rfl ?_);refine aH (show wpAny _ _ (Builtin.Re.reTextOf (.str x u)) _ _ _ from aH (bu (bu ?_)));refine aH (show wpAny _ _ (Builtin.Re.reNoCollectionInside (.str x u) 0) _ _ _ from bu ?_);refine aH (show wpAny _ _ (do return ((<-seqItems? (.ref 42)).getD #[]).map Builtin.Re.reRawOf) _ _ _ from aH (wpAny_seqItems (g.K _ _ (Q2 w)) rfl (bu ?_)));refine bu ⟨?_,rfl⟩;have ab:(Array.map (λz=>z.toNat) (Array.map Builtin.Re.reRawOf (Option.getD (some (g9.map λc=>Value.int (c:Nat) 0)) #[])))=g9:=by kernel_rfl
  have ae:min (Int.toNat 0) x.cps.size=0:=by exact rfl
  have aC:min (Int.toNat (2 ^ 63 - 1)) x.cps.size=x.cps.size:=by
   have:x.cps.size<=sizeLine:=ag;have hs:sizeLine=2 ^ 24:=rfl;walk_at"o"
  simp only[ab,ae,aC];rfl
 refine aH (m:=Builtin.Re.reTarget "re.Pattern.search" "search" ⟨[.ref 43,.str x u],[]⟩) (dV key (λt s' q=>?_) λ_ _ e=>e);refine aE q λru uR=>?_;subst ru;subst uR;show wpAny _ _ (do
  match<-Builtin.Re.reRunToEnd (oT x) with
  |some m=>ret (<-Builtin.Re.reNewMatch (.ref 43) (.str x u) 0 0 x.cps.size m)
  |none=>ret .none) _ _ _
 refine aH (Ow I λm=>?_);induction b with
 |false=>exact bu ⟨_,rfl,h _ _ rfl (.refl _) g⟩
 |true=>
  show wpAny _ _ (do ret (<-Builtin.Re.reNewMatch (.ref 43) (.str x u) 0 0 x.cps.size m)) _ _ _;refine aH ?_;unfold Builtin.Re.reNewMatch;show wpAny _ _ (do newFields "re.Match" [.str x u,.ref 43,rawInt ((0:Nat):Int),rawInt ((x.cps.size:Nat):Int),rawInt m.lastindex, <-newTuple (rawInt (m.start:Nat)::rawInt (m.handed:Nat)::[])]) _ _ _;refine aH (iq ?_ (by show(2:Nat)<=_;decide));refine iq (bu ⟨_,rfl,?_⟩) (by show(6:Nat)<=_;decide);refine h _ _ ⟨_,_,rfl,?_,dc _ rfl,rfl⟩ ((Ext.push ..).trans (.push ..)) ((g.push _).push _);exact(low.kt (.of λ_ _ e=>dZ _ e)).fresh
theorem N3:Meth "re.Pattern" "search" "re.Pattern.search":=⟨IC,Dp,JJ⟩
theorem Jd:hb prog w (.obj "re.Match") true:=λW A s _ Q E r g oJ h=>by
 refine iC oJ λa o e _ aj U=>?_;subst e;have bD:s.TypeIs (.ref a) "re.Match":=⟨o,aj,U⟩
 unfold truthy callSpecial?;refine aH (aH (wpAny_specialOf bD (show typeLookup (.type "re.Match") "__bool__"=pure none by rw[typeLookup_type,mr];kernel_rfl) (bu ?_)));refine aH (wpAny_specialOf bD (show typeLookup (.type "re.Match") "__len__"=pure none by rw[typeLookup_type,mr];kernel_rfl) ?_);exact bu (h _ (.refl s) g)
theorem bS{x y:Str}{p:ak}(h:(y==x)=false)(e:m.lookup y=some q):List.lookup y ((x,p)::m)=some q:=by
 rw[di,h];exact e
theorem qT{sc:Scope}{x:Str}{k:NameKind}(h:c5 env sc)(ar:k≠ .free)(e:sc.names.lookup x=some k):env.kindOf x=some k:=h.kind x k ar e
theorem N1{sc:Scope}{x:Str}(h:c5 env sc)(e:sc.names.lookup x=some .cell):(env.cells.lookup x).isSome=true:=h.cell x (.inl e)
variable {O heads names order out gN:List Str}
theorem kinds_of{sc:Scope}(h:(names.all λx=>sc.names.lookup x==some .local||sc.names.lookup x==some .cell)=true):
  ∀L,∀x∈names,sc.names.lookup x=some .local\/(sc.names.lookup x=some .cell/\((cellsFrom (L+1) sc.names []).lookup x).isSome=true):=by
 intro L x ag;have:=iP.mp h x ag;rcases Bool.or_eq_true_iff.mp this with q |q
 ·exact .inl (gz.mp q)
 ·exact .inr ⟨gz.mp q,cellsFrom_some (.inr (gz.mp q))⟩
theorem ra{α:Type}{l:List α}{G:Prop}(h:l.length=n+1)(k:∀x r,l=x::r->r.length=n->G):G:=by
 rcases l with _ |⟨x,r⟩
 ·injection h
 ·exact k x r rfl (Nat.succ.inj h)
variable {fd:FuncData}
theorem bind1{a:Str}(h:∀x,bindArgs fd ⟨[x],[]⟩=pure [(a,x)])(vs:List Value)(l:vs.length=[a].length):bindArgs fd ⟨vs,[]⟩=pure ([a].zip vs):=
 ra l λx r e l=>by rw[e,List.length_eq_zero_iff.mp l];exact h x
theorem sZ{a b:Str}(h:∀x y,bindArgs fd ⟨[x,y],[]⟩=pure [(a,x),(b,y)])(vs:List Value)(l:vs.length=[a,b].length):bindArgs fd ⟨vs,[]⟩=pure ([a,b].zip vs):=
 ra l λx r e l=>ra l λy r' aO l=>by rw[e,aO,List.length_eq_zero_iff.mp l];exact h x y
theorem PW{a b c:Str}(h:∀x y z,bindArgs fd ⟨[x,y,z],[]⟩=pure [(a,x),(b,y),(c,z)])(vs:List Value)(l:vs.length=[a,b,c].length):bindArgs fd ⟨vs,[]⟩=pure ([a,b,c].zip vs):=
 ra l λx r e l=>ra l λy r' aO l=>ra l λz eY B4 l=>by rw[e,aO,B4,List.length_eq_zero_iff.mp l];exact h x y z
theorem M7:nsIn (KF w) 3 "IPV4_RE"=some (some (.ref 43)):=by kernel_rfl
theorem zL:nsIn (KF w) 3 "is_HDN"=some (some (.ref 50)):=by kernel_rfl
theorem uH:nsIn (KF w) 3 "domain_match"=some (some (.ref 57)):=by kernel_rfl
theorem KU:nsIn (KF w) 3 "reach"=some (some (.ref 64)):=by kernel_rfl
theorem lN{e:Expr}{i:Int}(he:Ev prog w n env m e (.int i)):Ev prog w n env m (.UnaryOp .USub e pos) (.int (-i)):=λW A s Q E ai x h=>by
 show wpAny _ _ (do let v<-eval e env;standAt pos;holding [v] (unaryOp .USub v)) _ _ _;refine aH (he W A s _ E ai x λv au aq az aF=>aH (wpAny_standAt (fY ?_)));refine aP aq λt aU=>?_;subst aU;exact PyProof.Rows.neg_int (h _ _ ⟨_,rfl⟩ (az.trans (.tok au _)) aF)
theorem JY{e:Expr}{x:Str}{b:Bool}(ar:env.kindOf "IPV4_RE"=some .globalImplicit)(he:Ev prog w n env m e (.str x))(I:kP x=some b)(ag:x.length<=sizeLine)(hs:starEach [e] env=[(false,eval e env)])(gO:(apos.endLine==pos.line)=true):
  bV prog w n env m (.Call (.Attribute (.Name "IPV4_RE" bX) "search" apos) [e] [] pos) b:=by
 refine bV.plain (j4 N3 (fL ar M7 (by kernel_rfl)) IK (aK.cons he aK.nil hs) (J1 I ag) (by rw[hs];rfl) rfl (by rw[hs];rfl) gO) ?_ (λ_=>rfl);cases b
 ·exact hb.none
 ·exact Jd
def cw(prog:Program)(w:World)(p:ak)(ps:List ak):Prop:=
 ∀(W:Addr->Prop) (A:Around) (s:Shared) (v:Value) (Q:Value->Shared->Prop) (E:Value->Shared->Prop),bK 0 A->G w s.heap->eI W s.heap->a6 w s.heap W p v->
  (∀(bh:Addr) (fp wr:List Addr) (P:Nat->Value->Prop) (T:Nat->Heap->Prop) (aL:Shared),Ext s aL->G w aL.heap->Walks prog w A bh fp wr ps.length P T->T 0 aL.heap->(∀b∈wr,s.heap.get? b=none)->(∀b∈fp,(∃o,aL.heap.get? b=some o)/\¬cc b)->(∀i h,T i h->∀b∈wr,∃o,h.get? b=some o/\cx o)->(∀b∈fp,b∈wr\/((∃o,s.heap.get? b=some o)/\(cb p->¬W b)))->
   (∀i u,P i u->∃q,ps[i]? =some q/\a6 w s.heap W q u)->Q (.ref bh) aL)->wpAny (model prog w) A (pyIter v) Q E s
variable {vT:Prop}
theorem Eb{a:Addr}(ai:bK 0 A)(g:G w s.heap)(low:eI W s.heap)
  (aj:s.heap.get? a=some {cls:= .type "list",data:= .seq ⟨vs⟩ n}) (hs:bJ w s.heap W ps vs) (BU:vT->¬W a)
  (h:∀(bh:Addr) (fp wr:List Addr) (P:Nat->Value->Prop) (T:Nat->Heap->Prop) (aL:Shared),Ext s aL->G w aL.heap->Walks prog w A bh fp wr ps.length P T->T 0 aL.heap->(∀b∈wr,s.heap.get? b=none)->(∀b∈fp,(∃o,aL.heap.get? b=some o)/\¬cc b)->(∀i h,T i h->∀b∈wr,∃o,h.get? b=some o/\cx o)->(∀b∈fp,b∈wr\/((∃o,s.heap.get? b=some o)/\(vT->¬W b)))->
   (∀i u,P i u->∃q,ps[i]? =some q/\a6 w s.heap W q u)->Q (.ref bh) aL):wpAny (model prog w) A (pyIter (.ref a)) Q E s:=by
 have ao:s.heap.IsList a ⟨vs⟩:=⟨_,aj,rfl,n,rfl⟩
 refine wpAny_pyIter_list ao ?_;have bY:a≠s.heap.objs.size:=Nat.ne_of_lt (lt_size aj);have aW:=Walks.list (prog:=prog) (w:=w) ai.calm s.heap.objs.size a bY ⟨vs⟩;have e:(⟨vs⟩:Array Value).size=ps.length:=hs.len.symm;rw[e] at aW;refine h _ _ _ _ _ _ (.push ..) (g.push _) aW ⟨⟨_,dc _ rfl,rfl,rfl⟩,ao.push _⟩ (λb I=>?_) (λb I=>?_) (λi h bD b I=>?_) (λb I=>?_) λi u bE=>?_
 ·simp at I;subst I;exact eA _
 ·simp at I;rcases I with rfl |rfl
  ·exact⟨⟨_,dc _ rfl⟩,g.fC (eA _)⟩
  ·exact⟨⟨_,dZ _ aj⟩,g.gf aj eN⟩
 ·simp at I;subst I;refine aE bD λaU _=>?_;refine dK aU λo ax aD _=>?_;exact⟨o,ax,.inl (by rw[aD];decide)⟩
 ·simp at I;rcases I with rfl |rfl
  ·exact .inl (by exact .head _)
  ·exact .inr ⟨⟨_,aj⟩,BU⟩
 ·exact hs.at' (by simpa using bE)
theorem cw.list:cw prog w (.list ps) ps:=λW A s v Q E ai g low RS h=>cg RS λa vs n e aW aj hs=>by subst e;exact Eb ai g low aj hs (λ_=>aW) h
theorem cw.bw:cw prog w (.bw ps) ps:=λW A s v Q E ai g low Rn h=>cg Rn λa vs n e aW aj hs=>by subst e;exact Eb ai g low aj hs (λq=>q.elim) h
theorem cw.tup:cw prog w (.tup ps) ps:=λW A s v Q E ai g low fy h=>by
 refine cg fy λa vs n e l9 aj hs=>?_;subst e;have ao:s.heap.IsTuple a ⟨vs⟩:=⟨_,aj,rfl,n,rfl⟩
 refine wpAny_pyIter_tuple ao ?_;have bY:a≠s.heap.objs.size:=Nat.ne_of_lt (lt_size aj);have aW:=Walks.tuple (prog:=prog) (w:=w) ai.calm s.heap.objs.size a bY ⟨vs⟩;have e:(⟨vs⟩:Array Value).size=ps.length:=hs.len.symm;rw[e] at aW;refine h _ _ _ _ _ _ (.push ..) (g.push _) aW ⟨⟨_,dc _ rfl,rfl,rfl⟩,⟨_,dZ _ aj,rfl,n,rfl⟩⟩ (λb I=>?_) (λb I=>?_) (λi h bD b I=>?_) (λb I=>?_) λi u bE=>?_
 ·simp at I;subst I;exact eA _
 ·simp at I;rcases I with rfl |rfl
  ·exact⟨⟨_,dc _ rfl⟩,g.fC (eA _)⟩
  ·exact⟨⟨_,dZ _ aj⟩,g.gf aj eN⟩
 ·simp at I;subst I;refine aE bD λa7 _=>?_;refine dK a7 λo ax aD _=>?_;exact⟨o,ax,.inl (by rw[aD];decide)⟩
 ·simp at I;rcases I with rfl |rfl
  ·exact .inl (by exact .head _)
  ·exact .inr ⟨⟨_,aj⟩,λ_=>l9⟩
 ·exact hs.at' (by simpa using bE)
noncomputable def fR(cells:List (Str×Addr)):List (Str×NameKind)->List (Str×Addr)->List (Str×Addr)
 |[],acc=>acc
 |(n,k)::r,acc=>if k== .free then fR cells r ((n,(cells.lookup n).getD 0)::acc) else fR cells r acc
theorem Kt{cells:List (Str×Addr)}{y:Str}:∀{names:List (Str×NameKind)} {acc:List (Str×Addr)},y∉names.map (·.1)->(fR cells names acc).lookup y=acc.lookup y:=by
 intro ba;induction ba with
 |nil=>
  intro _ _;exact rfl
 |cons h3 r aw=>
  obtain⟨n,k⟩:=h3;intro acc h;have av:y≠n:=λq=>h (by simp[q]);have bf:y∉r.map (·.1):=λq=>h (by simp at q ⊢;exact .inr q);unfold fR;split
  ·rw[aw bf,di,eF.mpr av]
  ·exact aw bf
theorem wL{cells:List (Str×Addr)}{y:Str}:∀{names:List (Str×NameKind)} {acc:List (Str×Addr)},(names.map (·.1)).Nodup->names.lookup y=some .free->(fR cells names acc).lookup y=some ((cells.lookup y).getD 0):=by
 intro ba;induction ba with
 |nil=>
  intro _ _ h;injection h
 |cons h3 r aw=>
  obtain⟨n,k⟩:=h3;intro acc aA h;simp only[map_cons,nodup_cons] at aA;replace aA:=aA;rw[di] at h;replace h:=h;unfold fR;induction av:y==n with
  |true=>
   rw[av] at h;obtain rfl:=bT h;have e:=eq_of_beq av;subst e;rw[aQ (by decide),Kt aA.1,di,av]
  |false=>
   rw[av] at h;replace h:=h;split
   ·exact aw aA.2 h
   ·exact aw aA.2 h
theorem DS{cells:List (Str×Addr)}{y:Str}{c:Addr}:∀{names:List (Str×NameKind)} {acc:List (Str×Addr)},(fR cells names acc).lookup y=some c->(∀z∈names,z.2= .free->(cells.lookup z.1).isSome=true)->acc.lookup y=some c\/cells.lookup y=some c:=by
 intro ba;induction ba with
 |nil=>
  intro _ h _;exact .inl h
 |cons h3 r aw=>
  obtain⟨n,k⟩:=h3;intro acc h hf;have bf:∀z∈r,z.2= .free->(cells.lookup z.1).isSome=true:=λz hz=>hf z (ey _ hz);unfold fR at h;split at h
  ·rename_i ar;rcases aw h bf with q |q
   ·rw[di] at q;replace q:=q;induction av:y==n with
    |true=>
     rw[av] at q;replace q:=q;have e:=eq_of_beq av;subst e;refine aP (nk.mp (hf _ (cM ..) (eq_of_beq ar))) λc' fx=>?_;rw[fx] at q;obtain rfl:=bT q;exact .inr fx
    |false=>rw[av] at q;exact .inl q
   ·exact .inr q
  ·exact aw h bf
theorem LW(f:Str×NameKind->List (Str×Addr)->Sem (ForInStep (List (Str×Addr))))(hf:∀n k r,f (n,k) r=if(k==NameKind.free)=true then(do let a<-cellOf env n;pure (ForInStep.yield ((n,a)::r))) else pure (ForInStep.yield r)):
  ∀(names:List (Str×NameKind)) (acc:List (Str×Addr)),(∀z∈names,z.2= .free->(env.cells.lookup z.1).isSome=true)->forIn names acc f=pure (fR env.cells names acc):=by
 intro names;induction names with
 |nil=>intro acc _;rw[forIn_nil];rfl
 |cons z r aw=>
  obtain⟨n,k⟩:=z;intro acc hz;have bf:∀z∈r,z.2= .free->(env.cells.lookup z.1).isSome=true:=λz eJ=>hz z (ey _ eJ);rw[forIn_cons,hf];unfold fR;induction ar:k==NameKind.free with
  |true=>
   refine aP (nk.mp (hz _ (cM ..) (eq_of_beq ar))) λc U=>?_;have:cellOf env n=pure c:=by unfold cellOf;rw[U]
   rw[aQ rfl,this,aQ rfl,U];simp only[pure_bind,getD_some];exact aw _ bf
  |false=>
   rw[aI (by decide),aI (by decide)];simp only[pure_bind];exact aw _ bf
variable {scope:Scope}
theorem zc(h:∀z∈scope.names,z.2= .free->(env.cells.lookup z.1).isSome=true):closureFor scope env=pure (fR env.cells scope.names []):=by
 unfold closureFor;show(forIn scope.names [] _ >>=λr=>pure r)=_;rw[LW (env:=env) _ ?hf scope.names [] h]
 ·rfl
 ·intro n k r;rfl
variable {hK h2 host kT qual z:Str}
theorem JI{M:Model}{globals:Addr}{cl:List (Str×Addr)}{Q:Env->Shared->Prop} 
  (a4:Q {scope:=scope,locals:=s.heap.objs.size,globals:=globals,cells:=cellsFrom (s.heap.objs.size+1) scope.names cl,qual:=qual,func:=none,code:=env.code,frame:=env.frame,builtins:=env.builtins}
   {s with heap:=pushCells (s.heap.push {cls:= .type "dict",data:= .dict #[]}) scope.names}):wpAny M A (newFunctionEnv scope globals cl [] qual none .none (some env)) Q E s:=by
 simp only[newFunctionEnv,isSome_some,if_true];refine aH (wpAny_alloc ?_);refine aH (wpAny_layCells _ (λname kind cells=>by cases B1:kind==NameKind.cell<;>exact rfl) _ _ _ _ ?_);rw[show({s with heap:=s.heap.push {cls:= .type "dict",data:= .dict #[]}}:Shared).heap.objs.size=s.heap.objs.size+1 from size_push ..];refine aH ?_;rw[forIn_nil];exact bu (bu a4)
theorem wq{α:Type}:∀{l:List (Str×α)} {y:Str×α},(l.map (·.1)).Nodup->y∈l->l.lookup y.1=some y.2:=by
 intro ba;induction ba with
 |nil=>
  intro _ _ h;exact absurd h b8
 |cons z r aw=>
  intro y aA h;obtain⟨zn,WY⟩:=z;simp only[map_cons,nodup_cons] at aA;replace aA:=aA;rw[di];rcases bI.mp h with rfl |h
  ·walk_at"o"
  ·have:(y.1==zn)=false:=eF.mpr λq=>aA.1 (q▸fX (f:=(·.1)) h);rw[this];exact aw aA.2 h
theorem I2{φ:Str->NameKind->NameKind}{g:Str×NameKind->Str×NameKind}(dj:∀n k,g (n,k)=(n,φ n k)){y:Str}:∀{l:List (Str×NameKind)},(l.map g).lookup y=(l.lookup y).map (φ y):=by
 intro ba;induction ba with
 |nil=>
  exact rfl
 |cons h3 r aw=>
  obtain⟨n,k⟩:=h3;rw[eE,dj,di,di];induction av:y==n with
  |true=>simp[eq_of_beq av]
  |false=>exact aw
theorem CZ{y:Str}:(relabel scope env).names.lookup y=(scope.names.lookup y).map λk=>if(k== .free&&env.scope.kind== .function&&env.kindOf y==some .cell) then NameKind.cell else k:=by
 unfold relabel;exact I2 (φ:=λn k=>if(k== .free&&env.scope.kind== .function&&env.kindOf n==some .cell) then NameKind.cell else k) λn k=>by
  dsimp only;split<;>rfl
def gd(prog:Program)(w:World)(n:Nat)(env:Env)(m:Loc)(ifs:List Expr)(b:Bool):Prop:=
 ∀(W:Addr->Prop) (A:Around) (s:Shared) (Q:Bool->Shared->Prop) (E:Value->Shared->Prop),bK n A->St w env W m s.heap->(∀s',Ext s s'->G w s'.heap->Q b s')->
  wpAny (model prog w) A (forIn ifs true λc r=>if r=true then do let ok<-isTrue c env (eval c env);pure (ForInStep.yield ok) else pure (ForInStep.yield r)) Q E s
variable {C D bh c' ez:Addr} {fp wr ws:List Addr} {use:Option (Value->Sem Unit)} {t:ak->Bool} {hE:Heap->Prop}
theorem gd.nil:gd prog w n env m [] true:=λW A s Q E ai x h=>wpAny_tests_nil (h s (.refl s) x.g)
theorem gd.one{e:Expr}{b:Bool}(he:bV prog w n env m e b):gd prog w n env m [e] b:=λW A s Q E ai x h=>wpAny_tests_one (he W A s Q E ai x h)
structure uA (env:Env) (scope:Scope) (x:Str) (c:Bool) (C:Addr) (cenv:Env):Prop where
 sc:cenv.scope=relabel scope env
 lo:cenv.locals=C
 gl:cenv.globals=env.globals
 bi:cenv.builtins=env.builtins
 ce:cenv.cells=(if c then [(x,C+1)] else [])++fR env.cells scope.names []
structure i6 (scope sc:Scope) (x:Str) (c:Bool):Prop where
 yx:∀k cl,cellsFrom k scope.names cl=(if c then [(x,k)] else [])++cl
 pc:∀h,pushCells h scope.names=if c then h.push {cls:= .type "cell",data:= .cell Option.none} else h
 ag:scope.names.lookup x=some (if c then .cell else .local)
 free:(scope.names.all λy=>y.2 != .free||((sc.names.lookup y.1==some .cell||sc.names.lookup y.1==some .free)&&y.1 != "__classdict__"))=true
 nd:(scope.names.map (·.1)).Nodup
 fn:scope.kind= .function
theorem i6.frees{sc:Scope}{x:Str}{c:Bool}(S:i6 scope sc x c)(a9:c5 env sc):∀z∈scope.names,z.2= .free->(env.cells.lookup z.1).isSome=true/\(env.kindOf z.1=some .cell\/env.kindOf z.1=some .free)/\(z.1==("__classdict__":Str))=false:=λz hz ar=>by
 have:=iP.mp S.free z hz;rw[ar] at this;simp only[bne_self_eq_false,Bool.false_or,Bool.and_eq_true,Bool.or_eq_true,beq_iff_eq] at this;refine aE this λab ae=>?_;refine⟨a9.cell _ ab,?_,by simpa using ae⟩;rcases ab with ab |ab
 ·exact .inl (a9.kind _ _ (by decide) ab)
 ·exact(a9.free _ ab).symm
theorem Dc{sc:Scope}{x:Str}{c:Bool}(S:i6 scope sc x c)(a9:c5 env sc)(V:uA env scope x c C cenv):c5 cenv scope where
 kind:=λy k ar e=>by
  show cenv.scope.names.lookup y=some k;rw[V.sc,CZ,e];rw[map_some,show(k==NameKind.free)=false by exact decide_eq_false ar];rfl
 free:=λy e=>by
  show cenv.scope.names.lookup y=_\/cenv.scope.names.lookup y=_;rw[V.sc,CZ,e];simp only[map_some];split
  ·exact .inr rfl
  ·exact .inl rfl
 cell:=λy q=>by
  rw[V.ce, <-S.yx];refine cellsFrom_some ?_;rcases q with q |q
  ·exact .inr q
  ·left
   rw[wL S.nd q];rfl
 fn:=by rw[V.sc];exact S.fn
theorem uA.st{sc:Scope}{x:Str}{c:Bool}(S:i6 scope sc x c)(a9:c5 env sc)(V:uA env scope x c C cenv){p:ak}{v:Value}(c4:St w env W m h₁)
  (gn:∀y p,mf.lookup y=some p->m.lookup y=some p/\scope.names.lookup y=some .free) (keep:gy h₁ h) (g:G w h) (low:eI W' h) (gu:¬cc C) (A6:c=true->¬cc (C+1)) (tJ:∀b o,o.cls≠ .none->h₁.get? b=some o->(W b↔W' b)) (ag:hA cenv h x v) (aa:a6 w h W' p v):
  St w cenv W' ((x,p)::mf) h:=by
 have fr:=S.frees a9;refine⟨by rw[V.sc];exact S.fn,V.gl.trans c4.gl,V.bi.trans c4.bi,g,low,by rw[V.lo];exact gu,λnm a af=>?_,λy q aG=>?_⟩
 ·rw[V.ce] at af;replace af:=af;have:(if c then [(x,C+1)] else([]:List (Str×Addr))).lookup nm=some a\/(fR env.cells scope.names []).lookup nm=some a:=by
   induction c with
   |false=>exact .inr af
   |true=>
    have af:List.lookup nm ((x,C+1)::fR env.cells scope.names [])=some a:=af;rw[di] at af;replace af:=af;induction av:nm==x with
    |true=>rw[av] at af;left;show List.lookup nm [(x,C+1)]=some a;rw[di,av];exact af
    |false=>rw[av] at af;exact .inr af
  rcases this with q |q
  ·induction c with
   |false=>injection q
   |true=>
    have q:List.lookup nm [(x,C+1)]=some a:=q;rw[di] at q;replace q:=q;induction av:nm==x with
    |true=>rw[av] at q;obtain rfl:=bT q;exact A6 rfl
    |false=>rw[av] at q;injection q
  ·rcases DS q (λz hz ar=>(fr z hz ar).1) with q |q
   ·injection q
   ·exact c4.cZ _ _ q
 ·by_cases e:y=x
  ·subst e;rw[a5] at aG;obtain rfl:=bT aG;exact⟨v,ag,aa⟩
  ·rw[kz e] at aG;refine aE (gn y q aG) λab ae=>?_;refine ah (c4.has y q ab) λu bE eZ=>?_;refine cB (fr (y,.free) (mem_of_lookup ae) rfl) λf1 f2 t5=>?_;refine⟨u,?_,eZ.chg λb o U ct=>⟨c4.g.m6 keep b o U ct,tJ b o U ct⟩⟩;have dT:=(Dc S a9 V).free y ae;rcases bE with⟨bR,_⟩ |⟨_,c',fx,o,aj,hd⟩
   ·rcases f2 with f2 |f2<;>(rw[bR] at f2;exact absurd f2 (by decide))
   ·refine .inr ⟨dT.symm.imp id λk=>⟨k,t5⟩,c',?_,o,keep _ _ (c4.cZ _ _ fx) aj,hd⟩;rw[V.ce];have:(fR env.cells scope.names []).lookup y=some c':=by rw[wL S.nd ae,fx];rfl
    induction c with
    |false=>exact this
    |true=>
     show List.lookup y ((x,C+1)::fR env.cells scope.names [])=some c';rw[di,eF.mpr e];exact this
theorem PN(w:World):((KF w).lookup 271).isSome=true:=by kernel_rfl
theorem G.big(g:G w h):271 < h.objs.size:=by
 refine aP (nk.mp (PN w)) λo e=>?_;exact lt_size (g.K _ _ e)
theorem G.noSys(g:G w h){a:Addr}(af:h.objs.size<=a):(a==sysModules)=false:=by
 have:=g.big;refine eF.mpr λq=>?_;rw[q] at af;have ab:h.objs.size<=1:=af;walk_at"o"
structure AF (D:Addr) (W':Addr->Prop) (K:Heap->Prop):Prop where
 own:∀h,K h->∃o,h.get? D=some o/\cx o
 up:∀h h',K h->(∀o,h.get? D=some o->h'.get? D=some o)->(∀b o,¬W' b->o.cls≠ .none->h.get? b=some o->h'.get? b=some o)->K h'
structure ka (w:World) (K:Nat->Heap->Prop) (wr:List Addr) (s au:Shared) (T:Nat->Heap->Prop) (C:Addr) (c:Bool) (j i:Nat) (s':Shared):Prop where
 same:∃h tk,s'={s with heap:=h,toks:=tk}
 keep:gy au.heap s'.heap
 g:G w s'.heap
 Hu:∀a∈wr,∃o,s'.heap.get? a=some o/\cx o
 tt:T j s'.heap
 acc:K i s'.heap
 ns:∃cH,s'.heap.Ns C cH
 cl:c=true->∃v,s'.heap.IsCell (C+1) v
def pf(wr:List Addr)(D C:Addr)(c:Bool)(a:Addr):Prop:=a∈wr\/a=D\/a=C\/(c=true/\a=C+1)
theorem ka.own{K:Nat->Heap->Prop}{T:Nat->Heap->Prop}{c:Bool}{j:Nat}(P:∀i,AF D W' (K i))(H:ka w K wr s au T C c j i s'):∀a,pf wr D C c a->∃o,s'.heap.get? a=some o/\cx o:=λa af=>by
 rcases af with af |rfl |rfl |⟨U,rfl⟩
 ·exact H.Hu a af
 ·exact(P i).own _ H.acc
 ·refine aP H.ns λcH aA=>?_;refine ah (nj aA) λo e hd=>?_;exact⟨o,e,.inr hd⟩
 ·refine aP (H.cl U) λv aq=>?_;refine ah (uc aq) λo e hd=>?_;exact⟨o,e,.inr hd⟩
theorem ka.step{K:Nat->Heap->Prop}{T:Nat->Heap->Prop}{c:Bool}{j h4 dI:Nat}(P:∀i,AF D W' (K i))(H:ka w K wr s au T C c j i s')(aF:G w au.heap)(xX:∀a,pf wr D C c a->au.heap.get? a=none)
  (jE:∃h tk,b2={s' with heap:=h,toks:=tk}) (k:∀b o,¬pf wr D C c b->s'.heap.get? b=some o->b2.heap.get? b=some o) (bD:T h4 b2.heap) (dD:∀i h,T i h->∀b∈wr,∃o,h.get? b=some o/\cx o)
  (Gk:K dI b2.heap) (p4:∃cH,b2.heap.Ns C cH) (eB:c=true->∃v,b2.heap.IsCell (C+1) v):
  ka w K wr s au T C c h4 dI b2:=by
 refine⟨?_,λb o I e=>k b o (λq=>by rw[xX b q] at e;injection e) (H.keep b o I e),aF.chg H.g (λa af=>⟨xX a af,H.own P a af⟩) k,dD _ _ bD,bD,Gk,p4,eB⟩;refine cn H.same λh tk aU=>?_;subst aU;refine cn jE λh' oQ a7=>?_;subst a7;exact⟨h',oQ,rfl⟩
def om(prog:Program)(w:World)(n:Nat)(env:Env)(m:Loc)(V:Addr->Prop)(hE:Heap->Prop)(ifs:List Expr)(b:Bool):Prop:=
 ∀(W:Addr->Prop) (A:Around) (s:Shared) (Q:Bool->Shared->Prop) (E:Value->Shared->Prop),bK n A->St w env W m s.heap->(∀a,V a->W a)->hE s.heap->(∀s',Ext s s'->G w s'.heap->Q b s')->
  wpAny (model prog w) A (forIn ifs true λc r=>if r=true then do let ok<-isTrue c env (eval c env);pure (ForInStep.yield ok) else pure (ForInStep.yield r)) Q E s
def A4(prog:Program)(w:World)(n:Nat)(env:Env)(m:Loc)(V:Addr->Prop)(hE:Heap->Prop)(e:Expr)(p:ak):Prop:=
 ∀(W:Addr->Prop) (A:Around) (s:Shared) (Q:Value->Shared->Prop) (E:Value->Shared->Prop),bK n A->St w env W m s.heap->(∀a,V a->W a)->hE s.heap->(∀v s',a6 w s'.heap W p v->Ext s s'->G w s'.heap->Q v s')->wpAny (model prog w) A (eval e env) Q E s
def mx(prog:Program)(w:World)(W:Addr->Prop)(A:Around)(s:Shared)(e:Sem Value)(ps:List ak):Prop:=
 ∀(R:Value->Shared->Prop) (E:Value->Shared->Prop),(∀(au:Shared) (bh:Addr) (fp wr:List Addr) (P:Nat->Value->Prop) (T:Nat->Heap->Prop) (aL:Shared),Ext s au->G w au.heap->Ext au aL->G w aL.heap->Walks prog w A bh fp wr ps.length P T->T 0 aL.heap->(∀b∈wr,au.heap.get? b=none)->(∀b∈fp,(∃o,aL.heap.get? b=some o)/\¬cc b)->(∀i h,T i h->∀b∈wr,∃o,h.get? b=some o/\cx o)->
   (∀i u,P i u->∃q,ps[i]? =some q/\a6 w au.heap W q u)->R (.ref bh) aL)->wpAny (model prog w) A e (λjx au=>wpAny (model prog w) A (pyIter jx) R E au) E s
theorem mx.of{iter:Expr}(ai:bK n A)(hQ:St w env W m s.heap)(hit:Ev prog w n env m iter q)(gk:cw prog w q ps):mx prog w W A s (eval iter env) ps:=λR E h=>by
 refine hit W A s _ E ai hQ λjx au aq az aF=>?_;exact gk W A au jx _ E (ai.le (c0 _)) aF (hQ.ext az aF).low aq λbh fp wr P T aL aR aY aW bD fl dQ dD _ b5=>h au bh fp wr P T aL az aF aR aY aW bD fl dQ dD b5
theorem Er{ce iter:Expr}{x:Str}{c:Bool}{sc:Scope}{mk:Sem Value}{ob:Obj}{pv:ak}(K:Addr->(Addr->Prop)->Nat->Heap->Prop){yP:Env->Addr->(Shared->Prop)->(Value->Shared->Prop)->Shared->Prop}
  (ai:bK n A) (hQ:St w env W m s.heap) (a9:c5 env sc) (src:mx prog w W A s (eval iter env) ps) (hs:∀v,foldedSetIterable iter env v=pure v) (S:i6 scope sc x c)
  (gn:∀y p,mf.lookup y=some p->m.lookup y=some p/\scope.names.lookup y=some .free)
  (b5:∀D W' i,AF D W' (K D W' i)) (SS:∀D W' h,h.get? D=some ob->K D W' 0 h)
  (UB:∀it D cenv R (bh:Nat->Shared->Prop),(∀n s,bh n s->wpAny (model prog w) A (pyNext it) (λr au=>match r with
   |none=>R (.ok .next) au
   |some v=>wpAny (model prog w) A (assign (.Name x px) cenv v) (λ_ aL=>yP cenv D (λs=>∃m,m < n/\bh m s) (notedBy (model prog w) A cenv λe s'=>R (.error e) s') aL) (notedBy (model prog w) A cenv λe s'=>R (.error e) s') au) (notedBy (model prog w) A cenv λe s'=>R (.error e) s') s)->∀n s,bh n s->codeAny (model prog w) A (.compLoop ce 0 it (.ref D) cenv) R s)
  (body:∀D cenv (W':Addr->Prop) j p s' F c6,c5 cenv scope->ps[j]? =some p->St w cenv W' ((x,p)::mf) s'.heap->(∀a,W a->W' a)->W' D->gy s.heap s'.heap->(∀b2,Ext s' b2->G w b2.heap->K D W' j b2.heap)->(∀b2 h tk,Ext s' b2->G w b2.heap->SameBut D b2.heap h->K D W' (j+1) h->F {b2 with heap:=h,toks:=tk})->yP cenv D F c6 s')
  (xr:∀D (W' V:Addr->Prop) h,(∀a,V a->W' a)->¬V D->(D==sysModules)=false->K D W' ps.length h->a6 w h V pv (.ref D))
  (cv:∀it acc cenv R s,codeAny (model prog w) A (.compLoop ce 0 it acc cenv) R s->wpAny (model prog w) A (pyIter it) (λT2 s'=>codeAny (model prog w) A (.compLoop ce 0 T2 acc cenv) R s') (notedBy (model prog w) A cenv λx s'=>R (.error x) s') s->codeAny (model prog w) A (.compStart ce 0 it acc cenv) R s)
  (fin:∀(D C:Addr) (s':Shared),Ext s s'->G w s'.heap->s.heap.get? C=none->¬cc C->a6 w s'.heap (λa=>W a\/a=C) pv (.ref D)->(∃cH,s'.heap.Ns C cH)->compPost (model prog w) A E use Q (.ref D) C (.ok .next) s')
  (x2:∀(s:Shared) (Q:Value->Shared->Prop),Q (.ref s.heap.objs.size) {s with heap:=s.heap.push ob}->wpAny (model prog w) A mk Q E s) (gD:ob.isFreed=false)
  (qq:clausesOf ce=[⟨.Name x px,iter,ifs,0⟩]):
  wpAny (model prog w) A (comprehension ce scope env AY mk false (eval iter env) use) Q E s:=by
 have OM:∀y∈scope.names,y.2= .local->scope.names.lookup y.1=some .local:=λy av ar=>by rw[wq S.nd av,ar]
 refine wpAny_comprehension_free (g:=⟨.Name x px,iter,ifs,0⟩) (gs:=[]) qq hs (zc λz hz ar=>(S.frees a9 z hz ar).1) S.fn OM ?_;refine src _ E λau bh fp wr VU T aL az aF aR aY aW bD fl dQ dD me=>?_;have c4:=hQ.ext az aF;refine x2 _ _ ?_;refine JI ?_;generalize gq:aL.heap.objs.size=D;induction D using jH;rename_i D
 generalize BK:aL.heap.push ob=sr;induction sr using jH;rename_i sr
 have Wo:sr.objs.size=D+1:=by rw[<-BK,size_push,gq]
 dsimp only;generalize gu:sr.objs.size=C;induction C using jH;rename_i C
 generalize yb:pushCells (sr.push {cls:= .type "dict",data:= .dict #[]}) scope.names=qG;induction qG using jH;rename_i qG
 have fresh:∀a,aL.heap.objs.size<=a->aL.heap.get? a=none:=λa af=>by
  induction e:aL.heap.get? a with
  |none=>rfl
  |some o=>exact absurd (lt_size e) (Nat.not_lt.mpr af)
 have zU:∀a,aL.heap.get? a=none->¬cc a->au.heap.get? a=none:=λa af I=>by
  induction e:au.heap.get? a with
  |none=>rfl
  |some o=>rw[aR.keep _ _ I e] at af;injection af
 have xW:∀b o,aL.heap.get? b=some o->qG.get? b=some o:=λb o e=>by
  rw[<-yb];refine pushCells_keeps _ _ _ _ (dZ _ ?_);rw[<-BK];exact dZ _ e
 have BM:aL.heap.get? D=none:=fresh D (by walk_at"o");have A9:aL.heap.get? C=none:=fresh C (by walk_at"o");have Aw:aL.heap.get? (C+1)=none:=fresh (C+1) (by walk_at"o");have HN:=aY.fC BM;have vm:=aY.fC A9;have AX:=aY.fC Aw;have Bg:qG.get? D=some ob:=by
  rw[<-yb];refine pushCells_keeps _ _ _ _ (dZ _ ?_);rw[<-BK, <-gq];exact dc _ gD
 have SQ:qG.Ns C λ_=>none:=by
  rw[<-yb, <-gu];exact(Heap.Ns.new sr (.type "dict")).keeps (pushCells_keeps _ _)
 have R9:c=true->qG.IsCell (C+1) none:=λU=>by
  rw[<-yb,S.pc,U];refine⟨{cls:= .type "cell",data:= .cell none},?_,rfl⟩;have:=dc (sr.push {cls:= .type "dict",data:= .dict #[]}) (o:={cls:= .type "cell",data:= .cell none}) rfl
  rwa [size_push,gu] at this
 have HR:∀a,pf wr D C c a->¬cc a:=λa af=>by
  rcases af with af |rfl |rfl |⟨_,rfl⟩
  ·exact(dQ a (aW.sub a af)).2
  ·exact HN
  ·exact vm
  ·exact AX
 have newX:∀a,pf wr D C c a->au.heap.get? a=none:=λa af=>by
  rcases af with af |rfl |rfl |⟨_,rfl⟩
  ·exact fl a af
  ·exact zU _ BM HN
  ·exact zU _ A9 vm
  ·exact zU _ Aw AX
 let W':Addr->Prop:=λa=>W a\/pf wr D C c a
 have tJ:∀b o,o.cls≠ .none->au.heap.get? b=some o->(W b↔W' b):=λb o _ e=>⟨λq=> .inl q,λq=>q.elim id λq=>by rw[newX b q] at e;injection e⟩
 have A2:D∉wr/\D∉fp:=by
  have:D∉fp:=λq=>by refine aE (dQ D q) λbk _=>?_;refine aP bk λo e=>?_;rw[BM] at e;injection e
  exact⟨λq=>this (aW.sub _ q),this⟩
 have A1:C∉wr/\C∉fp:=by
  have:C∉fp:=λq=>by refine aE (dQ C q) λbz _=>?_;refine aP bz λo e=>?_;rw[A9] at e;injection e
  exact⟨λq=>this (aW.sub _ q),this⟩
 have GH:C+1∉wr/\C+1∉fp:=by
  have:C+1∉fp:=λq=>by refine aE (dQ _ q) λb7 _=>?_;refine aP b7 λo e=>?_;rw[Aw] at e;injection e
  exact⟨λq=>this (aW.sub _ q),this⟩
 have Ce:D≠C:=by walk_at"o"
 have Gr:D≠C+1:=by walk_at"o"
 have RN:C≠C+1:=by walk_at"o"
 let cenv:Env:={scope:=relabel scope env,locals:=C,globals:=env.globals,cells:=cellsFrom (C+1) scope.names (fR env.cells scope.names []),qual:=env.qual,func:=none,code:=env.code,frame:=env.frame,builtins:=env.builtins}
 have V:uA env scope x c C cenv:=⟨rfl,rfl,rfl,rfl,by show cellsFrom _ _ _=_;rw[S.yx]⟩
 have lD:c5 cenv scope:=Dc S a9 V;have vy:∀a,pf wr D C c a->W' a:=λa af=> .inr af;have P:=b5 D W';have PY:∀{j i s'},ka w (K D W') wr s au T C c j i s'->eI W' s'.heap:=λH a af=>by
  rcases af with af |af
  ·refine aE (c4.low a af) λcC I=>?_;refine ah cC λo e cF=>?_;exact⟨⟨o,H.keep _ _ I e,cF⟩,I⟩
  ·refine ah (H.own P a af) λo e Tb=>?_;exact⟨⟨o,e,Tb⟩,HR a af⟩
 have bound:∀{j i s'} {p:ak} {v:Value} {R:Unit->Shared->Prop} {c6:Value->Shared->Prop},ka w (K D W') wr s au T C c j i s'->a6 w au.heap W p v->
   (∀b2,ka w (K D W') wr s au T C c j i b2->St w cenv W' ((x,p)::mf) b2.heap->R () b2)->wpAny (model prog w) A (assign (.Name x px) cenv v) R c6 s':=by
  intro j i s' p v R c6 H aq md;have done:∀(a:Addr) (hy:Heap) (tk:Nat),pf wr D C c a->a∉fp->a≠D->SameBut a s'.heap hy->(∃cH,hy.Ns C cH)->(c=true->∃v,hy.IsCell (C+1) v)->hA cenv hy x v->R () {s' with heap:=hy,toks:=tk}:=by
   intro a hy tk af tD Uk bL p4 eB ag;have vr:ka w (K D W') wr s au T C c j i {s' with heap:=hy,toks:=tk}:=H.step P aF newX ⟨_,_,rfl⟩ (λb o I e=>bL.extBut b o (λq=>I (q▸af)) e)
    (aW.frame j _ _ H.tt λb I o e=>bL.extBut b o (λq=>tD (q▸I)) e) dD ((P _).up _ _ H.acc (λo=>bL.extBut _ o (Ne.symm Uk)) λb o I _ e=>bL.extBut b o (λq=>I (vy _ (q▸af))) e) p4 eB
   refine md _ vr ?_;exact uA.st S a9 V c4 gn vr.keep vr.g (PY vr) vm (λ_=>AX) tJ ag (aq.chg λb o U ct=>⟨aF.m6 vr.keep b o U ct,tJ b o U ct⟩)
  induction U:c with
  |false=>
   refine aP H.ns λcH aA=>?_;have ar:cenv.kindOf x=some .local:=lD.kind x _ (by decide) (by rw[S.ag,U];rfl);refine wpAny_assign_Name (wpAny_storeName_local ar aA (λhy uV bL=>done C hy _ (.inr (.inr (.inl rfl))) A1.2 (Ne.symm Ce) bL ⟨_,uV⟩ (λq=>by rw[U] at q;injection q) (.inl ⟨ar,_,uV,by walk_at"o"⟩)) ?_);rw[show cenv.scope.kind= .function from S.fn];rfl
  |true=>
   refine aP (H.cl U) λQs s7=>?_;have ar:cenv.kindOf x=some .cell:=lD.kind x _ (by decide) (by rw[S.ag,U];rfl);have ao:cenv.cells.lookup x=some (C+1):=by rw[V.ce,U];show List.lookup x ((x,C+1)::_)=_;rw[di];walk_at"o"
   refine wpAny_assign_Name (wpAny_storeName_cell (by show scope.kind=_;exact S.fn) ar ao s7 λhy F1 bL=>?_);have:=done (C+1) hy s'.toks (.inr (.inr (.inr ⟨U,rfl⟩))) GH.2 (Ne.symm Gr) bL (aP (H.ns) λcH aA=>⟨cH,aA.sameBut bL RN⟩) (λ_=>⟨_,F1⟩) (.inr ⟨.inl ar,C+1,ao,F1⟩);exact this
 have loop:∀R:Result->Shared->Prop,(∀s',(∃b2,ka w (K D W') wr s au T C c ps.length ps.length b2/\(∃h tk,s'={b2 with heap:=h,toks:=tk})/\∀b o,b∉wr->b2.heap.get? b=some o->s'.heap.get? b=some o)->R (.ok .next) s')->
   ∀s',ka w (K D W') wr s au T C c 0 0 s'->codeAny (model prog w) A (.compLoop ce 0 (.ref bh) (.ref D) cenv) R s':=by
  intro R md s' H;refine UB _ _ _ _ (λk s'=>∃j,k=ps.length+1 - j/\j<=ps.length/\ka w (K D W') wr s au T C c j j s') ?_ (ps.length+1) _ ⟨0,rfl,c0 _,H⟩;intro k s' dg;refine dK dg λj dr aN H=>?_;subst dr;by_cases cu:j < ps.length
  ·refine aW.item j s' _ _ cu H.tt λv h' tk o1 jV cj=>?_;refine ah (me j v o1) λp aa aq=>?_;have H1:ka w (K D W') wr s au T C c (j+1) j {s' with heap:=h',toks:=tk}:=H.step P aF newX ⟨_,_,rfl⟩ (λb o I e=>cj b o (λq=>I (.inl q)) e) jV dD
    ((P _).up _ _ H.acc (λo=>cj _ o A2.1) λb o I _ e=>cj b o (λq=>I (vy _ (.inl q))) e) (aP H.ns λcH aA=>⟨cH,aA.at' (λo=>cj _ o A1.1)⟩) (λU=>dP (H.cl U) λv o aj hd=>⟨v,o,cj _ _ GH.1 aj,hd⟩)
   refine bound H1 aq λgP pB sf=>?_;have ext:∀{i1},Ext gP i1->G w i1.heap->ka w (K D W') wr s au T C c (j+1) j i1:=λ{i1} e kV=>by
    have yj:∀b,pf wr D C c b->∀o,gP.heap.get? b=some o->i1.heap.get? b=some o:=λb I o ct=>e.keep _ _ (HR b I) ct;refine cn pB.same λab t1 dz=>?_;refine cn e.same λae fa bN=>?_;refine⟨⟨ae,fa,by rw[bN,dz]⟩,pB.keep.trans e.keep,kV,?_,?_,(P _).up _ _ pB.acc (yj D (.inr (.inl rfl))) λb o _=>pB.g.m6 e.keep b o,?_,?_⟩
    ·intro a af;refine ah (pB.Hu a af) λo aj aA=>?_;exact⟨o,yj a (.inl af) o aj,aA⟩
    ·exact aW.frame _ _ _ pB.tt λb I o ct=>e.keep _ _ (dQ b I).2 ct
    ·refine aP pB.ns λcH aA=>?_;exact⟨cH,aA.at' (yj C (.inr (.inr (.inl rfl))))⟩
    ·intro U;refine dP (pB.cl U) λv o aj hd=>?_;exact⟨v,o,yj (C+1) (.inr (.inr (.inr ⟨U,rfl⟩))) o aj,hd⟩
   refine body D cenv W' j p gP _ _ lD aa sf (λa=> .inl) (.inr (.inr (.inl rfl))) (az.keep.trans pB.keep) (λb2 e g=>(ext e g).acc) λb2 h tk e g ny bx=>?_;have yM:=ext e g;refine⟨ps.length+1 - (j+1),Nat.sub_lt_sub_left (Nat.lt_succ_of_lt cu) (k6 _),j+1,rfl,cu,?_⟩;exact yM.step P aF newX ⟨_,tk,rfl⟩ (λb o I e=>ny.extBut b o (λq=>I (.inr (.inl q))) e) (aW.frame _ _ _ yM.tt λb I o e=>ny.extBut b o (λq=>A2.2 (q▸I)) e) dD
     bx (aP yM.ns λcH aA=>⟨cH,aA.sameBut ny Ce.symm⟩) (λU=>dP (yM.cl U) λv o aj hd=>⟨v,o,ny.extBut _ _ Gr.symm aj,hd⟩)
  ·have rV:j=ps.length:=Nat.le_antisymm aN (Nat.not_lt.mp cu);subst rV;refine aW.done s' _ _ H.tt λh' tk cj=>?_;exact md _ ⟨s',H,⟨_,_,rfl⟩,cj⟩
 have Io:ka w (K D W') wr s au T C c 0 0 {aL with heap:=qG}:=by
  refine cn az.same λab t1 dz=>?_;refine cn aR.same λae fa bN=>?_;refine⟨⟨qG,aL.toks,by rw[bN,dz]⟩,aR.keep.trans (.of xW),aY.keeps xW,λa af=>?_,aW.frame 0 _ _ bD λb _ o e=>xW b o e,SS _ _ _ Bg,⟨_,SQ⟩,λU=>⟨_,R9 U⟩⟩;refine ah (dD 0 _ bD a af) λo e aA=>?_;exact⟨o,xW _ _ e,aA⟩
 have yi:=loop (compPost (model prog w) A E use Q (.ref D) C) (λs' e8=>by
  refine dK e8 λb2 H e6 ar=>?_;refine cn e6 λh' oQ hV=>?_;subst hV;have nw:∀b o,¬cc b->au.heap.get? b=some o->b∉wr:=λb o _ e q=>by rw[fl b q] at e;injection e
  refine fin D C _ ⟨?_,λb o I e=>ar b o (nw b o I (az.keep _ _ I e)) (H.keep b o I (az.keep _ _ I e))⟩ (aF.chg H.g (λa af=>⟨newX a af,H.own P a af⟩) λb o I e=>ar b o (λq=>I (.inl q)) e) ?_ vm (xr D W' _ _ (λa q=>q.elim .inl λq=> .inr (.inr (.inr (.inl q)))) ?_ (aY.noSys (Nat.le_of_eq gq)) ((P _).up _ _ H.acc (λo=>ar _ o A2.1) λb o I _ e=>ar b o (λq=>I (vy _ (.inl q))) e)) (aP H.ns λcH aA=>⟨cH,aA.at' (λo=>ar _ o A1.1)⟩)
  ·refine cn H.same λab t1 dz=>?_;exact⟨h',oQ,by rw[dz]⟩
  ·induction e:s.heap.get? C with
   |none=>rfl
   |some o=>have:=az.keep _ _ vm e;rw[newX C (.inr (.inr (.inl rfl)))] at this;injection this
  ·rintro(q |q)
   ·refine aE (c4.low D q) λc1 _=>?_;refine ah c1 λo e cF=>?_;rw[newX D (.inr (.inl rfl))] at e;injection e
   ·exact Ce q) _ Io
 refine cv _ _ _ _ _ yi ?_;exact aW.self 0 _ _ _ Io.tt yi
theorem DN{iter:Expr}{x:Str}{f:ak->ak}{c:Bool}{sc:Scope} 
  {V:Addr->Prop} {hE:Heap->Prop} (ai:bK n A) (hQ:St w env W m s.heap) (n5:∀a,V a->W a) (me:∀h h',gy h h'->hE h->hE h') (tj:hE s.heap) (a9:c5 env sc) (src:mx prog w W A s (eval iter env) ps) (hs:∀v,foldedSetIterable iter env v=pure v) (S:i6 scope sc x c)
  (gn:∀y p,mf.lookup y=some p->m.lookup y=some p/\scope.names.lookup y=some .free) (hz:ps.length<=sizeLine) (cN:∀p∈ps,t p=true->cb (f p))
  (tests:∀p∈ps,∀cenv,c5 cenv scope->om prog w n cenv ((x,p)::mf) V hE ifs (t p)) (elts:∀p∈ps,t p=true->∀cenv,c5 cenv scope->A4 prog w n cenv ((x,p)::mf) V hE elt (f p))
  (fin:∀(D C:Addr) (s':Shared),Ext s s'->G w s'.heap->s.heap.get? C=none->¬cc C->a6 w s'.heap (λa=>W a\/a=C) (.list ((ps.filter t).map f)) (.ref D)->(∃cH,s'.heap.Ns C cH)->compPost (model prog w) A E use Q (.ref D) C (.ok .next) s'):
  wpAny (model prog w) A (comprehension (.ListComp elt [⟨.Name x px,iter,ifs,0⟩] scope pos) scope env AY (newList []) false (eval iter env) use) Q E s:=by
 have et:∀j,dB (((ps.take j).filter t).map f):=λj=>kF λp aa=>by
  refine ah (bA.mp aa) λp' f6 c2=>?_;subst c2;exact cN p' (mem_of_mem_take (ew.mp f6).1) (ew.mp f6).2
 refine Er (yP:=λcenv D F E aL=>wpAny (model prog w) A (forIn ifs true λc r=>if r=true then do let ok<-isTrue c cenv (eval c cenv);pure (ForInStep.yield ok) else pure (ForInStep.yield r)) (λok ef=>if ok=true then wpAny (model prog w) A (eval elt cenv) (λx c9=>wpAny (model prog w) A (call (.builtin "list.append") [.ref D,x]) (λ_=>F) E c9) E ef else F ef) E aL)
  (pv:= .list ((ps.filter t).map f)) (ob:={cls:= .type "list",data:= .seq ⟨[]⟩}) (λD W' j h=>∃k ys,h.get? D=some {cls:= .type "list",data:= .seq ⟨ys⟩ k}/\bJ w h W' (((ps.take j).filter t).map f) ys) ai hQ a9 src hs S gn
  (λD W' i=>⟨λh H=>dP H λk ys e _=>⟨_,e,.inl (λq=>by injection q with q;exact absurd q (by decide))⟩,λh h' H k₁ k₂=>dP H λk ys ax aD=>⟨k,ys,k₁ _ ax,aD.upd (λb o I U e=>⟨k₂ b o I U e,I⟩) (et i)⟩⟩)
  (λD W' h e=>⟨0,[],e,rfl⟩)
  (λit D cenv R bh turn n s h=>codeAny_compLoop_tests bh turn n h)
  (λD cenv W' j p gP F c6 lD aa sf aW gq kt bx m7=>?_)
  (λD W' V h n5 pk _ H=>dP H λk ys a1 a2=>⟨D,ys,k,rfl,pk,a1,by have:=a2.upd (λb o I _ e=>⟨e,λq=>I (n5 b q)⟩) (et _);rwa [take_length] at this⟩)
  (λit acc cenv R s h0 h=>codeAny_compStart_list h0 h) fin (λs Q h=>iq h (c0 _)) rfl rfl
 have lC:p∈ps:=eW aa;refine tests p lC cenv lD W' A gP _ _ ai sf (λa af=>aW a (n5 a af)) (me _ _ kt tj) λmD lq vd=>?_;have vK:ps.take (j+1)=ps.take j++[p]:=by rw[hO,aa];rfl
 induction xM:t p with
 |false=>
  rw[aI Bool.false_ne_true];refine m7 mD mD.heap mD.toks lq vd (.refl ..) ?_;rw[vK,j7];simpa[xM] using bx _ lq vd
 |true=>
  rw[aQ rfl];refine elts p lC xM cenv lD W' A mD _ _ ai (sf.ext lq vd) (λa af=>aW a (n5 a af)) (me _ _ (kt.trans lq.keep) tj) λy oA av uQ vh=>?_;refine dP (bx _ (lq.trans uQ) vh) λk ys a1 a2=>?_;have hlen:ys.length<=sizeLine:=by
   rw[<-a2.len,bO];exact ei (ei (length_filter_le _ _) (by rw[length_take];exact Nat.min_le_right ..)) hz
  refine wpAny_list_append_plain (items:=⟨ys⟩) ⟨k,a1⟩ (λAv Pk ny=>?_) hlen;refine aP Pk λVe Sj=>?_;refine m7 oA Av oA.toks (lq.trans uQ) vh ny ⟨Ve,ys++[y],by simpa using Sj,?_⟩;rw[vK,j7,dY];have Cg:([p].filter t).map f=[f p]:=by simp[xM]
  rw[Cg];have up:=λb o (I:¬W' b) (_:o.cls≠ .none) e=>And.intro (ny.extBut b o (λq=>I (q▸gq)) e) I;exact(a2.upd up (et _)).app (.one (av.upd up (cN p lC xM)))
theorem Ec{iter:Expr}{x:Str}{f:ak->ak}{c:Bool}{sc:Scope}(ai:bK n A)(hQ:St w env W m s.heap)(n5:∀a,V a->W a)(me:∀h h',gy h h'->hE h->hE h')(tj:hE s.heap)(a9:c5 env sc)(src:mx prog w W A s (eval iter env) ps)(S:i6 scope sc x c)
  (gn:∀y p,mf.lookup y=some p->m.lookup y=some p/\scope.names.lookup y=some .free) (hz:ps.length<=sizeLine) (cN:∀p∈ps,t p=true->cb (f p))
  (tests:∀p∈ps,∀cenv,c5 cenv scope->om prog w n cenv ((x,p)::mf) V hE ifs (t p)) (elts:∀p∈ps,t p=true->∀cenv,c5 cenv scope->A4 prog w n cenv ((x,p)::mf) V hE elt (f p))
  (hs:∀v,foldedSetIterable iter env v=pure v) (h:∀v s',a6 w s'.heap W (.list ((ps.filter t).map f)) v->Ext s s'->G w s'.heap->Q v s'):wpAny (model prog w) A (eval (.ListComp elt [⟨.Name x px,iter,ifs,0⟩] scope pos) env) Q E s:=by
 rw[eval_ListComp];refine DN (use:=none) ai hQ n5 me tj a9 src hs S gn hz cN tests elts λD C s' e g gu Cr aq aA=>?_;refine aP aA λcH aA=>?_;refine⟨cH,aA,λh' bL=>?_⟩;refine ah (nj aA) λo aj hd=>?_;have aO:Ext s {s' with heap:=h'}:=by
  refine cn e.same λab t1 dz=>?_;exact⟨⟨h',t1,by rw[dz]⟩,λb ob I ct=>bL.extBut b ob (λq=>by rw[q,gu] at ct;injection ct) (e.keep b ob I ct)⟩
 refine h _ _ ?_ aO (hQ.g.set g gu aj hd bL);have et:cb (.list ((ps.filter t).map f)):=by
  show dB _;refine kF λp aa=>?_;refine ah (bA.mp aa) λp' f6 c2=>?_;subst c2;exact cN p' (ew.mp f6).1 (ew.mp f6).2
 exact aq.upd (λb ob I _ ct=>⟨bL.extBut b ob (λq=>I (.inr q)) ct,λq=>I (.inl q)⟩) et
theorem k0{iter:Expr}{x:Str}{f:ak->ak}{c:Bool}{sc:Scope}(a9:c5 env sc)(hit:Ev prog w n env m iter q)(gk:cw prog w q ps)(S:i6 scope sc x c)
  (gn:∀y p,mf.lookup y=some p->m.lookup y=some p/\scope.names.lookup y=some .free) (hz:ps.length<=sizeLine) (cN:∀p∈ps,t p=true->cb (f p))
  (tests:∀p∈ps,∀cenv,c5 cenv scope->gd prog w n cenv ((x,p)::mf) ifs (t p)) (elts:∀p∈ps,t p=true->∀cenv,c5 cenv scope->Ev prog w n cenv ((x,p)::mf) elt (f p))
  (hs:∀v,foldedSetIterable iter env v=pure v):Ev prog w n env m (.ListComp elt [⟨.Name x px,iter,ifs,0⟩] scope pos) (.list ((ps.filter t).map f)):=λW A s Q E ai hQ h=>
 Ec (V:=λ_=>False) (hE:=λ_=>True) ai hQ (λ_ h=>h.elim) (λ_ _ _ _=>trivial) trivial a9 (mx.of ai hQ hit gk) S gn hz cN (λp aa cenv dR W A s Q E ai x _ _ h=>tests p aa cenv dR W A s Q E ai x h) (λp aa aM cenv dR W A s Q E ai x _ _ h=>elts p aa aM cenv dR W A s Q E ai x h) hs h
theorem CV{iter:Expr}{x y:Str}{f:ak->ak}{c:Bool}{sc:Scope}{J:Addr->Prop}{ad:Str->Addr}{Q:Flow->Shared->Prop}(ai:bK n A)(F:b1 w s₀ env W₀ ad J m s)(n5:∀a,V a->bU W₀ env m ad J a)(me:∀h h',gy h h'->hE h->hE h')(tj:hE s.heap)(a9:c5 env sc)(src:mx prog w (bU W₀ env m ad J) A s (eval iter env) ps)(S:i6 scope sc x c)
  (gn:∀y p,mf.lookup y=some p->m.lookup y=some p/\scope.names.lookup y=some .free) (hz:ps.length<=sizeLine) (cN:∀p∈ps,t p=true->cb (f p))
  (tests:∀p∈ps,∀cenv,c5 cenv scope->om prog w n cenv ((x,p)::mf) V hE ifs (t p)) (elts:∀p∈ps,t p=true->∀cenv,c5 cenv scope->A4 prog w n cenv ((x,p)::mf) V hE elt (f p))
  (ar:env.kindOf y=some .local\/(env.kindOf y=some .cell/\(env.cells.lookup y).isSome=true))
  (jn:swapsWith (.ListComp elt [⟨.Name x px,iter,ifs,0⟩] scope pos) (some (.Name y py)) f5.line env=pure true)
  (hs:∀v,foldedSetIterable iter env v=pure v) (h:∀s',b1 w s₀ env W₀ ad J ((y,.list ((ps.filter t).map f))::m) s'->bC (b4 env m ad) (b4 env ((y,.list ((ps.filter t).map f))::m) ad) s s'->Q .next s'):wpAny (model prog w) A (exec (.Assign [.Name y py] (.ListComp elt [⟨.Name x px,iter,ifs,0⟩] scope pos) f5) env) Q E s:=by
 rw[exec_Assign_Name_used _ _ _ _ jn];refine aH (wpAny_standAt (aH ?_));show wpAny _ A (do let _<-comprehension (PySem.Expr.ListComp elt [⟨PySem.Expr.Name x px,iter,ifs,0⟩] scope pos) scope env _ (newList []) false (eval iter env) (some (PySem.assign (PySem.Expr.Name y py) env))) _ _ s;have et:cb (.list ((ps.filter t).map f)):=by
  show dB _;refine kF λp aa=>?_;refine ah (bA.mp aa) λp' f6 eS=>?_;subst eS;exact cN p' (ew.mp f6).1 (ew.mp f6).2
 refine aH (dV (DN (Q:=λ_ s'=>Q .next s') (use:=some (PySem.assign (PySem.Expr.Name y py) env)) ai F.st n5 me tj a9 src hs S gn hz cN tests elts λD C s' e g gu Cr aq aA=>?_) (λ_ s' aG=>bu (bu aG)) λ_ _ e=>e);refine aP aA λcH aA=>?_;refine ah (nj aA) λo aj hd=>?_;have sa:b1 w s₀ env W₀ ad (λa=>J a\/a=C) m s':=F.oF e g (λa af=> .inl af) λa af aN=>by
  rcases af with af |rfl
  ·exact absurd af aN
  ·exact⟨gu,⟨o,aj,.inr hd⟩,Cr⟩
 have Ui:¬J C:=λq=>by
  refine aE (F.st.low C (.inr (.inr (.inr (.inr q))))) λeQ _=>?_;refine ah eQ λbZ aO cF=>?_;rw[gu] at aO;injection aO
 show wpAny _ A (PySem.assign (PySem.Expr.Name y py) env (.ref D)) _ _ _;have TM:a6 w s'.heap (bU W₀ env m ad λa=>J a\/a=C) (.list ((ps.filter t).map f)) (.ref D):=aq.upd (λb ob I _ ct=>⟨ct,λq=>I (by
  rcases q with q |q |q |q |q |q
  ·exact .inl (.inl q)
  ·exact .inl (.inr (.inl q))
  ·exact .inl (.inr (.inr (.inl q)))
  ·exact .inl (.inr (.inr (.inr (.inl q))))
  ·exact .inl (.inr (.inr (.inr (.inr q))))
  ·exact .inr q)⟩) et
 have Sk:env.locals≠C:=λq=>(sa.eg C (.inr rfl)).2.1 q.symm;have Uo:∀nm c,env.cells.lookup nm=some c->c≠C:=λnm c U q=>(sa.eg C (.inr rfl)).2.2.1 nm c U q.symm;refine wpAny_assign_Name (sa.zZ TM et ar λb2 BC keep=>?_);have uV:=aA.at' (h':=b2.heap) λob ct=>keep C ob Sk.symm (λnm c U=>(Uo nm c U).symm) ct;refine⟨cH,uV,λh' bL=>?_⟩;refine ah (nj uV) λWG Qt QG=>?_;have B5:G w h':=F.dM.set BC.st.g (sa.eg C (.inr rfl)).1 Qt QG bL;have VK:b1 w s₀ env W₀ ad J ((y,.list ((ps.filter t).map f))::m) {b2 with heap:=h'}:=BC.ro (λa af=> .inl af) ⟨h',b2.toks,rfl⟩ (λb ob I aM ct=>bL.extBut b ob (λq=>I (.inr q)) ct) B5 λa af=>by
  refine aE (BC.st.low a (.inr (.inr (.inr (.inr (.inl af)))))) λft _=>?_;refine ah ft λn6 fm cF=>?_;exact⟨n6,bL.extBut _ _ (λq=>Ui (q▸af)) fm,cF⟩
 refine h _ VK λb ob I aM ct=>⟨?_,λq=>I (b4.cons et b q)⟩
 have TG:b≠C:=λq=>by rw[q,gu] at ct;injection ct
 exact bL.extBut _ _ TG (keep b ob (λq=>I (.inl q)) (λnm c U q=>I (.inr (.inl ⟨nm,q▸U⟩))) (e.keep b ob aM ct))
theorem sv{Φ:dp->Loc->Prop}{iter:Expr}{x y:Str}{f:ak->ak}{c:Bool}{sc:Scope}(a9:c5 env sc)(hit:Ev prog w n env m iter q)(gk:cw prog w q ps)(S:i6 scope sc x c)
  (gn:∀y p,mf.lookup y=some p->m.lookup y=some p/\scope.names.lookup y=some .free) (hz:ps.length<=sizeLine) (cN:∀p∈ps,t p=true->cb (f p))
  (tests:∀p∈ps,∀cenv,c5 cenv scope->gd prog w n cenv ((x,p)::mf) ifs (t p)) (elts:∀p∈ps,t p=true->∀cenv,c5 cenv scope->Ev prog w n cenv ((x,p)::mf) elt (f p))
  (ar:env.kindOf y=some .local\/(env.kindOf y=some .cell/\(env.cells.lookup y).isSome=true)) (h:Φ .next ((y,.list ((ps.filter t).map f))::m))
  (jn:swapsWith (.ListComp elt [⟨.Name x px,iter,ifs,0⟩] scope pos) (some (.Name y py)) f5.line env=pure true)
  (hs:∀v,foldedSetIterable iter env v=pure v):df prog w n env m (.Assign [.Name y py] (.ListComp elt [⟨.Name x px,iter,ifs,0⟩] scope pos) f5) Φ:=λs₀ W₀ J ad A s E ai F=>
 CV (V:=λ_=>False) (hE:=λ_=>True) ai F (λ_ h=>h.elim) (λ_ _ _ _=>trivial) trivial a9 (mx.of ai F.st hit gk) S gn hz cN (λp aa cenv dR W A s Q E ai x _ _ h=>tests p aa cenv dR W A s Q E ai x h) (λp aa aM cenv dR W A s Q E ai x _ _ h=>elts p aa aM cenv dR W A s Q E ai x h) ar jn hs λs' aS k=>⟨ad,_,aS,k,h⟩
mutual
noncomputable def fc:ak->PyData
 | .none=> .none
 | .bool b=> .bool b
 | .int i=> .int i
 | .str x=> .str x
 | .list l=> .list (d0 l)
 | .bw l=> .list (d0 l)
 | .tup l=> .tuple (d0 l)
 |_=> .none
noncomputable def d0:List ak->List PyData
 |[]=>[]
 |p::r=>fc p::d0 r
end
mutual
def jS:ak->Prop
 | .none=>True
 | .bool _=>True
 | .int _=>True
 | .str x=>PyData.strOk x=true
 | .list l=>gX l
 | .bw l=>gX l
 | .tup l=>gX l
 |_=>False
def gX:List ak->Prop
 |[]=>True
 |p::r=>jS p/\gX r
end
mutual
theorem jS.reads{w:World}{h:Heap}{W:Addr->Prop}:∀{p:ak} {v:Value},jS p->a6 w h W p v->∃as,Reads h v (fc p) as
 | .none,_,_,x=>by rw[show _=Value.none from x];exact⟨_,.none⟩
 | .bool b,_,_,x=>by rw[show _=Value.bool b from x];exact⟨_,.bool b⟩
 | .int i,_,_,⟨t,x⟩=>by rw[x];exact⟨_,.int i t⟩
 | .str y,_,_,⟨t,x⟩=>by rw[x];exact⟨_,.str y t⟩
 | .list l,_,k,⟨a,vs,n,e,_,aj,hs⟩=>by refine aP (gX.reads k hs) λas r=>?_;rw[e];exact⟨_,.list aj rfl rfl r⟩
 | .bw l,_,k,⟨a,vs,n,e,_,aj,hs⟩=>by refine aP (gX.reads k hs) λas r=>?_;rw[e];exact⟨_,.list aj rfl rfl r⟩
 | .tup l,_,k,⟨a,vs,n,e,_,aj,hs⟩=>by refine aP (gX.reads k hs) λas r=>?_;rw[e];exact⟨_,.tuple aj rfl rfl r⟩
 | .dict _ _,_,k,_=>k.elim
 | .eP _ _,_,k,_=>k.elim
 | .val _,_,k,_=>k.elim
 | .obj _,_,k,_=>k.elim
 | .hj _ _ _,_,k,_=>k.elim
 | .lam _,_,k,_=>k.elim
theorem gX.reads{w:World}{h:Heap}{W:Addr->Prop}:∀{p:List ak} {v:List Value},gX p->bJ w h W p v->∃as,ReadsAll h v (d0 p) as
 |[],_,_,x=>by rw[show _=[] from x];exact⟨_,.nil⟩
 |p::r,_,k,⟨v,vs,e,x,y⟩=>by
  refine aP (jS.reads k.1 x) λas ab=>?_;refine aP (gX.reads k.2 y) λbs ae=>?_;rw[e];exact⟨_,.cons ab ae⟩
end
mutual
theorem jS.lay:∀{p:ak},jS p->(fc p).canLay0=true
 | .none,_=>rfl
 | .bool _,_=>rfl
 | .int _,_=>rfl
 | .str _,k=>k
 | .list _,k=>gX.lay k
 | .bw _,k=>gX.lay k
 | .tup _,k=>gX.lay k
 | .dict _ _,k=>k.elim
 | .eP _ _,k=>k.elim
 | .val _,k=>k.elim
 | .obj _,k=>k.elim
 | .hj _ _ _,k=>k.elim
 | .lam _,k=>k.elim
theorem gX.lay:∀{p:List ak},gX p->PyData.canLayAll0 (d0 p)=true
 |[],_=>rfl
 |p::r,k=>by show(_&&_)=true;rw[jS.lay k.1,gX.lay k.2];rfl
end
theorem DL{p:ak}(aa:jS p)(aG:jS q)(hd:min (fc p).depth (fc q).depth<=64):cA prog w (compareOp .Eq) p q (.bool (PyData.eqv (fc p) (fc q))):=λW A s a b Q E r g _ x y h=>by
 refine aP (aa.reads x) λas gT=>?_;refine aP (aG.reads y) λbs fb=>?_;refine SeqAt.compareEq_reads gT fb aa.lay aG.lay ?_ (h _ _ rfl (.refl s) g);have:=r.units;show _ < 9900;walk_at"o"
theorem DO{p:ak}(aa:jS p)(aG:jS q)(hd:min (fc p).depth (fc q).depth<=64):cA prog w (compareOp .NotEq) p q (.bool (!PyData.eqv (fc p) (fc q))):=λW A s a b Q E r g _ x y h=>by
 refine aP (aa.reads x) λas gT=>?_;refine aP (aG.reads y) λbs fb=>?_;refine SeqAt.compareNe_reads gT fb aa.lay aG.lay ?_ (h _ _ rfl (.refl s) g);have:=r.units;show _ < 9900;walk_at"o"
theorem EK{a b:Value}{x:Str}{l:List ak}{p:ak}(aa:p= .list l\/p= .bw l)(ao:gX l)(ag:PyData.strOk x=true)(r:bK 0 A)(af:a6 w s.heap W (.str x) a)(I:a6 w s.heap W p b):
  ∃as bs,Reads s.heap b (.list (d0 l)) as/\Reads s.heap a (.str x) bs/\PyData.canLayAll0 (d0 l)=true/\(PyData.str x).canLay0=true/\A.units+1+min (PyData.depthAll (d0 l)) (PyData.str x).depth < cLine:=by
 have b5:jS p:=by rcases aa with rfl |rfl<;>exact ao
 have e:fc p= .list (d0 l):=by rcases aa with rfl |rfl<;>rfl
 refine aP (b5.reads I) λas gT=>?_;refine aP (jS.reads (p:= .str x) ag af) λbs fb=>?_;refine⟨as,bs,e▸gT,fb,ao.lay,ag,?_⟩;have h0:(PyData.str x).depth=0:=rfl;have:=r.units;rw[h0,Nat.min_zero];show _ < 9900;walk_at"o"
theorem um{x:Str}{l:List ak}(ao:gX l)(ag:PyData.strOk x=true):cA prog w (compareOp .In) (.str x) (.list l) (.bool ((d0 l).any λy=>PyData.eqv y (.str x))):=λW A s a b Q E r g _ af I h=>by
 refine ta (EK (.inl rfl) ao ag r af I) λas bs gT fb ab ae aC=>?_;exact SeqAt.in_list_reads gT fb ab ae aC (h _ _ rfl (.refl s) g)
theorem Jb{x:Str}{l:List ak}(ao:gX l)(ag:PyData.strOk x=true):cA prog w (compareOp .NotIn) (.str x) (.bw l) (.bool (!(d0 l).any λy=>PyData.eqv y (.str x))):=λW A s a b Q E r g _ af I h=>by
 refine ta (EK (.inr rfl) ao ag r af I) λas bs gT fb ab ae aC=>?_;exact SeqAt.notIn_list_reads gT fb ab ae aC (h _ _ rfl (.refl s) g)
theorem Ev.list(h:aK prog w n env m pos es ps)(hz:ps.length<=sizeLine):Ev prog w n env m (.List es pos) (.list ps):=λW A s Q E ai x aG=>by
 refine PyProof.Rows.List_ (h W A s _ E ai x λvs au bb az aF=>?_);refine iq ?_ (by show vs.toArray.size<=_;rw[mm, <-bb.len];exact hz);exact aG _ _ ⟨_,vs,0,rfl,(x.ext az aF).low.fresh,dc _ rfl,bb.mono λb o U e=>dZ _ e⟩ (az.trans (.push ..)) (aF.push _)
theorem Ev.tuple{k:Nat}(h:aK prog w n env m pos es ps)(hz:ps.length<=sizeLine):Ev prog w n env m (.Tuple es k pos) (.tup ps):=λW A s Q E ai x aG=>by
 refine PyProof.Rows.Tuple_ (h W A s _ E ai x λvs au bb az aF=>?_);refine iq ?_ (by show vs.toArray.size<=_;rw[mm, <-bb.len];exact hz);exact aG _ _ ⟨_,vs,0,rfl,(x.ext az aF).low.fresh,dc _ rfl,bb.mono λb o U e=>dZ _ e⟩ (az.trans (.push ..)) (aF.push _)
theorem ue{l:List ak}(hz:l.length+l'.length<=sizeLine):cA prog w (binaryOp .Add) (.list l) (.list l') (.list (l++l')):=λW A s _ _ Q E r g low fy hX h=>by
 refine cg fy λa vs n e aW aj hs=>?_;refine cg hX λb us k aO qm cR eH=>?_;subst e aO;have hC:(⟨vs⟩:Array Value).size+(⟨us⟩:Array Value).size<=sizeLine:=by show vs.length+us.length<=_;rw[<-hs.len, <-eH.len];exact hz
 refine concat_meets ⟨_,aj,rfl⟩ ⟨_,cR,rfl⟩ noFill_list_add seq_list_add PySem.F.slot_list_add PySem.F.entry_list_add (PySem.F.args_list_add_2 _ _) (PyProof.Rows.list_addW a b ⟨vs⟩ ⟨us⟩ n k none none #[] #[] hC) ⟨aj,cR,?_⟩;refine h _ _ ⟨_,vs++us,0,rfl,low.fresh,?_,(hs.app eH).mono λb o U e=>dZ _ e⟩ (.push ..) (g.push _);have e:(⟨vs⟩:Array Value)++⟨us⟩=⟨vs++us⟩:=by simp
 rw[e];exact dc _ rfl
theorem fits63{l:List ak}(e:l.length=vs.length)(hz:l.length<=sizeLine):((⟨vs⟩:Array Value).size:Int) < 2 ^ 63:=by
 have:sizeLine=2 ^ 24:=rfl;show((vs.length:Nat):Int) < _;walk_at"o"
theorem Cl.len{l:List ak}(hz:l.length<=sizeLine):Cl prog w n (.builtin "len") [.list l] (.int l.length):=λW A s _ Q E r g low ki h=>by
 refine bj ki λ_ _ ax aU a8=>?_;refine cg aU λa vs k e aW aj hs=>?_;subst ax e;rw[show _=[] from a8];refine Calls.call_len_list (items:=⟨vs⟩) ⟨_,aj,rfl,k,rfl⟩ (fits63 hs.len hz) (h _ _ ⟨s.toks+1,?_⟩ (.tok s _) g);show Value.int ((vs.length:Nat):Int) _=_;rw[hs.len]
theorem LN{l:List ak}(hz:l.length<=sizeLine):Cl prog w n (.builtin "len") [.bw l] (.int l.length):=λW A s _ Q E r g low mU h=>by
 refine bj mU λ_ _ ax a7 a8=>?_;refine cg a7 λa vs k e aW aj hs=>?_;subst ax e;rw[show _=[] from a8];refine Calls.call_len_list (items:=⟨vs⟩) ⟨_,aj,rfl,k,rfl⟩ (fits63 hs.len hz) (h _ _ ⟨s.toks+1,?_⟩ (.tok s _) g);show Value.int ((vs.length:Nat):Int) _=_;rw[hs.len]
theorem hb.list{l:List ak}(hz:l.length<=sizeLine):hb prog w (.list l) (!l.isEmpty):=λW A s _ Q E r g o6 h=>by
 refine cg o6 λa vs k e aW aj hs=>?_;subst e;refine wpAny_truthy_list (items:=⟨vs⟩) ⟨_,aj,rfl,k,rfl⟩ (fits63 hs.len hz) ?_;have:(!(⟨vs⟩:Array Value).isEmpty)= !l.isEmpty:=by
  have:=hs.len
  (induction l)<;>(induction vs)<;>simp_all
 rw[this];exact h _ (.tok s _) g
theorem sA{i:Int}:Cl prog w n (.type "range") [.int i] (.hj 0 i 1):=λW A s _ Q E r g low oN h=>by
 refine bj oN λ_ _ ax bk a8=>?_;refine aP bk λt e=>?_;subst ax e;rw[show _=[] from a8];exact call_range_1 (h _ _ ⟨_,_,_,_,rfl,low.fresh,dc _ rfl⟩ (.keeps λ_ _ e=>dZ _ e) (g.push _))
theorem JW{i j k:Int}(ar:k≠0)(hs:(j - i).natAbs < 1000/\k.natAbs < 1000):Cl prog w n (.type "range") [.int i,.int j,.int k] (.hj i j k):=λW A s _ Q E r g low o5 h=>by
 refine bj o5 λ_ _ ax bz c1=>?_;refine bj c1 λ_ _ aD b7 dr=>?_;refine bj dr λ_ _ a8 cC bW=>?_;refine aP bz λt e=>?_;refine aP b7 λe2 aO=>?_;refine aP cC λV6 B4=>?_;subst ax e aD aO a8 B4;rw[show _=[] from bW];exact call_range_3 ar (h _ _ ⟨_,_,_,_,rfl,low.fresh,dc _ rfl⟩ (.keeps λ_ _ e=>dZ _ e) (g.push _)) (.inl (PyProof.noPylong_small (by walk_at"o")))
theorem Jp{P:Nat->Value->Prop}{T:Nat->Heap->Prop}(W:Walks prog w A bh fp wr n P T):Walks prog w A bh fp wr n (λi v=>i < n/\P i v) T where
 sub:=W.sub
 frame:=W.frame
 item:=λi s Q E hi st a4=>W.item i s Q E hi st λv h' tk b5=>a4 v h' tk ⟨hi,b5⟩
 done:=W.done
 self:=W.self
noncomputable def iV(a b c:Int):Nat:=(Builtin.Range.rangeSize a b c).toNat
noncomputable def f3(a b c:Int):List ak:=(range (iV a b c)).map λi=> .int (a+(i:Nat)*c)
theorem cw.hj{a b c:Int}(hs:Builtin.Range.small a b c=true)(h0:0<=Builtin.Range.rangeSize a b c):cw prog w (.hj a b c) (f3 a b c):=λW A s v Q E ai g low oL h=>by
 refine vg oL λr t u x e aW aj=>?_;subst e;refine wpAny_pyIter_range aj hs ?_;have hlen:(f3 a b c).length=iV a b c:=by simp[f3]
 refine h s.heap.objs.size _ _ _ _ _ (.push ..) (g.push _) (hlen▸Jp (Walks.range ai.calm s.heap.objs.size a c (iV a b c))) ?_ (λb I=>?_) (λb I=>?_) (λi h bD b I=>?_) (λb I=> .inl I) λi u bE=>?_
 ·have ax:a+((0:Nat):Int)*c=a:=by walk_at"o"
  have aD:((iV a b c:Nat):Int) - ((0:Nat):Int)=Builtin.Range.rangeSize a b c:=by unfold iV;walk_at"o"
  rw[hlen];show IsRangeIter _ _ (a+((0:Nat):Int)*c) (((iV a b c:Nat):Int) - ((0:Nat):Int)) c;rw[ax,aD];exact dc _ rfl
 ·simp at I;subst I;exact eA _
 ·simp at I;subst I;exact⟨⟨_,dc _ rfl⟩,g.fC (eA _)⟩
 ·simp at I;subst I;exact⟨_,bD,.inl (λq=>by injection q with q;exact absurd q (by decide))⟩
 ·obtain⟨hi,t,c2⟩:=bE;subst c2;refine⟨.int (a+(i:Nat)*c),?_,⟨t,rfl⟩⟩;rw[hlen] at hi;simp[f3,hi]
noncomputable abbrev cp(l:List Int):List ak:=l.map .int
theorem xb{l:List Int}(h:(cp l)[i]? =some q):∃(hi:i < l.length),q= .int l[i]:=by
 simp only[cp,getElem?_map,map_eq_some_iff] at h;refine ah h λk ab eS=>?_;subst eS;obtain⟨hi,e⟩:=kG.mp ab;exact⟨hi,by rw[e]⟩
theorem preSum_eq(l:List Int):∀k,k<=l.length->preSum (λi=>l.getD i 0) k=(l.take k).sum:=by
 intro ba;induction ba with
 |zero=>
  intro _;exact rfl
 |succ k aw=>
  intro h;have aw:=aw (by exact lP ‹_›);show preSum _ k+_=_;rw[aw,take_succ_eq_append_getElem (by walk_at"o"),sum_append];simp[List.getD,getElem?_eq_getElem (show k < l.length by walk_at"o")]
theorem Cl.sum{l:List Int}{p:ak}(gk:cw prog w p (cp l)):Cl prog w (n+1) (.builtin "sum") [p] (.int l.sum):=λW A s _ Q E r g low oJ h=>by
 refine bj oJ λv _ ax aq a8=>?_;subst ax;rw[show _=[] from a8];refine call_sum_walkG (gk W A.in1 s v _ E (r.in1.le (c0 _)) g low aq λbh fp wr P T aL aR aY aW bD fl dQ dD _ b5=>?_);refine⟨bh,fp,wr,(cp l).length,P,T,λi=>l.getD i 0,rfl,aW,bD,λb I=>aE (dQ b I) λTH _=>aP TH λo e=>lt_size e,λi v o1=>?_,λh' tk e2 ar=>?_⟩
 ·refine ah (b5 i v o1) λq ab ae=>?_;refine aP (xb ab) λhi eQ=>?_;subst eQ;refine aP ae λt ft=>?_;subst ft;exact⟨t,by simp[List.getD,getElem?_eq_getElem hi]⟩
 ·have hlen:(cp l).length=l.length:=by simp[cp]
  refine h _ _ ⟨e2,?_⟩ ?_ ?_
  ·rw[hlen,preSum_eq l _ (ea _),take_length]
  ·refine cn aR.same λab t1 dz=>?_;exact⟨⟨h',tk,by rw[dz]⟩,λb o I e=>ar b o (λq=>by rw[fl b q] at e;injection e) (aR.keep b o I e)⟩
  ·exact g.chg (X:=λa=>a∈wr) aY (λa af=>⟨fl a af,dD 0 _ bD a af⟩) λb o I e=>ar b o I e
noncomputable def bestOf(lt:Int->Int->Bool)(l:List Int):Int:=l.getD (argBest (λi j=>lt (l.getD i 0) (l.getD j 0)) (l.length - 1)) 0
theorem zm{lt:Int->Int->Bool}{l:List Int}{P:Nat->Value->Prop}(b5:∀i u,P i u->∃q,(cp l)[i]? =some q/\a6 w h W q u)
  (U:∀(a b:Int) (t u:Tok) (s:Shared) (Q:Value->Shared->Prop) (E:Value->Shared->Prop),Q (.bool (lt a b)) s->wpAny (model prog w) A (richCompare op (.int a t) (.int b u)) Q E s):
  CmpOf prog w A op P λi j=>lt (l.getD i 0) (l.getD j 0):=λi j Vh VI s Q E hi aN a4=>by
 refine ah (b5 i Vh hi) λq ab ae=>?_;refine aP (xb ab) λfv fS=>?_;subst fS;refine aP ae λt gg=>?_;subst gg;refine ah (b5 j VI aN) λq ab ae=>?_;refine aP (xb ab) λqg iz=>?_;subst iz;refine aP ae λu iA=>?_;subst iA;refine U _ _ _ _ s Q E ?_;simpa[List.getD,getElem?_eq_getElem fv,getElem?_eq_getElem qg] using a4
variable {kvs:List (Str×Value)}
theorem zu{lt:Int->Int->Bool}{l:List Int}(h0:0 < l.length){P:Nat->Value->Prop}(b5:∀i u,P i u->∃q,(cp l)[i]? =some q/\a6 w h W q u){v:Value} 
  (aq:P (argBest (λi j=>lt (l.getD i 0) (l.getD j 0)) ((cp l).length - 1)) v):a6 w h' W (.int (bestOf lt l)) v:=by
 have hlen:(cp l).length=l.length:=by simp[cp]
 rw[hlen] at aq;refine ah (b5 _ v aq) λq ab ae=>?_;refine aP (xb ab) λhi aU=>?_;subst aU;refine aP ae λt a7=>?_;subst a7;exact⟨t,by unfold bestOf;rw[List.getD,cm hi];rfl⟩
theorem K5{l:List Int}{p:ak}(gk:cw prog w p (cp l))(h0:0 < l.length):Cl prog w (n+1) (.builtin "max") [p] (.int (bestOf (λa b=>decide (b < a)) l)):=λW A s _ Q E r g low fy h=>by
 refine bj fy λv _ ax aq a8=>?_;subst ax;rw[show _=[] from a8];refine call_max_walk (gk W A.in1 s v _ E (r.in1.le (c0 _)) g low aq λbh fp wr P T aL aR aY aW bD fl dQ dD _ b5=>?_);refine⟨bh,fp,wr,(cp l).length,P,T,_,rfl,aW,bD,λb I=>let⟨⟨o,e⟩,_⟩:=dQ b I;lt_size e,by simpa[cp] using h0,zm (lt:=λa b=>decide (b < a)) b5 λa b t u s Q E aG=>PyProof.Rows.gt_int aG,λv h' tk aq ar=>?_⟩;refine h _ _ (zu h0 b5 aq) ?_ ?_
 ·refine cn aR.same λab t1 dz=>?_;exact⟨⟨h',tk,by rw[dz]⟩,λb o I e=>ar b o (λq=>by rw[fl b q] at e;injection e) (aR.keep b o I e)⟩
 ·exact g.chg (X:=λa=>a∈wr) aY (λa af=>⟨fl a af,dD 0 _ bD a af⟩) λb o I e=>ar b o I e
theorem Lm{l:List Int}{p:ak}(gk:cw prog w p (cp l))(h0:0 < l.length):Cl prog w (n+1) (.builtin "min") [p] (.int (bestOf (λa b=>decide (a < b)) l)):=λW A s _ Q E r g low hX h=>by
 refine bj hX λv _ ax aq a8=>?_;subst ax;rw[show _=[] from a8];refine call_min_walk (gk W A.in1 s v _ E (r.in1.le (c0 _)) g low aq λbh fp wr P T aL aR aY aW bD fl dQ dD _ b5=>?_);refine⟨bh,fp,wr,(cp l).length,P,T,_,rfl,aW,bD,λb I=>let⟨⟨o,e⟩,_⟩:=dQ b I;lt_size e,by simpa[cp] using h0,zm (lt:=λa b=>decide (a < b)) b5 λa b t u s Q E aG=>PyProof.Rows.lt_int aG,λv h' tk aq ar=>?_⟩;refine h _ _ (zu h0 b5 aq) ?_ ?_
 ·refine cn aR.same λab t1 dz=>?_;exact⟨⟨h',tk,by rw[dz]⟩,λb o I e=>ar b o (λq=>by rw[fl b q] at e;injection e) (aR.keep b o I e)⟩
 ·exact g.chg (X:=λa=>a∈wr) aY (λa af=>⟨fl a af,dD 0 _ bD a af⟩) λb o I e=>ar b o I e
theorem Ll{a b:Int}:Cl prog w (n+1) (.builtin "max") [.int a,.int b] (.int (bestOf (λa b=>decide (b < a)) [a,b])):=λW A s _ Q E r g low ki h=>by
 refine bj ki λv _ ax aq bk=>?_;refine bj bk λip _ aD jW a8=>?_;subst ax aD;rw[show _=[] from a8];have F2:Ext s {s with heap:=s.heap.push {cls:= .type "tuple",data:= .seq #[v,ip]}}:= .push ..;have dM:=g.push {cls:= .type "tuple",data:= .seq #[v,ip]};have fg:eI W (s.heap.push {cls:= .type "tuple",data:= .seq #[v,ip]}):=low.kt F2.keep;have s7:a6 w (s.heap.push {cls:= .type "tuple",data:= .seq #[v,ip]}) W (.tup (cp [a,b])) (.ref s.heap.objs.size):=⟨_,[v,ip],0,rfl,low.fresh,dc _ rfl,⟨v,[ip],rfl,aq.mono (λb o U e=>dZ _ e),ip,[],rfl,jW.mono (λb o U e=>dZ _ e),rfl⟩⟩
 refine call_max_two (cw.tup W A.in1 _ _ _ E (r.in1.le (c0 _)) dM fg s7 λbh fp wr P T aL aR aY aW bD fl dQ dD _ b5=>?_);refine⟨bh,fp,wr,(cp [a,b]).length,P,T,_,rfl,aW,bD,λb I=>aE (dQ b I) λRl _=>aP Rl λo e=>lt_size e,Nat.zero_lt_succ _,zm (lt:=λa b=>decide (b < a)) b5 λa b t u s Q E aG=>PyProof.Rows.gt_int aG,λv h' tk aq ar=>?_⟩;refine h _ _ (zu (l:=[a,b]) (Nat.zero_lt_succ _) b5 aq) ?_ ?_
 ·refine cn aR.same λab t1 dz=>?_;exact F2.trans ⟨⟨h',tk,by rw[dz]⟩,λb o I e=>ar b o (λq=>by rw[fl b q] at e;injection e) (aR.keep b o I e)⟩
 ·exact dM.chg (X:=λa=>a∈wr) aY (λa af=>⟨fl a af,dD 0 _ bD a af⟩) λb o I e=>ar b o I e
theorem gX.mem:∀{l:List ak} {p:ak},gX l->p∈l->jS p:=by
 intro ba;induction ba with
 |nil=>
  intro _ _ h;exact absurd h b8
 |cons q r aw=>
  intro p f h;rcases bI.mp h with rfl |h
  ·exact f.1
  ·exact aw f.2 h
theorem J9{l:List ak}{j:Nat}(ao:gX l)(aG:jS q)(hd:(fc q).depth<=64)(hz:l.length<=sizeLine)(aN:j < l.length)(hit:PyData.eqv (fc l[j]) (fc q)=true)(ic:∀k (ar:k < l.length),k < j->PyData.eqv (fc l[k]) (fc q)=false):
  Cl prog w n (.builtin "list.index") [.list l,q] (.int j):=λW A s _ Q E r g low mU h=>by
 refine bj mU λ_ _ ax bz b7=>?_;refine bj b7 λv _ aD aq a8=>?_;refine cg bz λa vs k e aW aj hs=>?_;subst ax e aD;rw[show _=[] from a8];refine aP (ao.reads hs) λas rs=>?_;refine aP (aG.reads aq) λbs VD=>?_;have mX:∀i (hi:i < vs.length),SeqAt.readOf s.heap vs[i]=fc (l[i]'(by rw[hs.len];exact hi)):=λi hi=>by
  obtain⟨p,ab,ae⟩:=hs.at' (cm hi);obtain⟨fv,e⟩:=kG.mp ab;have aa:jS p:=ao.mem (eW ab);refine aP (aa.reads ae) λcs Vt=>?_;rw[SeqAt.readOf_eq aa.lay Vt,e]
 have de:sizeLine=2 ^ 24:=rfl;refine call_meets PySem.F.slot_list_index ⟨_,aj,rfl⟩ PySem.F.entry_list_index (PySem.F.args_list_index_2 _ _)
  (SeqAt.list_indexAt a ⟨vs⟩ k none #[] v (λy=>PyData.eqv (SeqAt.readOf s.heap y) (fc q)) j (by show j < vs.length;rw[<-hs.len];exact aN) (by walk_at"o") ?_ ?_) ⟨aj,SeqAt.items_eqAt rs VD ao.lay aG.lay ?_,h _ _ ⟨_,rfl⟩ (.tok s _) g⟩
 ·have qg:j < vs.length:=by rw[<-hs.len];exact aN
  show PyData.eqv (SeqAt.readOf s.heap vs[j]) (fc q)=true;rw[mX j qg];exact hit
 ·intro i hi cu;have fv:i < vs.length:=hi;show PyData.eqv (SeqAt.readOf s.heap vs[i]) (fc q)=false;rw[mX i fv];exact ic i (by rw[hs.len];exact hi) cu
 ·have:=r.units;show _ < 9900;have:Nat.min (PyData.depthAll (d0 l)) (fc q).depth<=64:=ei (Nat.min_le_right _ _) hd;walk_at"o"
theorem Oh:Meth "list" "index" "list.index":=⟨F.plainAttrs_list,F.slot_list_index,F.type_list_index⟩
theorem O1:Meth "str" "join" "str.join":=⟨F.plainAttrs_str,F.slot_str_join,F.type_str_join⟩
noncomputable abbrev aB(l:List Str):List ak:=l.map .str
theorem Ex:∀{l:List Str} {vs:List Value},bJ w h W (aB l) vs->∃ls:List (Str×Tok),strValues ls=vs/\ls.map (·.1)=l:=by
 intro ba;induction ba with
 |nil=>
  intro _ x;exact⟨[],by rw[show _=[] from x];rfl,rfl⟩
 |cons y r aw=>
  intro _ r7;refine bj r7 λv vs e UL z=>?_;refine aP UL λt x=>?_;refine ah (aw z) λls ab ae=>?_;exact⟨(y,t)::ls,by rw[e,x, <-ab];rfl,by rw[eE,ae]⟩
theorem Cl.join{sep:Str}{l:List Str}(ao:(l.toArray.foldl (· +·.length+sep.length) 0)<=sizeLine)(dj:(Builtin.Str.glued sep l).length<=sizeLine):
  Cl prog w n (.builtin "str.join") [.str sep,.list (aB l)] (.str (Builtin.Str.glued sep l)):=λW A s _ Q E r g low o6 h=>by
 refine bj o6 λ_ _ ax cC c2=>?_;refine bj c2 λ_ _ aD c1 a8=>?_;refine aP cC λt dO=>?_;refine cg c1 λa vs k e aW aj hs=>?_;subst ax dO aD e;rw[show _=[] from a8];refine ah (Ex hs) λls eS eQ=>?_;subst eS;subst eQ;refine call_meets PySem.F.slot_str_join (typeIs_str _ _ _) PySem.F.entry_str_join (PySem.F.args_str_join_2 _ _) (meets_str_join_list sep t a ls (by unfold Builtin.Str.tooLong;simpa using ao)) ⟨⟨_,aj,rfl,k,rfl⟩,?_⟩;induction ls with
 |nil=>exact⟨dj,h _ _ ⟨_,rfl⟩ (.tok s _) g⟩
 |cons p r=>
  induction r with
  |nil=>
   refine h _ _ ⟨p.2,?_⟩ (.refl s) g;show Value.str p.1 p.2= .str (Builtin.Str.glued sep [p.1]) p.2;rfl
  |cons q r'=>exact⟨dj,h _ _ ⟨_,rfl⟩ (.tok s _) g⟩
theorem zg{ks:List Str}{es:List DictEntry}(h:KeysAre w ks es):Pairs (strKind prog w) es (ks.zip (es.map (·.val)))/\(∀e∈es,∃k,(strKind prog w).is k e.key=true/\e.hash=hashStr w k)/\es.length=ks.length:=by
 induction ks generalizing es with
 |nil=>rw[show es=[] from h];exact⟨.nil,λe q=>absurd q b8,rfl⟩
 |cons k r aw=>
  refine iC h λe r' ft fS dt bf=>?_;subst ft;refine aP fS λt ar=>?_;refine cB (aw bf) λab ae aC=>?_;have hi:(strKind prog w).is k e.key=true:=by rw[ar];show Value.isStrOf k (.str k t)=true;simp[Value.isStrOf]
  refine⟨.cons hi rfl ab,λaO gj=>?_,by simp[aC]⟩;rcases bI.mp gj with rfl |gj
  ·exact⟨k,hi,dt⟩
  ·exact ae aO gj
theorem KR{es:List DictEntry}(h:Pairs (strKind prog w) es kvs)(ar:∀e∈es,∃k,(strKind prog w).is k e.key=true/\e.hash=hashStr w k):KeysAre w (kvs.map (·.1)) es/\es.map (·.val)=kvs.map (·.2):=by
 induction h with
 |nil=>exact⟨rfl,rfl⟩
 |@cons e kv es kvs ab ae aC aw=>
  refine aE (aw λe he=>ar e (ey _ he)) λeD gH=>?_;refine ah (ar e (cM ..)) λk' bc dA=>?_;have:k'=kv.1:=(strKind prog w).inj _ _ _ bc ab;subst this;refine aP (Value.isStrOf_shape ab) λt aM=>?_;exact⟨⟨e,es,rfl,⟨t,aM⟩,dA,eD⟩,by rw[eE,eE,ae,gH]⟩
theorem q6{a:Addr}{es:List DictEntry}{k:Nat}{ks:List Str}(aj:h.get? a=some {cls:= .type "dict",data:= .dict ⟨es⟩ k})(ar:KeysAre w ks es)(aA:ks.Nodup):h.DictAt (strKind prog w) a (ks.zip (es.map (·.val))) k:=by
 refine cB (zg (prog:=prog) ar) λab ae aC=>?_;refine⟨_,⟨es⟩,aj,⟨rfl,rfl,rfl⟩,rfl,λe he=>ae e (by simpa using he),ab,?_⟩
 rwa [map_fst_zip (by simp[aC])]
theorem uB{a:Addr}(x:h.DictOf (strKind prog w) a kvs):∃es k,h.get? a=some {cls:= .type "dict",data:= .dict ⟨es⟩ k}/\KeysAre w (kvs.map (·.1)) es/\(kvs.map (·.1)).Nodup/\es.map (·.val)=kvs.map (·.2):=by
 refine F6 x λgg iz ep aj iA hd ar aa aA=>?_;obtain⟨c,t2,data,bQ⟩:=gg;obtain⟨es⟩:=iz;refine cB iA λab ae aC=>?_;simp only at ab ae aC hd;subst ab ae aC hd;refine aE (KR aa λe he=>ar e (by simpa using he)) λbc dA=>?_;exact⟨es,ep,aj,bc,aA,dA⟩
noncomputable def dictAt(ks:List Str)(l:List ak)(k:Str):Option ak:=(ks.zip l).lookup k
theorem Kj{k:Str}:valueAt kvs k=kvs.lookup k:=by
 induction kvs with
 |nil=>rfl
 |cons kv r aw=>
  obtain⟨k',v⟩:=kv;unfold valueAt;rw[find?_cons,di];by_cases e:k'=k
  ·subst e;simp
  ·simp only[e,decide_false];rw[show(k==k')=false by simpa using λq:k=k'=>e q.symm];exact aw
theorem J7:∀{ks:List Str} {l:List ak} {vs:List Value} {k:Str},bJ w h W l vs->match dictAt ks l k with |some p=>∃v,(ks.zip vs).lookup k=some v/\a6 w h W p v |none=>(ks.zip vs).lookup k=none:=by
 intro ks;induction ks with
 |nil=>intro _ _ _ _;rfl
 |cons k' ks aw=>
  intro l vs k x;rcases l with _ |⟨p,l⟩
  ·rw[show _=[] from x];rfl
  refine bj x λv en e si y=>?_;subst e;unfold dictAt;rw[zip_cons_cons,zip_cons_cons,di,di];induction ar:k==k' with
  |true=>exact⟨v,rfl,si⟩
  |false=>exact aw y
theorem isKey{x:Str}{t:Tok}:(strKind prog w).is x (.str x t)=true:=by show Value.isStrOf x (.str x t)=true;simp[Value.isStrOf]
theorem wN{a:Addr}{es:List DictEntry}{k:Nat}{ks:List Str}{l:List ak}{x:Str}(aj:h.get? a=some {cls:= .type "dict",data:= .dict ⟨es⟩ k})(ar:KeysAre w ks es)(aA:ks.Nodup)(hs:bJ w h W l (es.map (·.val))):
  ∃f,h.MapOf (strKind prog w) a f/\match dictAt ks l x with |some p=>∃v,f x=some v/\a6 w h W p v |none=>f x=none:=by
 refine⟨_,(q6 (prog:=prog) aj ar aA).dictOf.mapOf,?_⟩;have:=J7 (ks:=ks) (k:=x) hs;rw[Kj];exact this
theorem ub{ks:List Str}{l:List ak}{x:Str}{p:ak}(aa:dictAt ks l x=some p):cA prog w getItem (.dict ks l) (.str x) p:=λW A s _ _ Q E r g _ oN o5 h=>by
 refine iS oN λa es k e aW aj ll hs=>?_;refine cB ll λar aA jg=>?_;refine aP o5 λu aO=>?_;subst e aO;refine ah (wN (prog:=prog) (x:=x) aj ar aA hs) λf ab ae=>?_;rw[aa] at ae;refine ah ae λv aC bc=>?_;exact wpAny_getItem_of isKey ab aC (h _ _ bc (.tok s _) g)
theorem sz{ks:List Str}{l:List ak}{x:Str}{p:ak}(aa:dictAt ks l x=some p):cA prog w getItem (.eP ks l) (.str x) p:=λW A s _ _ Q E r g _ oL oJ h=>by
 refine iS oL λa es k e aW aj oB hs=>?_;refine cB oB λar aA jg=>?_;refine aP oJ λu aO=>?_;subst e aO;refine ah (wN (prog:=prog) (x:=x) aj ar aA hs) λf ab ae=>?_;rw[aa] at ae;refine ah ae λv aC bc=>?_;exact wpAny_getItem_of isKey ab aC (h _ _ bc (.tok s _) g)
theorem LH{ks:List Str}{l:List ak}{x:Str} :Cl prog w n (.builtin "dict.get") [.dict ks l,.str x,q] ((dictAt ks l x).getD q):=λW A s _ Q E r g low vi h=>by
 refine bj vi λ_ _ ax oE uR=>?_;refine bj uR λ_ _ aD ru dr=>?_;refine bj dr λv _ a8 aq bW=>?_;refine iS oE λa es k e aW aj rE hs=>?_;refine cB rE λar aA jg=>?_;refine aP ru λt aO=>?_;subst ax e aD aO a8;rw[show _=[] from bW];refine ah (wN (prog:=prog) (x:=x) aj ar aA hs) λf ab ae=>?_;refine wpAny_call (codeAny_call_builtin F.slot_dict_get.plain F.entry_dict_get (F.slot_dict_get.check _ _ _ _ _ _ _ _ ⟨_,aj,rfl⟩ (F.args_dict_get_3 _ _ _) (meets_dict_get_default (strKind prog w) a isKey jg v A (wants Q E) s ⟨f,ab,?_⟩)));induction hd:dictAt ks l x with
 |some p=>
  rw[hd] at ae h;refine ah ae λu aC bc=>?_;rw[aC];exact h _ _ bc (.tok s _) g
 |none=>
  rw[hd] at ae h;rw[show f x=none from ae];exact h _ _ aq (.tok s _) g
theorem Az:Meth "dict" "get" "dict.get":=⟨F.plainAttrs_dict,F.slot_dict_get,F.type_dict_get⟩
theorem DY{a:Addr}{es:List DictEntry}{k:Nat}{ks:List Str}(ai:bK 0 A)(g:G w s.heap)
  (aj:s.heap.get? a=some {cls:= .type "dict",data:= .dict ⟨es⟩ k}) (ar:KeysAre w ks es) (aA:ks.Nodup) (jg:(a==sysModules)=false) (BU:vT->¬W a)
  (h:∀(bh:Addr) (fp wr:List Addr) (P:Nat->Value->Prop) (T:Nat->Heap->Prop) (aL:Shared),Ext s aL->G w aL.heap->Walks prog w A bh fp wr (aB ks).length P T->T 0 aL.heap->(∀b∈wr,s.heap.get? b=none)->(∀b∈fp,(∃o,aL.heap.get? b=some o)/\¬cc b)->(∀i h,T i h->∀b∈wr,∃o,h.get? b=some o/\cx o)->(∀b∈fp,b∈wr\/((∃o,s.heap.get? b=some o)/\(vT->¬W b)))->
   (∀i u,P i u->∃q,(aB ks)[i]? =some q/\a6 w s.heap W q u)->Q (.ref bh) aL):wpAny (model prog w) A (pyIter (.ref a)) Q E s:=by
 have hd:=q6 (prog:=prog) aj ar aA;have H0:=(zg (prog:=prog) ar).2.2;refine wpAny_pyIter_dict jg hd ?_;have bY:a≠s.heap.objs.size:=Nat.ne_of_lt (lt_size aj);have aW:=Walks.dictKeys (prog:=prog) (w:=w) (knd:=strKind prog w) ai.calm s.heap.objs.size a bY (ks.zip (es.map (·.val))) k;have e:(ks.zip (es.map (·.val))).length=(aB ks).length:=by simp[aB,H0]
 rw[e] at aW;refine h _ _ _ _ _ _ (.push ..) (g.push _) aW ⟨?_,hd.push _⟩ (λb I=>?_) (λb I=>?_) (λi h bD b I=>?_) (λb I=>?_) λi u bE=>?_
 ·rw[<-e];exact⟨_,dc _ rfl,rfl,rfl⟩
 ·simp at I;subst I;exact eA _
 ·simp at I;rcases I with rfl |rfl
  ·exact⟨⟨_,dc _ rfl⟩,g.fC (eA _)⟩
  ·exact⟨⟨_,dZ _ aj⟩,g.gf aj eN⟩
 ·simp at I;subst I;refine aE bD λAL _=>?_;refine dK AL λo ax aD _=>?_;exact⟨o,ax,.inl (by rw[aD];intro q;injection q with q;exact absurd q (by decide))⟩
 ·simp at I;rcases I with rfl |rfl
  ·exact .inl (by exact .head _)
  ·exact .inr ⟨⟨_,aj⟩,BU⟩
 ·refine dP bE λy v ab ae=>?_;refine aP (Value.isStrOf_shape ae) λt AG=>?_;subst AG;refine⟨.str y,?_,⟨t,rfl⟩⟩;have:(ks.zip (es.map (·.val)))[i]?.map (·.1)=some y:=by rw[ab];rfl
  rw[<-eb,map_fst_zip (by simp[H0])] at this;simp[aB,this]
theorem cw.dict{ks:List Str}{l:List ak}:cw prog w (.dict ks l) (aB ks):=λW A s v Q E ai g low uS h=>by
 refine iS uS λa es k e aW aj AZ hs=>?_;refine cB AZ λar aA jg=>?_;subst e;exact DY ai g aj ar aA jg (λ_=>aW) h
theorem Kd{bR cI gG:Str}{eD gH kU:Int}{a1 a2 dG gU jq tZ:Nat}(aA:[bR,cI,gG].Nodup):
  Ev prog w n env m (.Dict [some (.Constant (.str bR) a1 bX),some (.Constant (.str cI) a2 cf),some (.Constant (.str gG) dG fU)] [.Constant (.int eD) gU dz,.Constant (.int gH) jq bN,.Constant (.int kU) tZ hI] pos) (.dict [bR,cI,gG] [.int eD,.int gH,.int kU]):=by
 intro W A s Q E ai x h;have hC:s.heap.get? s.heap.objs.size=none:=eA _;refine wpAny_Dict_walk (knd:=strKind prog w) rfl rfl (by exact nofun) (show(3:Nat)<=15 by decide) ?_;refine pairTrees_cons_walk (Calls.Constant_str (wpAny_Constant_int ?_));refine pairTrees_cons_walk (Calls.Constant_str (wpAny_Constant_int ?_));refine pairTrees_cons_walk (Calls.Constant_str (wpAny_Constant_int ?_));refine pairTrees_nil_walk (display_done_str (by simp only[allStrKeys]) (by simp only[strPairs];exact aA) (DictOf.new _) ?_);simp only[strPairs];intro h' hd hs;refine iC (uB hd) λes k ab ae aC bc=>?_;have keep:∀b o,s.heap.get? b=some o->h'.get? b=some o:=λb o e=>hs.extBut b o (λq=>by rw[q,hC] at e;injection e) (dZ _ e);refine h _ _ ?_ (.keeps keep) (x.g.keeps keep);refine⟨s.heap.objs.size,es,k,rfl,x.low.fresh,ab,⟨ae,aC,x.g.noSys (ea _)⟩,?_⟩;rw[bc];exact⟨_,_,rfl,⟨_,rfl⟩,_,_,rfl,⟨_,rfl⟩,_,_,rfl,⟨_,rfl⟩,rfl⟩
theorem I1{x y:Str}{p:ak}(ag:dn m x):dn ((x,p)::m) y->dn m y:=λh=>by
 by_cases e:y=x
 ·exact e▸ag
 ·unfold dn at h ⊢
  rwa [kz e] at h
theorem b1.mut{J:Addr->Prop}{ad:Str->Addr}{x:Str}{p':ak}(F:b1 w s₀ env W₀ ad J m s)(ag:dn m x)(aa:pU p')(dE:dn ((x,p')::m) x)(ig:s.heap.get? (ad x)=some n6)(dw:∀vs,n6.data≠ .fields vs)(hs:SameBut (ad x) s.heap h')
  (aq:a6 w h' (bU W₀ env m ad J) p' (.ref (ad x))):b1 w s₀ env W₀ ad J ((x,p')::m) {s with heap:=h',toks:=tk}/\bC (b4 env m ad) (b4 env ((x,p')::m) ad) s {s with heap:=h',toks:=tk}:=by
 have ih:∀y,dn ((x,p')::m) y↔dn m y:=λy=>⟨I1 ag,λh=>by
  by_cases e:y=x
  ·exact e▸dE
  ·exact DF h e⟩
 have aW:∀b,bU W₀ env ((x,p')::m) ad J b↔bU W₀ env m ad J b:=λb=>by unfold bU;simp only[ih]
 have we:∀b,b4 env ((x,p')::m) ad b↔b4 env m ad b:=λb=>by unfold b4;simp only[ih]
 have vR:bU W₀ env ((x,p')::m) ad J=bU W₀ env m ad J:=funext λb=>propext (aW b);have TV:bU W₀ env m ad J (ad x):= .inr (.inr (.inr (.inl ⟨x,ag,rfl⟩)));refine eR (F.own x ag) λ_ kL tw xJ=>?_;have up:∀b o,b≠ad x->s.heap.get? b=some o->h'.get? b=some o:=λb o I e=>hs.extBut b o I e;have gv:G w h':=F.dM.set F.st.g kL ig dw hs;have gr:∀b o,¬bU W₀ env m ad J b->o.cls≠ .none->s.heap.get? b=some o->h'.get? b=some o/\¬bU W₀ env m ad J b:=λb o I _ e=>⟨up b o (λq=>I (q▸TV)) e,I⟩
 have dt:∀y v,hA env s.heap y v->hA env h' y v:=λy v q=>by
  rcases q with⟨bR,cH,aA,aq⟩ |⟨bR,c,U,o,aj,hd⟩
  ·exact .inl ⟨bR,cH,aA.at' λo e=>up _ _ (Ne.symm tw) e,aq⟩
  ·exact .inr ⟨bR,c,U,o,up _ _ (Ne.symm (xJ _ _ U)) aj,hd⟩
 have hex:∃o,h'.get? (ad x)=some o/\cx o:=by
  rcases dE with⟨l,q⟩ |⟨ks,l,q⟩
  ·rw[a5] at q;obtain rfl:=bT q;refine cg aq λa vs k e _ aj _=>?_;(injection e with bB;subst bB);exact⟨_,aj,.inr λvs q=>by injection q⟩
  ·rw[a5] at q;obtain rfl:=bT q;refine cg aq λa vs k e _ aj _=>?_;(injection e with bB;subst bB);exact⟨_,aj,.inr λvs q=>by injection q⟩
 refine cn F.same λh₁ sY jE=>?_;refine⟨⟨⟨h',tk,by rw[jE]⟩,λb o I e=>up b o (λq=>by subst q;rw[kL] at e;injection e) (F.keep b o I e),F.dM,?_,λy z av hz=>F.inj y z ((ih y).mp av) ((ih z).mp hz),λy av=>⟨dt _ _ (F.own y ((ih y).mp av)).1,(F.own y ((ih y).mp av)).2⟩,λb I=>eR (F.eg b I) λab ae aC bc=>⟨ab,ae,aC,λy av=>bc y ((ih y).mp av)⟩,F.new,F.iT,F.apart,F.fg,?_,?_,λy q aG=>?_⟩,λb o I _ e=>⟨up b o (λq=>I (q▸ .inr (.inr ⟨x,ag,rfl⟩))) e,λq=>I ((we b).mp q)⟩⟩
 ·refine⟨F.st.fn,F.st.gl,F.st.bi,gv,λb I=>?_,F.st.nl,F.st.cZ,λy q aG=>?_⟩
  ·refine aE (F.st.low b ((aW b).mp I)) λaU qa=>?_;refine ah aU λo e cF=>?_;refine⟨?_,qa⟩;by_cases q:b=ad x
   ·exact q▸hex
   ·exact⟨o,up b o q e,cF⟩
  ·rw[vR];by_cases e:y=x
   ·subst e;rw[a5] at aG;obtain rfl:=bT aG;exact⟨_,dt _ _ (F.own y ag).1,aq⟩
   ·rw[kz e] at aG;replace aG:=aG;refine ah (F.st.has y q aG) λu bE eZ=>?_;refine⟨u,dt _ _ bE,?_⟩;have et:=F.hh y q aG;have ne:∀av:dn m y,u= .ref (ad y)/\ad y≠ad x:=λav=>⟨bE.fun (F.own y av).1,λq=>e (F.inj y x av ag q)⟩
    cases q with
    |bw l=>
     refine cg eZ λb vs n ax aD a8 bW=>?_;refine aE (ne (.inl ⟨l,aG⟩)) λeo ph=>?_;rw[ax] at eo;(injection eo with bB;subst bB);exact⟨_,vs,n,ax,aD,up _ _ ph a8,bW.upd gr et⟩
    |eP ks l=>
     refine iS eZ λb vs n ax aD a8 bW d7=>?_;refine aE (ne (.inr ⟨ks,l,aG⟩)) λeo ph=>?_;rw[ax] at eo;(injection eo with bB;subst bB);exact⟨_,vs,n,ax,aD,up _ _ ph a8,bW,d7.upd gr et⟩
    |_=>exact eZ.upd gr et
 ·refine aP F.ns λcH aA=>?_;exact⟨cH,aA.at' λo e=>up _ _ (Ne.symm tw) e⟩
 ·intro nm c U;refine dP (F.cl nm c U) λv o aj hd=>?_;exact⟨v,o,up _ _ (Ne.symm (xJ _ _ U)) aj,hd⟩
 ·by_cases e:y=x
  ·subst e;rw[a5] at aG;obtain rfl:=bT aG;exact aa
  ·rw[kz e] at aG;exact F.hh y q aG
section
variable {prog:Program} {w:World} {n:Nat} {env:Env} {m:Loc} {Φ:dp->Loc->Prop}
theorem pF{x y:Str}{p:ak}(dE:dn ((x,p)::m) x):dn ((x,p)::m) y↔y=x\/dn m y:=by
 by_cases e:y=x
 ·subst e;exact⟨λ_=> .inl rfl,λ_=>dE⟩
 ·unfold dn;rw[kz e];exact⟨.inr,λh=>h.resolve_left e⟩
theorem b1.fresh{J:Addr->Prop}{ad:Str->Addr}{x:Str}{p:ak}{Q:Unit->Shared->Prop}(F:b1 w s₀ env W₀ ad J m s)(az:Ext s au)(aF:G w au.heap)(gq:s.heap.get? D=none)(aq:∀W:Addr->Prop,W D->(∀b o,s.heap.get? b=some o->(W b↔bU W₀ env m ad J b))->a6 w au.heap W p (.ref D))(aa:pU p)(dE:dn [(x,p)] x)(ag:¬dn m x)(dw:∃o,au.heap.get? D=some o/\∀vs,o.data≠ .fields vs)
  (ar:env.kindOf x=some .local\/(env.kindOf x=some .cell/\(env.cells.lookup x).isSome=true)) (h:∀a3 s',b1 w s₀ env W₀ a3 J ((x,p)::m) s'->bC (b4 env m ad) (b4 env ((x,p)::m) a3) s s'->Q () s'):wpAny (model prog w) A (storeName env x (.ref D)) Q E au:=by
 refine ah dw λyL SD QM=>?_;have U6:¬cc D:=F.st.g.fC gq;have sa:b1 w s₀ env W₀ ad (λa=>J a\/a=D) m au:=F.oF az aF (λa af=> .inl af) λa af aN=>by
  rcases af with af |rfl
  ·exact absurd af aN
  ·exact⟨gq,⟨yL,SD,.inr QM⟩,U6⟩
 refine eR (sa.eg D (.inr rfl)) λVp Ic H9 VC=>?_;have SJ:¬J D:=λq=>by
  refine aE (F.st.low D (.dy q)) λaU _=>?_;refine ah aU λbZ aO cF=>?_;rw[gq] at aO;injection aO
 refine sa.zZ (p:= .val (.ref D)) rfl trivial ar λs' aS keep=>?_
 let a3:Str->Addr:=λy=>if y=x then D else ad y
 have iF:dn ((x,p)::m) x:=by
  rcases dE with⟨l,q⟩ |⟨ks,l,q⟩
  ·rw[a5] at q;obtain rfl:=bT q;exact .inl ⟨l,a5⟩
  ·rw[a5] at q;obtain rfl:=bT q;exact .inr ⟨ks,l,a5⟩
 have p8:a3 x=D:=aQ rfl;have oO:∀y,y≠x->a3 y=ad y:=λy av=>aI av;have tg:∀y,dn ((x,ak.val (.ref D))::m) y↔dn m y:=λy=>by
  by_cases e:y=x
  ·subst e;exact⟨λq=>by rcases q with⟨l,q⟩ |⟨ks,l,q⟩<;>(rw[a5] at q;cases q),λq=>absurd q ag⟩
  ·unfold dn;rw[kz e]
 have aW:∀b,bU W₀ env ((x,p)::m) a3 J b↔bU W₀ env ((x,ak.val (.ref D))::m) ad (λa=>J a\/a=D) b:=λb=>by
  constructor
  ·rintro(q |q |q |⟨y,av,q⟩ |q)
   ·exact .inl q
   ·exact .inr (.inl q)
   ·exact .inr (.inr (.inl q))
   ·by_cases e:y=x
    ·subst e;rw[p8] at q;exact .dy (.inr q.symm)
    ·rw[oO y e] at q;exact .inr (.inr (.inr (.inl ⟨y,(tg y).mpr (((pF iF).mp av).resolve_left e),q⟩)))
   ·exact .dy (.inl q)
  ·rintro(q |q |q |⟨y,av,q⟩ |q |q)
   ·exact .inl q
   ·exact .inr (.inl q)
   ·exact .inr (.inr (.inl q))
   ·have av:=(tg y).mp av;have e:y≠x:=λe=>ag (e▸av);exact .inr (.inr (.inr (.inl ⟨y,(pF iF).mpr (.inr av),by rw[oO y e];exact q⟩)))
   ·exact .dy q
   ·exact .inr (.inr (.inr (.inl ⟨x,iF,by rw[p8];exact q.symm⟩)))
 have vR:bU W₀ env ((x,p)::m) a3 J=bU W₀ env ((x,ak.val (.ref D))::m) ad (λa=>J a\/a=D):=funext λb=>propext (aW b);have Hj:∀o,au.heap.get? D=some o->s'.heap.get? D=some o:=λo e=>keep D o Ic (λnm c U=>H9 nm c U) e;have Gs:hA env s'.heap x (.ref D):=by
  refine ah (aS.st.has x _ a5) λv ab ae=>?_;rw[show v= .ref D from ae] at ab;exact ab
 have Tf:∀b o,s.heap.get? b=some o->(bU W₀ env ((x,p)::m) a3 J b↔bU W₀ env m ad J b):=λb o e=>by
  rw[aW];constructor
  ·rintro(q |q |q |⟨y,av,q⟩ |q |q)
   ·exact .inl q
   ·exact .inr (.inl q)
   ·exact .inr (.inr (.inl q))
   ·exact .inr (.inr (.inr (.inl ⟨y,(tg y).mp av,q⟩)))
   ·exact .dy q
   ·rw[q,gq] at e;injection e
  ·rintro(q |q |q |⟨y,av,q⟩ |q)
   ·exact .inl q
   ·exact .inr (.inl q)
   ·exact .inr (.inr (.inl q))
   ·exact .inr (.inr (.inr (.inl ⟨y,(tg y).mpr av,q⟩)))
   ·exact .dy (.inl q)
 have lj:∀b,¬bU W₀ env ((x,p)::m) a3 J b->b≠env.locals/\∀nm c,env.cells.lookup nm=some c->b≠c:=λb I=>⟨λq=>I (.inr (.inl q)),λnm c U q=>I (.inr (.inr (.inl ⟨nm,q▸U⟩)))⟩
 have TF:bU W₀ env ((x,p)::m) a3 J D:= .inr (.inr (.inr (.inl ⟨x,iF,p8⟩)));have gr:∀b o,¬bU W₀ env ((x,p)::m) a3 J b->o.cls≠ .none->au.heap.get? b=some o->s'.heap.get? b=some o/\¬bU W₀ env ((x,p)::m) a3 J b:=λb o I _ e=>⟨keep b o (lj b I).1 (lj b I).2 e,I⟩
 have kn:a6 w s'.heap (bU W₀ env ((x,p)::m) a3 J) p (.ref D):=by
  have h0:=aq _ TF Tf;rcases dE with⟨l,q⟩ |⟨ks,l,q⟩
  ·rw[a5] at q;obtain rfl:=bT q;refine cg h0 λa vs k e l9 aj hs=>?_
   (injection e with bB;subst bB)
   exact⟨_,vs,k,rfl,l9,Hj _ aj,hs.upd gr aa⟩
  ·rw[a5] at q;obtain rfl:=bT q;refine iS h0 λa vs k e l9 aj cj hs=>?_
   (injection e with bB;subst bB)
   exact⟨_,vs,k,rfl,l9,Hj _ aj,cj,hs.upd gr aa⟩
 have d3:b1 w s₀ env W₀ a3 J ((x,p)::m) s':=by
  refine⟨aS.same,aS.keep,aS.dM,⟨aS.st.fn,aS.st.gl,aS.st.bi,aS.st.g,λb I=>aS.st.low b ((aW b).mp I),aS.st.nl,aS.st.cZ,λy q aG=>?_⟩,λy z av hz e=>?_,λy av=>?_,λb I=>?_,aS.new,aS.iT,aS.apart,aS.fg,aS.ns,aS.cl,λy q aG=>?_⟩
  ·by_cases e:y=x
   ·subst e;rw[a5] at aG;obtain rfl:=bT aG;exact⟨_,Gs,kn⟩
   ·rw[kz e] at aG;rw[vR];exact aS.st.has y q (by rw[kz e];exact aG)
  ·have yL:∀u,dn m u->ad u≠D:=λu bE=>VC u bE;rcases(pF iF).mp av with rfl |hZ
   ·rcases(pF iF).mp hz with rfl |eJ
    ·rfl
    ·by_cases aO:z=y
     ·exact aO.symm
     ·rw[p8,oO z aO] at e;exact absurd e.symm (yL z eJ)
   ·rcases(pF iF).mp hz with rfl |eJ
    ·by_cases aO:y=z
     ·exact aO
     ·rw[p8,oO y aO] at e;exact absurd e (yL y hZ)
    ·have sl:y≠x:=λq=>ag (q▸hZ);have n2:z≠x:=λq=>ag (q▸eJ);rw[oO y sl,oO z n2] at e;exact F.inj y z hZ eJ e
  ·by_cases e:y=x
   ·subst e;rw[p8];exact⟨Gs,Vp,Ic,H9⟩
   ·have hZ:=((pF iF).mp av).resolve_left e;rw[oO y e];exact aS.own y ((tg y).mpr hZ)
  ·refine eR (aS.eg b (.inl I)) λab ae aC bc=>?_;refine⟨ab,ae,aC,λy av q=>?_⟩;by_cases e:y=x
   ·subst e;rw[p8] at q;exact SJ (q▸I)
   ·rw[oO y e] at q;exact bc y ((tg y).mpr (((pF iF).mp av).resolve_left e)) q
  ·by_cases e:y=x
   ·subst e;rw[a5] at aG;obtain rfl:=bT aG;exact aa
   ·rw[kz e] at aG;exact F.hh y q aG
 refine h a3 s' d3 λb o I aM e=>⟨keep b o (λq=>I (.inl q)) (λnm c U q=>I (.inr (.inl ⟨nm,q▸U⟩))) (az.keep b o aM e),λq=>?_⟩
 rcases q with q |q |⟨y,av,q⟩
 ·exact I (.inl q)
 ·exact I (.inr (.inl q))
 ·by_cases aO:y=x
  ·subst aO;rw[p8] at q;rw[<-q,gq] at e;injection e
  ·rw[oO y aO] at q;exact I (.inr (.inr ⟨y,((pF iF).mp av).resolve_left aO,q⟩))
theorem t9{x:Str}(ar:env.kindOf x=some .local\/(env.kindOf x=some .cell/\(env.cells.lookup x).isSome=true))(ag:m.lookup x=none)(h:Φ .next ((x,.bw [])::m))
  (hs:swapsWith (.List [] qy) (some (.Name x px)) pos.line env=pure false):df prog w n env m (.Assign [.Name x px] (.List [] qy) pos) Φ:=λs₀ W₀ J ad A s E ai F=>by
 refine wpAny_Assign_Name ?_ hs;refine PyProof.Rows.List_ (lS ?_);refine iq ?_ (by show(0:Nat)<=_;exact c0 _);refine F.fresh (D:=s.heap.objs.size) (p:= .bw []) (.push ..) (F.st.g.push _) (eA _) (λW aW _=>⟨_,[],0,rfl,aW,dc _ rfl,rfl⟩) trivial (.inl ⟨[],a5⟩) (λq=>by rcases q with⟨l,q⟩ |⟨ks,l,q⟩<;>(rw[ag] at q;injection q)) ⟨_,dc _ rfl,λvs q=>by injection q⟩ ar λa3 s' aS k=>⟨a3,_,aS,k,h⟩
theorem yX{x:Str}(ar:env.kindOf x=some .local\/(env.kindOf x=some .cell/\(env.cells.lookup x).isSome=true))(ag:m.lookup x=none)(h:Φ .next ((x,.eP [] [])::m))
  (hs:swapsWith (.Dict [] [] qy) (some (.Name x px)) pos.line env=pure false):df prog w n env m (.Assign [.Name x px] (.Dict [] [] qy) pos) Φ:=λs₀ W₀ J ad A s E ai F=>by
 refine wpAny_Assign_Name (wpAny_Dict_empty ?_) hs;refine F.fresh (D:=s.heap.objs.size) (p:= .eP [] []) (.push ..) (F.st.g.push _) (eA _) (λW aW _=>⟨_,[],0,rfl,aW,dc _ rfl,⟨rfl,nodup_nil,F.st.g.noSys (ea _)⟩,rfl⟩) trivial (.inr ⟨[],[],a5⟩) (λq=>by rcases q with⟨l,q⟩ |⟨ks,l,q⟩<;>(rw[ag] at q;injection q)) ⟨_,dc _ rfl,λvs q=>by injection q⟩ ar λa3 s' aS k=>⟨a3,_,aS,k,h⟩
end
section
variable {prog:Program} {w:World} {n:Nat} {env:Env} {m:Loc} {Φ:dp->Loc->Prop}
theorem C6{id:String}{first:List Value}(ai:bK n A)(x:St w env W m s.heap)
  (af:aK prog w n env m pos es ps) (cv:(starEach es env).any (·.1)=false)
  (h:∀vs au,bJ w au.heap W ps vs->Ext s au->G w au.heap->wpAny (model prog w) A (call (.builtin id) (first++vs)) Q E au):wpAny (model prog w) A (callWith pos (.builtin id) first (backTo pos (starEach es env)) []) Q E s:=by
 have I:=jz (pos:=pos) cv;exact lb (kA I) (hu I (af W A s _ E ai x λvs au bb az aF=>h vs au bb az aF))
def i0(prog:Program)(w:World)(id:String)(q:ak)(ps:List ak)(p':ak):Prop:=
 ∀(W:Addr->Prop) (A:Around) (s:Shared) (a:Addr) (vs:List Value) (Q:Value->Shared->Prop) (E:Value->Shared->Prop),bK 0 A->G w s.heap->pU q->dB ps->a6 w s.heap W q (.ref a)->bJ w s.heap W ps vs->
  (∀u h' tk,SameBut a s.heap h'->a6 w h' W p' (.ref a)->Q u {s with heap:=h',toks:=tk})->wpAny (model prog w) A (call (.builtin id) (.ref a::vs)) Q E s
def kR(q:ak):Prop:=(∃l,q= .bw l)\/∃ks l,q= .eP ks l
theorem kR.owned{x:Str}(aG:kR q)(ag:m.lookup x=some q):dn m x:=by
 rcases aG with⟨l,rfl⟩ |⟨ks,l,rfl⟩
 ·exact .inl ⟨l,ag⟩
 ·exact .inr ⟨ks,l,ag⟩
theorem kR.data{a:Addr}(aG:kR q)(aq:a6 w h W q (.ref a)):∃o,h.get? a=some o/\∀vs,o.data≠ .fields vs:=by
 rcases aG with⟨l,rfl⟩ |⟨ks,l,rfl⟩
 ·refine cg aq λn3 vs k e _ aj _=>?_;(injection e with bB;subst bB);exact⟨_,aj,λvs q=>by injection q⟩
 ·refine cg aq λn3 vs k e _ aj _=>?_;(injection e with bB;subst bB);exact⟨_,aj,λvs q=>by injection q⟩
theorem b1.ot{J:Addr->Prop}{ad:Str->Addr}{x:Str}(F:b1 w s₀ env W₀ ad J m s)(ag:m.lookup x=some q)(aG:kR q):a6 w s.heap (bU W₀ env m ad J) q (.ref (ad x)):=by
 refine ah (F.st.has x q ag) λu bE eZ=>?_;rw[bE.fun (F.own x (aG.owned ag)).1] at eZ;exact eZ
theorem yW{x:Str}{name:Str}{T id:String}{p':ak}(mt:Meth T name id)(ag:m.lookup x=some q)(aG:kR q)(bD:Typed w q T)(af:aK prog w n env m pos es ps)(jl:dB ps)(f6:pU p')(qr:kR p')(U:i0 prog w id q ps p')
  (h:Φ .next ((x,p')::m)) (cv:(starEach es env).any (·.1)=false) (hd:(x==("__debug__":Str))=false)
  (ha:attributeBase (.Name x px) name env (eval (.Name x px) env)=eval (.Name x px) env)
  (jf:((backTo pos (starEach es env)).all (λx=> !x.1)&&(backToKw pos (keywordEach [] env)).all (λx=>x.1.isSome)&&decide (es.length+([]:List Keyword).length+(if([]:List Keyword).isEmpty then 0 else 1) < 30))=true)
  (gO:(apos.endLine==pos.line)=true) (hi:interactive env=false) (hs:swapsWith (.Call (.Attribute (.Name x px) name apos) es [] pos) none f5.line env=pure false):
  df prog w n env m (.Expr (.Call (.Attribute (.Name x px) name apos) es [] pos) f5) Φ:=λs₀ W₀ J ad A s E ai F=>by
 refine wpAny_Expr_any ?_ hi hs;have iF:=aG.owned ag;refine mv ha jf gO mt.hG mt.slot mt.ty (wpAny_Name ((F.own x iF).1.load F.st.fn ?_) hd);refine aE (bD _ s _ F.st.g (F.ot ag aG)) λab ae=>?_;refine⟨ab,ae,?_⟩;refine C6 ai F.st af cv λvs aL bb aR aY=>?_;have bp:=F.ext aR aY;refine U _ A aL (ad x) vs _ E (ai.le (c0 _)) aY (F.hh x q ag) jl (bp.ot ag aG) bb λu h' tk bL kn=>?_;refine ah (aG.data (bp.ot ag aG)) λn6 ig dw=>?_;refine aE (bp.mut (tk:=tk) iF f6 (qr.owned a5) ig dw bL kn) λdv gh=>?_;exact⟨ad,_,dv,(bC.ext aR).trans gh,h⟩
theorem bJ.same{a:Addr}{l:List ak}(x:bJ w h W l vs)(hf:dB l)(aW:W a)(hs:SameBut a h h'):bJ w h' W l vs:=x.upd (λb o I _ e=>⟨hs.extBut b o (λq=>I (q▸aW)) e,I⟩) hf
theorem a6.same{a:Addr}{p:ak}{v:Value}(x:a6 w h W p v)(hf:cb p)(aW:W a)(hs:SameBut a h h'):a6 w h' W p v:=x.upd (λb o I _ e=>⟨hs.extBut b o (λq=>I (q▸aW)) e,I⟩) hf
theorem DR(f:Array Value->Array Value)(c:Value)(xs:Array Value)(k:Nat):∃cI,Obj.mapSeq f {cls:=c,data:= .seq xs k}={cls:=c,data:= .seq (f xs) cI}:=⟨_,rfl⟩
theorem i0.append{l:List ak}{p:ak}(hz:l.length<=sizeLine):i0 prog w "list.append" (.bw l) [p] (.bw (l++[p])):=λW A s a vs Q E r g p6 dQ fy hX h=>by
 refine cg fy λn3 us k e aW aj hs=>?_;refine bj hX λv _ ax aq aD=>?_
 (injection e with bB;subst bB)
 subst ax;rw[show _=[] from aD];refine call_meets F.slot_list_append ⟨_,aj,rfl⟩ F.entry_list_append (F.args_list_append_2 _ _) (list_append a ⟨us⟩ k v (by show us.length<=_;rw[<-hs.len];exact hz)) ⟨aj,?_⟩;have bL:SameBut a s.heap (s.heap.update a (Obj.mapSeq λx=>x.push v)):= .update ..;refine h _ _ _ bL ⟨a,us++[v],k+1,rfl,aW,?_,(hs.same p6 aW bL).app (.one (aq.same dQ.1 aW bL))⟩;rw[get?_update_self _ aj rfl];simp[Obj.mapSeq]
theorem JC{l:List ak}(hz:l.length+l'.length<=sizeLine):i0 prog w "list.extend" (.bw l) [.list l'] (.bw (l++l')):=λW A s a vs Q E r g p6 dQ ki mU h=>by
 refine cg ki λn3 us k e aW aj hs=>?_;refine bj mU λ_ _ ax aU aD=>?_;refine cg aU λb km k' aO qm cR eH=>?_
 (injection e with bB;subst bB)
 subst ax aO;rw[show _=[] from aD];have eJ:us.length+km.length<=sizeLine:=by rw[<-hs.len, <-eH.len];exact hz
 refine call_meets F.slot_list_extend ⟨_,aj,rfl⟩ F.entry_list_extend (F.args_list_extend_2 _ _) (AutoSeq1.list_extend_list_list_0 a ⟨us⟩ k b ⟨km⟩ k' ?_ (by show us.length<=_;walk_at"o") (by show us.length+km.length<=_;exact bH ‹_› rfl)) ⟨aj,cR,?_⟩
 ·have:Builtin.List.listTooLong ((⟨us⟩:Array Value).size+(⟨km⟩:Array Value).size)=false:=by
   show Builtin.List.listTooLong (us.length+km.length)=false;unfold Builtin.List.listTooLong;have:sizeLine=2 ^ 24:=rfl;walk_at"o"
  rw[this];walk_at"o"
 ·have bL:SameBut a s.heap (s.heap.update a (Obj.mapSeq λx=>x++⟨km⟩)):= .update ..;have e:(⟨us⟩:Array Value)++⟨km⟩=⟨us++km⟩:=by simp
  refine aP (DR (λx=>x++(⟨km⟩:Array Value)) (.type "list") ⟨us⟩ k) λcI qp=>?_;have rQ:Obj.mapSeq (λx=>x++(⟨km⟩:Array Value)) {cls:= .type "list",data:= .seq ⟨us⟩ k}={cls:= .type "list",data:= .seq ⟨us++km⟩ cI}:=by rw[qp];exact congrArg (λz=>({cls:= .type "list",data:= .seq z cI}:Obj)) e
  exact h _ _ _ bL ⟨a,us++km,cI,rfl,aW,(get?_update_self _ aj rfl).trans (congrArg some rQ),(hs.same p6 aW bL).app (eH.same dQ.1 aW bL)⟩
theorem lR:Meth "list" "append" "list.append":=⟨F.plainAttrs_list,F.slot_list_append,F.type_list_append⟩
theorem w2:Meth "list" "extend" "list.extend":=⟨F.plainAttrs_list,F.slot_list_extend,F.type_list_extend⟩
theorem Jq{x:Str}{ks:List Str}{l:List ak}(ag:m.lookup x=some (.eP ks l))(hd:(x==("__debug__":Str))=false)(h:Φ (.ret (.dict ks l)) []):df prog w n env m (.Return (some (.Name x px)) pos) Φ:=λs₀ W₀ J ad A s E ai F=>by
 have aG:kR (.eP ks l):= .inr ⟨ks,l,rfl⟩;refine wpAny_Return_some (wpAny_Name ((F.own x (aG.owned ag)).1.load F.st.fn ?_) hd);refine iS (F.ot ag aG) λa us k e aW aj ar hs=>?_
 (injection e with bB;subst bB)
 refine⟨.dict ks l,⟨ad x,us,k,rfl,λq=>?_,aj,ar,hs.upd (λb o I _ e=>⟨e,λq=>I (.inl q)⟩) (F.hh x _ ag)⟩,F.hh x _ ag,F.sW,F.st.g,h⟩;refine aE (F.fg _ q) λbk _=>?_;refine ah bk λo e cF=>?_;rw[(F.own x (aG.owned ag)).2.1] at e;injection e
end
noncomputable def ed{α:Type}(kv:List (Str×α))(x:Str)(p:α):List (Str×α):=if kv.any (λz=>z.1=x) then kv.map (λz=>if z.1=x then(z.1,p) else z) else kv++[(x,p)]
noncomputable abbrev iY(kv:List (Str×ak)):ak:= .eP (kv.map (·.1)) (kv.map (·.2))
noncomputable abbrev su(kv:List (Str×ak)):ak:= .dict (kv.map (·.1)) (kv.map (·.2))
inductive gI (w:World) (h:Heap) (W:Addr->Prop):List (Str×ak)->List (Str×Value)->Prop
 |nil:gI w h W [] []
 |cons {x:Str} {p:ak} {v:Value} {kv:List (Str×ak)} {kvs:List (Str×Value)}:a6 w h W p v->gI w h W kv kvs->gI w h W ((x,p)::kv) ((x,v)::kvs)
section
variable {prog:Program} {w:World} {n:Nat} {env:Env} {m:Loc} {Φ:dp->Loc->Prop}
theorem gI.of:∀{kv:List (Str×ak)} {vs:List Value},bJ w h W (kv.map (·.2)) vs->gI w h W kv ((kv.map (·.1)).zip vs):=by
 intro ba;induction ba with
 |nil=>
  intro _ x;rw[show _=[] from x];exact .nil
 |cons h3 r aw=>
  obtain⟨k,p⟩:=h3;intro _ r7;obtain⟨v,vs,e,x,y⟩:=r7;subst e;exact .cons x (aw y)
theorem gI.vals{kv:List (Str×ak)}(x:gI w h W kv kvs):kvs.map (·.1)=kv.map (·.1)/\bJ w h W (kv.map (·.2)) (kvs.map (·.2)):=by
 induction x with
 |nil=>exact⟨rfl,rfl⟩
 |cons aq _ aw=>exact⟨by simp[aw.1],_,_,rfl,aq,aw.2⟩
theorem gI.upd{kv:List (Str×ak)}(x:gI w h W kv kvs)(k:∀b o,¬W b->o.cls≠ .none->h.get? b=some o->h'.get? b=some o/\¬W' b)(hf:dB (kv.map (·.2))):gI w h' W' kv kvs:=by
 induction x with
 |nil=>exact .nil
 |cons aq _ aw=>exact .cons (aq.upd k hf.1) (aw hf.2)
theorem gI.any{kv:List (Str×ak)}(x:gI w h W kv kvs)(y:Str):(kvs.any λz=>z.1=y)=kv.any λz=>z.1=y:=by
 induction x with
 |nil=>rfl
 |cons aq _ aw=>simp only[any_cons,aw]
theorem gI.Oo{kv:List (Str×ak)}(x:gI w h W kv kvs){y:Str}{p:ak}{v:Value}(aq:a6 w h W p v):gI w h W (kv.map λz=>if z.1=y then(z.1,p) else z) (kvs.map λz=>if z.1=y then(z.1,v) else z):=by
 induction x with
 |nil=>exact .nil
 |@cons z q u kv kvs aG _ aw=>
  simp only[map_cons];by_cases e:z=y
  ·rw[aQ e,aQ e];exact .cons aq aw
  ·rw[aI e,aI e];exact .cons aG aw
theorem gI.push{kv:List (Str×ak)}(x:gI w h W kv kvs){y:Str}{p:ak}{v:Value}(aq:a6 w h W p v):gI w h W (kv++[(y,p)]) (kvs++[(y,v)]):=by
 induction x with
 |nil=>exact .cons aq .nil
 |cons aG _ aw=>exact .cons aG aw
theorem gI.put{kv:List (Str×ak)}(x:gI w h W kv kvs){y:Str}{p:ak}{v:Value}(aq:a6 w h W p v):gI w h W (ed kv y p) (stored kvs y v):=by
 unfold ed stored;rw[x.any y];split
 ·exact x.Oo aq
 ·exact x.push aq
theorem C2{kv:List (Str×ak)}{x:Str}:dictAt (kv.map (·.1)) (kv.map (·.2)) x=kv.lookup x:=by
 unfold dictAt;congr 1;induction kv with
 |nil=>rfl
 |cons z r aw=>simp[aw]
theorem Mp{kv:List (Str×ak)}{x:Str}{p:ak}(h:dB (kv.map (·.2)))(aa:cb p):dB ((ed kv x p).map (·.2)):=kF λq aG=>by
 refine ah (bA.mp aG) λz hz aU=>?_;subst aU;unfold ed at hz;split at hz
 ·refine ah (bA.mp hz) λeU eJ a7=>?_;subst a7;split
  ·exact aa
  ·exact od h (fX eJ)
 ·rcases dk.mp hz with hz |hz
  ·exact od h (fX hz)
  ·rw[cQ.mp hz];exact aa
theorem yY{x:Str}{e:Expr}{kv:List (Str×ak)}{y:Str}{p:ak}(ag:m.lookup x=some (iY kv))(hd:(x==("__debug__":Str))=false)(he:Ev prog w n env m e p)(r1:Ev prog w n env m m1 (.str y))(aa:cb p)(hz:kv.length<=sizeLine)
  (h:Φ .next ((x,iY (ed kv y p))::m)) (hs:swapsWith e (some (.Subscript (.Name x px) m1 f5)) pos.line env=pure false):df prog w n env m (.Assign [.Subscript (.Name x px) m1 f5] e pos) Φ:=λs₀ W₀ J ad A s E ai F=>by
 have aG:kR (iY kv):= .inr ⟨_,_,rfl⟩;have iF:=aG.owned ag;refine wpAny_Assign_Subscript (he _ A s _ E ai F.st λv au aq az aF=>?_) hs;have aX:=F.ext az aF;refine wpAny_Name ((aX.own x iF).1.load aX.st.fn ?_) hd;refine r1 _ A au _ E ai aX.st λrH aL ar aR aY=>?_;refine aP ar λt bk=>?_;subst bk;have bp:=aX.ext aR aY;have z3:=aq.ext aF aR;refine iS (bp.ot ag aG) λa es k aO aW aj bz bb=>?_;refine cB bz λnS qp rQ=>?_
 (injection aO with bB;subst bB)
 have hlen:((kv.map (·.1)).zip (es.map (·.val))).length<=sizeLine:=by
  rw[length_zip];refine ei (Nat.min_le_left _ _) ?_;simpa using hz
 refine wpAny_setItem_pairs (knd:=strKind prog w) (k:=y) isKey (q6 aj nS qp).dictOf (λh' hW bL=>?_) hlen;refine iC (uB hW) λjT k' ab ae aC bc=>?_;have hf:=F.hh x _ ag;have qm:∀b o,¬bU W₀ env m ad J b->o.cls≠ .none->aL.heap.get? b=some o->h'.get? b=some o/\¬bU W₀ env m ad J b:=λb o I _ e=>⟨bL.extBut b o (λq=>I (q▸aW)) e,I⟩
 have yI:=((gI.of bb).upd qm hf).put (y:=y) (z3.upd qm aa);refine aE yI.vals λa1 a2=>?_;refine aE (bp.mut (p':=iY (ed kv y p)) (tk:=aL.toks+1) iF (show dB _ from Mp hf aa) (.inr ⟨_,_,a5⟩) aj (λvs q=>by injection q) bL ⟨_,jT,k',rfl,aW,ab,⟨a1▸ae,a1▸aC,rQ⟩,by rw[bc];exact a2⟩) λdv gh=>?_;exact⟨ad,_,dv,(bC.ext (az.trans aR)).trans gh,h⟩
end
variable {key:Value}
section
variable {prog:Program} {w:World} {n:Nat} {env:Env} {m:Loc} {Φ:dp->Loc->Prop}
theorem IJ{d:Addr}{k:Str}{dflt:Value}(rB:(strKind prog w).is k key=true)(hm:s.heap.DictOf (strKind prog w) d kvs)
  (Oz:(kvs.any λkv=>decide (kv.1=k))=true->∀v,Q v {s with toks:=s.toks+1})
  (kL:(kvs.any λkv=>decide (kv.1=k))=false->∀h',h'.DictOf (strKind prog w) d (kvs++[(k,dflt)])->SameBut d s.heap h'->Q dflt {s with heap:=h',toks:=s.toks+1})
  (hC:kvs.length<=sizeLine):wpAny (model prog w) A (dictSetDefault d key dflt) Q E s:=by
 refine F6 hm λo es ep aj U hd ar aa aA=>?_;have Uj:es.size<=sizeLine:=by
  have ax:=aa.length;have aD:es.toList.length=es.size:=by exact rfl
  walk_at"o"
 unfold dictSetDefault
 try with_reducible refine fY ?_
 refine aH ((strKind prog w).pyHash rB ?_);refine aH (wpAny_dictFind_of (s:={s with toks:=s.toks+1}) rB aj hd ar ?_);have uY:(es.findIdx? λe=>(strKind prog w).is k e.key)=kvs.findIdx? λkv=>decide (kv.1=k):=by
  rw[<-aa.findIdx k];obtain⟨l⟩:=es;simp
 induction hi:es.findIdx? λe=>(strKind prog w).is k e.key with
 |some i=>
  refine aH (wpAny_dictEntries (s:={s with toks:=s.toks+1}) aj hd ?_);induction he:es[i]? with
  |none=>
   exfalso;have:=Array.findIdx?_eq_some_iff_findIdx_eq.mp hi;have cu:i < es.size:=this.1;rw[Array.getElem?_eq_getElem cu] at he;exact nomatch he
  |some e=>exact aH (wpAny_rule (bu (Oz (any_of_findIdx_some (uY▸hi)) e.val)))
 |none=>
  have Gm:k∉kvs.map (·.1):=not_mem_of_findIdx_none (uY▸hi);have xv:(kvs.any λkv=>decide (kv.1=k))=false:=by
   rw[List.any_eq_false];intro kv fT he;exact Gm (bA.mpr ⟨kv,fT,ej he⟩)
  refine aH (wpAny_rule (aH (wpAny_updateDictKeys (hz:=Uj) (s:={s with toks:=s.toks+1}) aj hd (bu (kL xv _ ⟨_,_,ep+1,get?_update_self _ aj (Obj.isFreed_of_dict (Obj.data_mapDictKeys hd _)),
   U.mapDictKeys _,Obj.data_mapDictKeys hd _,ar.push rB _,?_,?_⟩ (SameBut.update ..))))))
  ·have:=aa.append rB ((strKind prog w).hash k) dflt;obtain⟨l⟩:=es;simpa using this
  ·rw[dY,gL];refine⟨aA,by simp,?_⟩;intro a af b I;simp only[map_cons,map_nil,mem_singleton] at I;subst I;exact λe=>Gm (e▸af)
theorem IG{k:Str}(d:Addr)(rB:(strKind prog w).is k key=true)(hd:(d==sysModules)=false)(dflt:Value):
  MeetsIn prog w (Builtin.«dict.setdefault» ⟨[.ref d,key,dflt],[]⟩) (λ_ R s=>∃kvs,s.heap.DictOf (strKind prog w) d kvs/\kvs.length<=sizeLine/\
   ((kvs.any λkv=>decide (kv.1=k))=true->∀v,R (.ok (.ret v)) {s with toks:=s.toks+1})/\
   ((kvs.any λkv=>decide (kv.1=k))=false->∀h',h'.DictOf (strKind prog w) d (kvs++[(k,dflt)])->SameBut d s.heap h'->R (.ok (.ret dflt)) {s with heap:=h',toks:=s.toks+1})):=
 .of_wp λA R s fy=>by
  refine iD fy λkvs hm hz ab ae=>?_;unfold Builtin.«dict.setdefault»;refine aH ?_;unfold Builtin.Dict.keyAndDefault;refine aH (wpAny_notOrdered_dict hm.typeIs ?_);show wpAny _ _ (pure (d,key,some dflt)) _ _ s;refine bu ?_;show wpAny _ _ (if(d==sysModules)=true then _ else(dictSetDefault d key dflt >>=_)) _ _ s;rw[aI (by rw[hd];exact Bool.false_ne_true)];exact aH (IJ rB hm (λaq v=>bu ⟨v,rfl,ab aq v⟩) (λaA h' oS eH=>bu ⟨dflt,rfl,ae aA h' oS eH⟩) hz)
noncomputable def jc{α:Type}(kv:List (Str×α))(x:Str)(p:α):List (Str×α):=if kv.any (λz=>z.1=x) then kv else kv++[(x,p)]
theorem IF{kv:List (Str×ak)}{y:Str}{p:ak}(hz:kv.length<=sizeLine):i0 prog w "dict.setdefault" (iY kv) [.str y,p] (iY (jc kv y p)):=λW A s a vs Q E r g p6 dQ hX ki h=>by
 refine iS hX λn3 es k e aW aj a7 hs=>?_;refine cB a7 λnS qp rQ=>?_;refine bj ki λ_ _ ax bk bz=>?_;refine bj bz λv _ aD aq a8=>?_;refine aP bk λt dO=>?_
 (injection e with bB;subst bB)
 subst ax dO aD;rw[show _=[] from a8];have hlen:((kv.map (·.1)).zip (es.map (·.val))).length<=sizeLine:=by
  rw[length_zip];refine ei (Nat.min_le_left _ _) ?_;simpa using hz
 have yI:=gI.of hs;have xv:=yI.any y;refine wpAny_call (codeAny_call_builtin F.slot_dict_setdefault.plain F.entry_dict_setdefault (F.slot_dict_setdefault.check _ _ _ _ _ _ _ _ ⟨_,aj,rfl⟩ (F.args_dict_setdefault_3 _ _ _) (IG a isKey rQ v A (wants Q E) s ⟨_,(q6 (prog:=prog) aj nS qp).dictOf,hlen,λaf u=>?_,λaf h' hW bL=>?_⟩)))
 ·rw[xv] at af;refine h u s.heap _ (.refl _ _) ?_;unfold jc;rw[aQ af];exact⟨a,es,k,rfl,aW,aj,⟨nS,qp,rQ⟩,hs⟩
 ·rw[xv] at af;refine h _ h' _ bL ?_;unfold jc;rw[aI (by rw[af];decide)];refine iC (uB hW) λjT k' ab ae aC bc=>?_;have qm:∀b o,¬W b->o.cls≠ .none->s.heap.get? b=some o->h'.get? b=some o/\¬W b:=λb o I _ e=>⟨bL.extBut b o (λq=>I (q▸aW)) e,I⟩
  refine aE (((yI.upd qm p6).push (y:=y) (aq.upd qm dQ.2.1)).vals) λa1 a2=>?_;exact⟨_,jT,k',rfl,aW,ab,⟨a1▸ae,a1▸aC,rQ⟩,by rw[bc];exact a2⟩
theorem J3:Meth "dict" "setdefault" "dict.setdefault":=⟨F.plainAttrs_dict,F.slot_dict_setdefault,F.type_dict_setdefault⟩
end
structure yJ (prog:Program) (w:World) (A:Around) (bh:Addr) (fp wr:List Addr) (n:Nat) (P:Nat->Value->Value->Prop) (T:Nat->Heap->Prop):Prop where
 sub:∀b∈wr,b∈fp
 frame:∀i h h',T i h->(∀b∈fp,∀o,h.get? b=some o->h'.get? b=some o)->T i h'
 item:∀i (s:Shared) (elts:List Expr) (k:Nat) (pos:Pos) (Q:Value->Shared->Prop) (E:Value->Shared->Prop),i < n->T i s.heap->
  (∀t x y h' tk,P i x y->h'.IsTuple t #[x,y]->T (i+1) h'->(∀b o,b∉wr->s.heap.get? b=some o->h'.get? b=some o)->Q (.ref t) {s with heap:=h',toks:=tk})->
  wpAny (model prog w) A (pyNext (.ref bh)) (λr au=>∃v,r=some v/\wpAny (model prog w) A (letOwnedTupleGo (.Tuple elts k pos) (.ref bh) v) (λ_ aL=>Q v aL) E au) E s
 done:∀(s:Shared) (Q:Option Value->Shared->Prop) (E:Value->Shared->Prop),T n s.heap->
  (∀h' tk,(∀b o,b∉wr->s.heap.get? b=some o->h'.get? b=some o)->Q Option.none {s with heap:=h',toks:=tk})->wpAny (model prog w) A (pyNext (.ref bh)) Q E s
def uO(prog:Program)(w:World)(n:Nat)(env:Env)(m:Loc)(iter:Expr)(ps:List (ak×ak)):Prop:=
 ∀(W:Addr->Prop) (A:Around) (s:Shared) (Q:Value->Shared->Prop) (E:Value->Shared->Prop),bK n A->St w env W m s.heap->
  (∀(au:Shared) (bh:Addr) (fp fr wr:List Addr) (P:Nat->Value->Value->Prop) (T:Nat->Heap->Prop) (aL:Shared),Ext s au->G w au.heap->Ext au aL->G w aL.heap->yJ prog w A bh fp wr ps.length P T->T 0 aL.heap->(∀b∈wr,b∈fr)->(∀b∈fr,b∈fp)->(∀b∈fr,au.heap.get? b=none)->(∀b∈fp,(∃o,aL.heap.get? b=some o/\cx o)/\¬cc b)->
   (∀i h,T i h->∀b∈wr,∃o,h.get? b=some o/\cx o)->(∀b∈fp,b∈fr\/((∃o,au.heap.get? b=some o)/\¬W b))->(∀i x y,P i x y->∃p q,ps[i]? =some (p,q)/\a6 w au.heap W p x/\a6 w au.heap W q y)->Q (.ref bh) aL)->
  wpAny (model prog w) A (eval iter env) (λx au=>wpAny (model prog w) A (pyIter x) Q E au) E s
section
variable {prog:Program} {w:World} {n:Nat} {env:Env} {m:Loc} {Φ:dp->Loc->Prop}
theorem DH{x y:Str}{pt:Pos}{kt:Nat}{iter:Expr}{ps:List (ak×ak)}(inv:Nat->Loc->Prop)(hit:uO prog w n env m iter ps)(cN:∀p∈ps,cb p.1/\cb p.2)
  (SG:env.kindOf x=some .local\/(env.kindOf x=some .cell/\(env.cells.lookup x).isSome=true)) (T8:env.kindOf y=some .local\/(env.kindOf y=some .cell/\(env.cells.lookup y).isSome=true)) (h0:inv 0 m)
  (turn:∀j p q m',ps[j]? =some (p,q)->inv j m'->bg prog w n env ((y,q)::(x,p)::m') body (Br (inv (j+1)) Φ))
  (done:∀m',inv ps.length m'->bg prog w n env m' orelse Φ) (hs:∀v,foldedSetIterable iter env v=pure v):df prog w n env m (.For (.Tuple [.Name x px,.Name y py] kt pt) iter body orelse pos) Φ:=λs₀ W₀ J ad A s E ai F=>by
 refine wpAny_For ?_ hs;refine hit _ A s _ E ai F.st λau bh fp fr wr P T aL az aF aR aY aW bD vA xY d6 dQ dD kM b5=>?_;have aX:=F.ext az aF
 let dN:Addr->Prop:=λa=>J a\/a∈fr
 have bp:b1 w s₀ env W₀ ad dN m aL:=aX.oF aR aY (λa af=> .inl af) λa af aN=>by
  have af:=af.resolve_left aN;exact⟨d6 a af,(dQ a (xY a af)).1,(dQ a (xY a af)).2⟩
 let qK:Nat->Shared->Prop:=λj s'=>∃a3 m',b1 w s₀ env W₀ a3 dN m' s'/\inv j m'/\T j s'.heap/\bC (b4 env m ad) (b4 env m' a3) au s'
 have back:∀{a3 m' s'},b1 w s₀ env W₀ a3 dN m' s'->b1 w s₀ env W₀ a3 J m' s':=λaS=>aS.uF λa af=> .inl af;have ov:∀{a3:Str->Addr} {m':Loc} {s' b2:Shared},bC (b4 env m ad) (b4 env m' a3) au s'->(∀b∈fr,¬b4 env m' a3 b)->∀{pV dF},bC (b4 env m' a3) (b4 env dF pV) s' b2->∀b∈fp,∀o,s'.heap.get? b=some o->b2.heap.get? b=some o:=by
  intro a3 m' s' b2 bR vf pV dF cI b I o e;have aM:=(dQ b I).2;rcases kM b I with q |⟨⟨bZ,aO⟩,q⟩
  ·exact(cI b o (vf b q) aM e).1
  ·exact(cI b o (bR b bZ (λz=>q z.ky) aM aO).2 aM e).1
 have B9:∀{a3 m' s'},b1 w s₀ env W₀ a3 dN m' s'->∀b∈fr,¬b4 env m' a3 b:=λaS b I q=>by
  refine eR (aS.eg b (.inr I)) λab ae aC bc=>?_;rcases q with q |⟨nm,q⟩ |⟨y,av,q⟩
  ·exact ae q
  ·exact aC nm b q rfl
  ·exact bc y av q
 have GS:∀b o,au.heap.get? b=some o->b∉fr:=λb o e q=>by rw[d6 b q] at e;injection e
 have lj:∀b o,au.heap.get? b=some o->b∉wr:=λb o e q=>GS b o e (vA b q);have pre:bC (b4 env m ad) (b4 env m ad) s au:= .ext az;refine codeAny_forLoop_any (λk s'=>∃j,k=ps.length+1 - j/\j<=ps.length/\qK j s') ?_ (ps.length+1) ⟨0,by walk_at"o",c0 _,ad,m,bp,h0,bD,.ext aR⟩;intro k s' dg;refine fh λfz cE=>?_;refine dK dg λj dr aN e6=>?_;refine iC e6 λa3 m' aS hinv jV kO=>?_;subst dr;refine cE ?_;have uC:∀(h':Heap) (tk:Nat),(∀b o,b∉wr->s'.heap.get? b=some o->h'.get? b=some o)->(∀b∈wr,∃o,h'.get? b=some o/\cx o)->b1 w s₀ env W₀ a3 dN m' {s' with heap:=h',toks:=tk}:=λh' tk cj hex=>by
  refine aS.ro (λa af=>af) ⟨h',tk,rfl⟩ (λb o I _ e=>cj b o (λq=>I (.inr (vA b q))) e) ?_ λa af=>?_
  ·exact F.dM.chg (X:=λa=>a∈wr) aS.st.g (λa af=>⟨(aS.eg a (.inr (vA a af))).1,dD j _ jV a af⟩) λb o I e=>cj b o I e
  ·by_cases q:a∈wr
   ·exact hex a q
   ·refine aE (aS.st.low a (.dy af)) λaU _=>?_;refine ah aU λo e cF=>?_;exact⟨o,cj a o q e,cF⟩
 have pK:∀(h':Heap) (tk:Nat),(∀b o,b∉wr->s'.heap.get? b=some o->h'.get? b=some o)->bC (b4 env m ad) (b4 env m' a3) au {s' with heap:=h',toks:=tk}:=λh' tk cj b o I aM e=>⟨cj b o (lj b o e) (kO b o I aM e).1,(kO b o I aM e).2⟩
 by_cases cu:j < ps.length
 ·refine dV (aW.item j s' [.Name x px,.Name y py] kt pt (λv c9=>wpAny (model prog w) A (PySem.assign (PySem.Expr.Tuple [PySem.Expr.Name x px,PySem.Expr.Name y py] kt pt) env v) _ _ c9) _ cu jV λt jx qA h' tk o1 As nH cj=>?_) (λr VP h₁=>by refine ah h₁ λv a7 ae=>?_;subst a7;exact ae) λ_ _ e=>e;refine fh λfz cE=>?_;refine bj (b5 j jx qA o1) λp q r2 kn SH=>?_;refine aE (cN _ (eW r2)) λGb AS=>?_;refine cE ?_;have hF:=uC h' tk cj λb I=>dD (j+1) _ nH b I;have ox:=pK h' tk cj;refine wpAny_assign_Tuple ai.calm As (by rfl) (by rfl) λxC B8=>?_;have Ad:∀b o,h'.get? b=some o->xC.get? b=some o:=λb o e=>B8 b o (Nat.ne_of_lt (lt_size e)) e;have jI:Ext {s' with heap:=h',toks:=tk} {s' with heap:=xC,toks:=tk}:= .keeps Ad;have qI:=hF.ext jI (hF.st.g.keeps Ad);have l2:=ox.trans (bC.ext (W:=b4 env m' a3) jI);have put:∀{p:ak} {v:Value},cb p->a6 w au.heap (bU W₀ env m ad J) p v->a6 w xC (bU W₀ env m' a3 dN) p v:=λhf aq=>by
   refine aq.upd (λb o I U e=>?_) hf;have aM:=aF.gf e U;refine aE (l2 b o (λq=>I q.ky) aM e) λku h5=>?_;refine⟨ku,λq=>?_⟩;rcases q.split with q |(q |q) |q
   ·exact I (.nV q)
   ·exact I (.dy q)
   ·exact GS b o e q
   ·exact h5 q
  show wpAny _ A (assignInOrder [PySem.assign (PySem.Expr.Name x px) env,PySem.assign (PySem.Expr.Name y py) env] [jx,qA]) _ _ _;refine wpAny_assignInOrder_more (wpAny_assign_Name (qI.put (put Gb kn) Gb SG λgP gV fW=>?_));refine wpAny_assignInOrder_more (wpAny_assign_Name (gV.put ((put AS SH).FZ qI.st.g fW AS) AS T8 λmD yz yD=>?_));refine wpAny_assignInOrder_none ?_;have r8:T (j+1) xC:=aW.frame _ _ _ nH λb _ o e=>Ad b o e;have rL:T (j+1) gP.heap:=aW.frame _ _ _ r8 (ov l2 (B9 qI) fW);have Gq:=l2.trans fW;have Sf:T (j+1) mD.heap:=aW.frame _ _ _ rL (ov Gq (B9 gV) yD);have Ax:=Gq.trans yD;refine dV (turn j p q m' r2 hinv s₀ W₀ dN a3 A mD _ ai yz) (λf oA o=>?_) λ_ _ e=>e;have n1:∀x3 vU,b1 w s₀ env W₀ x3 dN vU oA->bC (b4 env ((y,q)::(x,p)::m') a3) (b4 env vU x3) mD oA->inv (j+1) vU->∃k,k < ps.length+1 - j/\∃h4,k=ps.length+1 - h4/\h4<=ps.length/\qK h4 oA:=λx3 vU Vo yN hi=>
   ⟨ps.length+1 - (j+1),by exact Nat.sub_lt_sub_left (Nat.lt_succ_of_lt ‹_›) (k6 _),j+1,rfl,cu,x3,vU,Vo,hi,aW.frame _ _ _ Sf (ov Ax (B9 yz) yN),Ax.trans yN⟩
  induction f with
  |next=>refine bj o λgp fq gV fW hi=>?_;exact n1 gp fq gV fW hi
  |cont=>refine bj o λgp fq gV fW hi=>?_;exact n1 gp fq gV fW hi
  |brk=>refine bj o λgp fq gV fW hi=>?_;exact⟨gp,fq,back gV,pre.trans (Ax.trans fW),hi⟩
  |ret v=>exact o
 ·have rV:j=ps.length:=by exact Nat.le_antisymm ‹_› (Nat.not_lt.mp ‹_›)
  subst rV;refine aW.done s' _ _ jV λh' tk cj=>?_;have vJ:∀a,J a->a∉wr:=λa af q=>by
   refine fh λfz cE=>?_;refine aE (aX.st.low a (.dy af)) λbk _=>?_;refine ah bk λo e cF=>?_;refine cE ?_;exact lj a o e q
  have vY:b1 w s₀ env W₀ a3 J m' {s' with heap:=h',toks:=tk}:=by
   refine aS.ro (λa af=> .inl af) ⟨h',tk,rfl⟩ (λb o I _ e=>cj b o (λq=>I (.inr (vA b q))) e) ?_ λa af=>?_
   ·exact F.dM.chg (X:=λa=>a∈wr) aS.st.g (λa af=>⟨(aS.eg a (.inr (vA a af))).1,dD _ _ jV a af⟩) λb o I e=>cj b o I e
   ·refine fh λfz cE=>?_;refine aE (aS.st.low a (.dy (.inl af))) λbz _=>?_;refine ah bz λo e cF=>?_;refine cE ?_;exact⟨o,cj a o (vJ a af) e,cF⟩
  exact dV (done m' hinv s₀ W₀ J a3 A _ _ ai vY) (λf b2 o=>o.pre (pre.trans (pK h' tk cj))) λ_ _ e=>e
end
variable {iL xs:Array Value}
section
variable {prog:Program} {w:World} {n:Nat} {env:Env} {m:Loc} {Φ:dp->Loc->Prop}
theorem sy{t:Addr}(x:h.IsTuple t xs)(k:∀o,h.get? t=some o->h'.get? t=some o):h'.IsTuple t xs:=ah x λo aj r=>⟨o,k o aj,r⟩
theorem Mv{k:Nat}{Ib:Nat->Array Value->Prop}{T:Nat->Heap->Prop}{Um:Nat->Addr->Heap->Prop}(W:WalksT prog w A bh fp wr k Ib T Um)(P:Nat->Value->Value->Prop)(b5:∀i vals,i < k->Ib i vals->∃x y,vals= #[x,y]/\P i x y):yJ prog w A bh fp wr k P T where
 sub:=W.sub
 frame:=W.frame
 item:=λi s elts dT pos Q E hi bD a4=>by
  refine W.item i s _ E hi bD λt vals h' tk B0 _ As xw ar=>?_;refine dP (b5 i vals hi B0) λx y aU aa=>?_;subst aU;refine⟨_,rfl,W.go elts dT pos i t {s with heap:=h',toks:=tk} _ E xw λhy nH GB=>?_⟩;exact a4 t x y hy tk aa (sy As λo e=>GB t o (W.apart i t h' xw) e) nH λb o I e=>GB b o I (ar b o I e)
 done:=W.done
theorem J5{a b:Addr}{us:List Value}{yG kv:Nat}{eM:List ak}(ai:bK 0 A)(g:G w s.heap)(low:eI W s.heap)
  (ig:s.heap.get? a=some {cls:= .type "list",data:= .seq ⟨us⟩ yG}) (gD:s.heap.get? b=some {cls:= .type "list",data:= .seq ⟨vs⟩ kv}) (xQ:bJ w s.heap W eM us) (bL:bJ w s.heap W sj vs) (l9:¬W a) (yd:¬W b)
  (h:∀(bh:Addr) (fp fr wr:List Addr) (P:Nat->Value->Value->Prop) (T:Nat->Heap->Prop) (aL:Shared),Ext s aL->G w aL.heap->yJ prog w A bh fp wr (eM.zip sj).length P T->T 0 aL.heap->(∀b∈wr,b∈fr)->(∀b∈fr,b∈fp)->(∀b∈fr,s.heap.get? b=none)->(∀b∈fp,(∃o,aL.heap.get? b=some o/\cx o)/\¬cc b)->
   (∀i h,T i h->∀b∈wr,∃o,h.get? b=some o/\cx o)->(∀b∈fp,b∈fr\/((∃o,s.heap.get? b=some o)/\¬W b))->(∀i x y,P i x y->∃p q,(eM.zip sj)[i]? =some (p,q)/\a6 w s.heap W p x/\a6 w s.heap W q y)->
   (∃TI Iv,IsZip aL.heap bh TI Iv .none)->Q (.ref bh) aL):wpAny (model prog w) A (call (.type "zip") [.ref a,.ref b]) Q E s:=by
 refine call_zip_2 (xs:=⟨us⟩) (ys:=⟨vs⟩) ⟨_,ig,rfl,yG,rfl⟩ ⟨_,gD,rfl,kv,rfl⟩ λh' ku h5 se v9 yn hC ar=>?_;generalize so:s.heap.objs.size=N at*;induction N using jH;rename_i N
 have HK:=lt_size ig;have HT:=lt_size gD;rw[so] at HK HT;have fresh:∀c,N<=c->s.heap.get? c=none:=λc U=>by
  induction e:s.heap.get? c with
  |none=>rfl
  |some o=>have ab:=lt_size e;rw[so] at ab;exact absurd ab (Nat.not_lt.mpr U)
 have D:ZipApart (N+4) (N+2) (N+3) N (N+1) a b:=by
  constructor<;>first |exact Nat.ne_of_lt (by walk_at"o") |exact Nat.ne_of_gt (by walk_at"o") |exact Nat.ne_of_lt (Nat.lt_of_lt_of_le HK (by walk_at"o")) |exact Nat.ne_of_lt (Nat.lt_of_lt_of_le HT (by walk_at"o"))
 have hlen:min (⟨us⟩:Array Value).size (⟨vs⟩:Array Value).size=(eM.zip sj).length:=by
  rw[length_zip,xQ.len,bL.len];rfl
 have W:=WalksT.zip2 (prog:=prog) (w:=w) ai.calm (N+4) (N+2) (N+3) N (N+1) a b D ⟨us⟩ ⟨vs⟩;rw[hlen] at W;replace W:=W;have cls:∀{c:Addr} {o:Obj} {hy:Heap} {T:String},hy.get? c=some o->o.cls= .type T->T≠"code"->∃o,hy.get? c=some o/\cx o:=λe U aM=>⟨_,e,.inl λq=>by rw[U] at q;injection q with q;exact aM q⟩
 refine h (N+4) _ [N+4,N+2,N+3,N,N+1] _ (λi x y=>∃p q,(eM.zip sj)[i]? =some (p,q)/\a6 w s.heap _ p x/\a6 w s.heap _ q y) _ _ (.keeps ar) (g.keeps ar) (Mv W _ λi vals hi B0=>?_) ⟨ku,h5,⟨_,_,se⟩,v9,yn,⟨_,ar _ _ ig,rfl,yG,rfl⟩,⟨_,ar _ _ gD,rfl,kv,rfl⟩⟩ (λc U=>by simp at U ⊢;rcases U with rfl |rfl |rfl |rfl<;>walk_at"o") (λc U=>by simp at U ⊢;rcases U with rfl |rfl |rfl |rfl |rfl<;>walk_at"o") (λc U=>fresh c (by simp at U;rcases U with rfl |rfl |rfl |rfl |rfl<;>walk_at"o")) (λc U=>?_) (λi hy bD c U=>?_) (λc U=>?_) (λi x y q=>q) ⟨_,_,ku⟩
 ·refine bj B0 λx y ag av a7=>?_;subst a7;refine ah (xQ.at' (i:=i) (v:=x) (by simpa using ag)) λp ab ae=>?_;refine ah (bL.at' (i:=i) (v:=y) (by simpa using av)) λq aC bc=>?_;exact⟨x,y,rfl,p,q,by rw[getElem?_zip_eq_some];exact⟨ab,aC⟩,ae,bc⟩
 ·have jr:∀c,N<=c->¬cc c:=λc U=>g.fC (fresh c U);simp at U;rcases U with rfl |rfl |rfl |rfl |rfl |rfl |rfl
  ·exact⟨cls ku rfl (by decide),jr _ (by exact Nat.le_add_right _ _)⟩
  ·exact⟨cls h5 rfl (by decide),jr _ (by exact Nat.le_add_right _ _)⟩
  ·exact⟨cls se rfl (by decide),jr _ (by exact Nat.le_add_right _ _)⟩
  ·exact⟨dK v9 λo e c _=>cls e c (by decide),jr _ (by walk_at"o")⟩
  ·exact⟨dK yn λo e c _=>cls e c (by decide),jr _ (by exact Nat.le_add_right _ _)⟩
  ·exact⟨cls (ar _ _ ig) rfl (by decide),g.gf ig eN⟩
  ·exact⟨cls (ar _ _ gD) rfl (by decide),g.gf gD eN⟩
 ·refine uT bD λt1 fa bk bz b7 _=>?_;refine cn bk λx y t3=>?_;refine dK bz λCv lH yH _=>?_;refine dK b7 λIz Vq CQ _=>?_;simp at U;rcases U with rfl |rfl |rfl |rfl
  ·exact cls t1 rfl (by decide)
  ·exact cls t3 rfl (by decide)
  ·exact cls lH yH (by decide)
  ·exact cls Vq CQ (by decide)
 ·simp at U;rcases U with rfl |rfl |rfl |rfl |rfl |rfl |rfl
  ·exact .inl (by exact .head _)
  ·exact .inl (by exact .tail _ (.head _))
  ·exact .inl (by exact .tail _ (.tail _ (.head _)))
  ·exact .inl (by simp)
  ·exact .inl (by simp)
  ·exact .inr ⟨⟨_,ig⟩,l9⟩
  ·exact .inr ⟨⟨_,gD⟩,yd⟩
theorem uO.zip{fm ct:Expr}{eM:List ak}(iZ:Ev prog w n env m eL (.val (.type "zip")))(af:aK prog w n env m pos [fm,ct] [.list eM,.list sj])(cv:(starEach [fm,ct] env).any (·.1)=false)
  (fu:eval (.Call eL [fm,ct] [] pos) env=(do callWith pos (<-eval eL env) [] (backTo pos (starEach [fm,ct] env)) (backToKw pos (keywordEach [] env)))):uO prog w n env m (.Call eL [fm,ct] [] pos) (eM.zip sj):=λW A s Q E ai x h=>by
 rw[fu];refine aH (iZ W A s _ E ai x λv au aq az aF=>?_);rw[show v= .type "zip" from aq];have I:=jz (pos:=pos) cv;have c4:=x.ext az aF;refine PySem.callWith_type (kA I) (hu I (af W A au _ E ai c4 λvs aL bb aR aY=>?_));refine bj bb λ_ _ a8 cC c2=>?_;refine bj c2 λ_ _ d7 c1 r9=>?_;refine cg cC λa us yG bW l9 ig xQ=>?_;refine cg c1 λb en kv yA yd gD bL=>?_;subst a8 bW d7 yA;rw[show _=[] from r9];have xE:=c4.ext aR aY;refine J5 (ai.le (c0 _)) aY xE.low ig gD xQ bL l9 yd λbh fp fr wr P T ef ee e4 aW bD ab ae aC bc dA jt m5 hz=>?_;refine cn hz λTI Iv hz=>?_;exact wpAny_pyIter_zip hz (h aL bh fp fr wr P T ef (az.trans aR) aY ee e4 aW bD ab ae aC bc dA jt m5)
end
variable {gens:List Comprehension}
theorem qS{sc:Scope}{line:Nat}{t:Str}(a9:c5 env sc)(aM:sc.names.lookup t=some .local)(ao:(py.line==pos.line)=true)(aA:(scope.names.any λ(n,k)=>n==t&&(k== .local||k== .cell))=false):
  swapsWith (.ListComp elt gens scope pos) (some (.Name t py)) line env=pure true:=by
 unfold swapsWith;have ab:(env.kindOf t==some .local)=true:=by rw[a9.kind t .local (by decide) aM];decide
 have I:env.blockKind= .function:=by unfold Env.blockKind;rw[a9.fn];rfl
 have ae:(env.blockKind==ScopeKind.function)=true:=by rw[I];decide
 show(pure (env.blockKind== .function&&env.kindOf t==some .local&&py.line==pos.line&& !(scope.names.any λ(n,k)=>n==t&&(k== .local||k== .cell))):Sem Bool)=pure true;rw[ab,ae,ao,aA];rfl
theorem Eu{sc:Scope}{line:Nat}{t:Str}(a9:c5 env sc)(aM:sc.names.lookup t=some .cell):
  swapsWith (.ListComp elt gens scope pos) (some (.Name t py)) line env=pure false:=by
 unfold swapsWith;have ab:(env.kindOf t==some .local)=false:=by rw[a9.kind t .cell (by decide) aM];decide
 show(pure (env.blockKind== .function&&env.kindOf t==some .local&&py.line==pos.line&& !(scope.names.any λ(n,k)=>n==t&&(k== .local||k== .cell))):Sem Bool)=pure false;rw[ab,Bool.and_false,Bool.false_and,Bool.false_and]
theorem gI.len{Ia:List (Str×ak)}{ys:List (Str×Value)}(x:gI w h W' Ia ys):Ia.length=ys.length:=by
 induction x with
 |nil=>rfl
 |cons _ _ aw=>simp[aw]
theorem LL(x:h.DictOf (strKind prog w) D kvs)(k:∀o,h.get? D=some o->h'.get? D=some o):h'.DictOf (strKind prog w) D kvs:=u6 x λo es ep aj r=>⟨o,es,ep,k o aj,r⟩
theorem J8{iter:Expr}{cL:Pos}{ks:List Str}{x:Str}{f:Str->ak}{c:Bool}{sc:Scope} 
  (ai:bK n A) (hQ:St w env W m s.heap) (a9:c5 env sc) (hit:Ev prog w n env m iter q) (gk:cw prog w q (aB ks)) (bo:ks.Nodup) (BD:(x==("__debug__":Str))=false) (hs:∀v,foldedSetIterable iter env v=pure v) (S:i6 scope sc x c)
  (gn:∀y p,mf.lookup y=some p->m.lookup y=some p/\scope.names.lookup y=some .free) (hz:ks.length<=sizeLine) (cN:∀y∈ks,cb (f y))
  (elts:∀y∈ks,∀cenv,c5 cenv scope->Ev prog w n cenv ((x,.str y)::mf) wd (f y))
  (fin:∀(D C:Addr) (s':Shared),Ext s s'->G w s'.heap->s.heap.get? C=none->¬cc C->a6 w s'.heap (λa=>W a\/a=C) (su (ks.map λy=>(y,f y))) (.ref D)->(∃cH,s'.heap.Ns C cH)->compPost (model prog w) A E use Q (.ref D) C (.ok .next) s'):
  wpAny (model prog w) A (comprehension (.DictComp (.Name x cL) wd [⟨.Name x px,iter,[],0⟩] scope pos) scope env AY newDict false (eval iter env) use) Q E s:=by
 have et:∀j,dB (((ks.take j).map λy=>(y,f y)).map (·.2)):=λj=>by
  rw[dX];refine kF λp aa=>?_;refine ah (bA.mp aa) λy av c2=>?_;subst c2;exact cN y (mem_of_mem_take av)
 have SV:(aB ks).length=ks.length:=bO ..;refine Er (yP:=λcenv D F E aL=>wpAny (model prog w) A (forIn [] true λc r=>if r=true then do let ok<-isTrue c cenv (eval c cenv);pure (ForInStep.yield ok) else pure (ForInStep.yield r)) (λok ef=>if ok=true then wpAny (model prog w) A (eval (.Name x cL) cenv) (λkv c9=>wpAny (model prog w) A (eval wd cenv) (λH6 gP=>wpAny (model prog w) A (dictSet D kv H6) (λ_=>F) E gP) E c9) E ef else F ef) E aL)
  (pv:=su (ks.map λy=>(y,f y))) (ob:={cls:= .type "dict",data:= .dict #[]}) (λD W' j h=>∃kvs,h.DictOf (strKind prog w) D kvs/\gI w h W' ((ks.take j).map λy=>(y,f y)) kvs) ai hQ a9 (.of ai hQ hit gk) hs S gn
  (λD W' i=>⟨λh H=>ah H λkvs aU _=>cg aU λo es ep e _ hd _=>⟨o,e,.inr λvs q=>by rw[hd] at q;injection q⟩,λh h' H k₁ k₂=>ah H λkvs ax aD=>⟨kvs,LL ax k₁,aD.upd (λb o I U e=>⟨k₂ b o I U e,I⟩) (et i)⟩⟩)
  (λD W' h e=>⟨[],⟨_,#[],0,e,⟨rfl,rfl,rfl⟩,rfl,λ_ he=>absurd he (Array.not_mem_empty _),Pairs.nil,nodup_nil⟩,.nil⟩)
  (λit D cenv R bh turn n s h=>codeAny_compLoop_testsD bh turn n h)
  (λD cenv W' j p gP F c6 lD aa sf aW gq kt bx m7=>?_)
  (λD W' V h n5 pk jg H=>?_)
  (λit acc cenv R s h0 h=>codeAny_compStart_dict h0 h) fin (λs Q h=>aH (wpAny_alloc (bu h))) rfl rfl
 ·rw[eb] at aa;refine ah (h7.mp aa) λy vw c2=>?_;subst c2;refine wpAny_tests_nil ?_;rw[aQ rfl];refine(Ev.name (prog:=prog) (n:=n) a5 BD) W' A gP _ _ ai sf λkv mD fT lq vd=>?_;refine aP fT λWv eS=>?_;subst eS;refine elts y (eW vw) cenv lD W' A mD _ _ ai (sf.ext lq vd) λqA oA av uQ vh=>?_;refine ah (bx _ (lq.trans uQ) vh) λkvs a1 a2=>?_;have hlen:kvs.length<=sizeLine:=by
   rw[<-a2.len,bO,length_take];exact ei (Nat.min_le_right ..) hz
  refine wpAny_dictSet_pairs (knd:=strKind prog w) (k:=y) isKey a1 (λAv Pj ny=>?_) hlen;refine m7 oA Av _ (lq.trans uQ) vh ny ⟨_,Pj,?_⟩;have kL:ed ((ks.take j).map λy=>(y,f y)) y (f y)=(ks.take (j+1)).map λy=>(y,f y):=by
   have vK:ks.take (j+1)=ks.take j++[y]:=by rw[hO,vw];rfl
   have xG:=(take_sublist (j+1) ks).nodup bo;rw[vK,gL] at xG;unfold ed;rw[vK,dY,aI]
   ·rfl
   ·intro q;refine ah (g8.mp q) λz hz oP=>?_;refine ah (bA.mp hz) λg4 hZ eQ=>?_;subst eQ;exact xG.2.2 g4 hZ y (cQ.mpr rfl) (ej oP)
  rw[<-kL];have up:=λb o (I:¬W' b) (_:o.cls≠ .none) e=>And.intro (ny.extBut b o (λq=>I (q▸gq)) e) I;exact(a2.upd up (et _)).put (av.upd up (cN y (eW vw)))
 ·refine ah H λkvs a1 a2=>?_;rw[SV,take_length] at a2;replace a2:=a2;refine iC (uB a1) λes k gU jq tZ Vf=>?_;refine aE ((a2.upd (W':=V) (λb o I _ e=>⟨e,λq=>I (n5 b q)⟩) (by rw[<-take_length (l:=ks)];exact et _)).vals) λhK h2=>?_;exact⟨D,es,k,rfl,pk,gU,⟨hK▸jq,hK▸tZ,jg⟩,Vf▸h2⟩
theorem Jr{iter:Expr}{cL:Pos}{ks:List Str}{x:Str}{f:Str->ak}{c:Bool}{sc:Scope}(a9:c5 env sc)(hit:Ev prog w n env m iter q)(gk:cw prog w q (aB ks))(bo:ks.Nodup)(BD:(x==("__debug__":Str))=false)(S:i6 scope sc x c)
  (gn:∀y p,mf.lookup y=some p->m.lookup y=some p/\scope.names.lookup y=some .free) (hz:ks.length<=sizeLine) (cN:∀y∈ks,cb (f y))
  (elts:∀y∈ks,∀cenv,c5 cenv scope->Ev prog w n cenv ((x,.str y)::mf) wd (f y))
  (hs:∀v,foldedSetIterable iter env v=pure v):Ev prog w n env m (.DictComp (.Name x cL) wd [⟨.Name x px,iter,[],0⟩] scope pos) (su (ks.map λy=>(y,f y))):=λW A s Q E ai hQ h=>by
 rw[arm_eval_DictComp];refine J8 (use:=none) ai hQ a9 hit gk bo BD hs S gn hz cN elts λD C s' e g gu Cr aq aA=>?_;refine aP aA λcH aA=>?_;refine⟨cH,aA,λh' bL=>?_⟩;refine ah (nj aA) λo aj hd=>?_;have aO:Ext s {s' with heap:=h'}:=by
  refine cn e.same λab t1 dz=>?_;exact⟨⟨h',t1,by rw[dz]⟩,λb ob I ct=>bL.extBut b ob (λq=>by rw[q,gu] at ct;injection ct) (e.keep b ob I ct)⟩
 refine h _ _ ?_ aO (hQ.g.set g gu aj hd bL);have et:cb (su (ks.map λy=>(y,f y))):=by
  show dB _;refine kF λp aa=>?_;rw[dX] at aa;refine ah (bA.mp aa) λy av fS=>?_;subst fS;exact cN y av
 exact aq.upd (λb ob I _ ct=>⟨bL.extBut b ob (λq=>I (.inr q)) ct,λq=>I (.inl q)⟩) et
theorem Jt{elts:List Expr}{si}{t:Addr}{v:Value}{Q:Unit->Shared->Prop}(hit:s.heap.IsTupleIter bh t i)(aq:∃a,v= .ref a)(a4:Q () s):
  wpAny (model prog w) A (letOwnedTupleGo (.Tuple elts si pos) (.ref bh) v) Q E s:=by
 refine aP aq λT aU=>?_;subst aU;refine dK hit λo aj U hd=>?_;unfold letOwnedTupleGo;refine aH (wpAny_load aj ?_);rw[U,hd];show wpAny _ A (if(["enumerate","zip","dict_itemiterator","dict_reverseitemiterator","odict_iterator","itertools.zip_longest","itertools.pairwise"].contains "tuple_iterator"&&
   (#[.ref t,.int i 0]:Array Value)[0]? ==some (rawInt T))=true then _ else _) Q E s
 rw[aI (by
  intro h;rw[show(["enumerate","zip","dict_itemiterator","dict_reverseitemiterator","odict_iterator","itertools.zip_longest","itertools.pairwise"].contains "tuple_iterator")=false from by decide,Bool.false_and] at h;injection h)]
 exact bu a4
noncomputable def refsOf(vs:List Value):List Addr:=vs.filterMap λv=>match v with | .ref a=>some a |_=>none
theorem EB{a:Addr}(h:vs[i]? =some (.ref a)):a∈refsOf vs:=List.mem_filterMap.mpr ⟨_,eW h,rfl⟩
theorem of_refs{a:Addr}(h:a∈refsOf vs):∃i:Nat,vs[i]? =some (Value.ref a):=by
 refine ah (List.mem_filterMap.mp h) λv aq e=>?_
 (induction v)<;>simp at e
 subst e;exact getElem?_of_mem aq
theorem LO(dt:A.handled=none)(bh tT:Addr)(bY:tT≠bh)(vs:List Value)(P:Nat->Value->Value->Prop)(me:bh∉refsOf vs):
  yJ prog w A bh (bh::tT::refsOf vs) [bh] vs.length P (λi h=>h.IsTupleIter bh tT i/\h.IsTuple tT ⟨vs⟩/\∀j,j < vs.length->∃t x y,vs[j]? =some (.ref t)/\h.IsTuple t #[x,y]/\P j x y) where
 sub:=λb I=>by simp at I;simp[I]
 frame:=λi h h' ⟨ab,ae,aC⟩ ar=>⟨let⟨o,e,r⟩:=ab;⟨o,ar bh (by exact .head _) o e,r⟩,sy ae λo e=>ar tT (by exact .tail _ (.head _)) o e,λj aN=>gA (aC j aN) λt x y e aM aa=>⟨t,x,y,e,sy aM λo pl=>ar t (by simp[EB e]) o pl,aa⟩⟩
 item:=λi s elts k pos Q E hi fy a4=>by
  refine cB fy λab ae aC=>?_;refine gA (aC i hi) λt x y e aM aa=>?_;refine wpAny_pyNext_tuple_item ab ae (x:= .ref t) (by simpa using e) λh' u2 eH=>?_;have HI:∀(j:Nat) (e2:Addr),vs[j]? =some (Value.ref e2)->e2≠bh:=λj e2 aO q=>me (q▸EB aO);have k:∀b o,b∉[bh]->s.heap.get? b=some o->h'.get? b=some o:=λb o I e=>eH.extBut b o (λq=>I (by simp[q])) e;refine⟨_,rfl,Jt u2 ⟨_,rfl⟩ ?_⟩;exact a4 t x y h' s.toks aa (sy aM λo pl=>k t o (by simpa using HI i t e) pl) ⟨u2,sy ae λo pl=>k tT o (by simpa using bY) pl,λj aN=>gA (aC j aN) λe2 gx g4 aO tr f6=>⟨e2,gx,g4,aO,sy tr λo pl=>k e2 o (by simpa using HI j e2 aO) pl,f6⟩⟩ k
 done:=λs Q E QH a4=>cB QH λab ae _=>wpAny_pyNext_tuple_end dt ab ae (by simp) λh' gj=>a4 h' s.toks λb o I e=>gj b o (λh=>I (by simp[h])) e
theorem JB{iter:Expr}{ps:List (ak×ak)}(hit:Ev prog w n env m iter (.tup (ps.map λz=> .tup [z.1,z.2]))):uO prog w n env m iter ps:=λW A s Q E ai x h=>by
 refine hit W A s _ E ai x λv au aq az aF=>?_;refine fh λfz cE=>?_;refine cg aq λa vs k a7 l9 aj hs=>?_;subst a7;refine cE ?_;have ao:au.heap.IsTuple a ⟨vs⟩:=⟨_,aj,rfl,k,rfl⟩
 refine wpAny_pyIter_tuple ao ?_;have bY:a≠au.heap.objs.size:=Nat.ne_of_lt (lt_size aj);have item:∀(j:Nat) (t:Addr),vs[j]? =some (Value.ref t)->∃p q x y k,ps[j]? =some (p,q)/\¬W t/\au.heap.get? t=some {cls:= .type "tuple",data:= .seq ⟨[x,y]⟩ k}/\a6 w au.heap W p x/\a6 w au.heap W q y:=λj t e=>by
  refine ah (hs.at' e) λp' ab ae=>?_;rw[eb] at ab;refine fh λfz cE=>?_;refine ah (h7.mp ab) λbk aC bz=>?_;obtain⟨p,q⟩:=bk;subst bz;refine cg ae λe2 us k' aO BA l3 b7=>?_;refine bj b7 λx km CB ag dr=>?_;refine bj dr λy RR Tg av a8=>?_;refine cE ?_
  (injection aO with bB;subst bB)
  subst CB Tg;rw[show RR=[] from a8] at l3;exact⟨p,q,x,y,k',aC,BA,l3,ag,av⟩
 have Pl:∀j:Nat,j < vs.length->∃t:Addr,vs[j]? =some (Value.ref t):=λj aN=>by
  refine fh λfz cE=>?_;obtain⟨p',ab,ae⟩:=hs.at' (cm aN);refine cE ?_;rw[eb] at ab;refine fh λfz cE=>?_;refine ah (h7.mp ab) λcC aC c1=>?_;obtain⟨p,q⟩:=cC;subst c1;refine u6 ae λe2 us k' aO _=>?_;refine cE ?_;exact⟨e2,by rw[cm aN,aO]⟩
 have me:au.heap.objs.size∉refsOf vs:=λq=>by
  refine fh λfz cE=>?_;refine aP (of_refs q) λj e=>?_;refine xu (item j _ e) λ_ _ _ _ _ _ _ l3 _=>?_;refine cE ?_;rw[eA] at l3;injection l3
 have hlen:ps.length=vs.length:=by have:=hs.len;simpa using this
 have aW:=LO (prog:=prog) (w:=w) (A:=A) ai.calm au.heap.objs.size a bY vs (λj jx qA=>∃p q,ps[j]? =some (p,q)/\a6 w au.heap W p jx/\a6 w au.heap W q qA) me;rw[<-hlen] at aW;have c4:=x.ext az aF;refine h au au.heap.objs.size _ [au.heap.objs.size] [au.heap.objs.size] _ _ _ az aF (.push ..) (aF.push _) aW ⟨⟨_,dc _ rfl,rfl,rfl⟩,⟨_,dZ _ aj,rfl,k,rfl⟩,λj aN=>?_⟩ (λb I=>I) (λb I=>by simp at I;simp[I]) (λb I=>?_) (λb I=>?_) (λi h' bD b I=>?_) (λb I=>?_) (λi jx qA aa=>aa)
 ·refine fh λfz cE=>?_;refine aP (Pl j (by exact Nat.lt_of_lt_of_eq ‹_› ‹_›)) λt e=>?_;refine GA (item j t e) λp q jx qA k' aC _ l3 ag av=>?_;refine cE ?_;exact⟨t,jx,qA,e,⟨_,dZ _ l3,rfl,k',rfl⟩,p,q,aC,ag,av⟩
 ·simp at I;subst I;exact eA _
 ·simp at I;replace I:=I;rcases I with rfl |rfl |I
  ·exact⟨⟨_,dc _ rfl,.inl (by intro q;injection q with q;exact absurd q (by decide))⟩,aF.fC (eA _)⟩
  ·exact⟨⟨_,dZ _ aj,.inl (by intro q;injection q with q;exact absurd q (by decide))⟩,aF.gf aj eN⟩
  ·refine fh λfz cE=>?_;refine aP (of_refs I) λj e=>?_;refine xu (item j _ e) λ_ _ _ _ _ _ _ l3 _=>?_;refine cE ?_;exact⟨⟨_,dZ _ l3,.inl (by intro q;injection q with q;exact absurd q (by decide))⟩,aF.gf l3 eN⟩
 ·simp at I;subst I;refine fh λfz cE=>?_;refine aE bD λc2 _=>?_;refine dK c2 λo ax aD _=>?_;refine cE ?_;exact⟨o,ax,.inl (by rw[aD];intro q;injection q with q;exact absurd q (by decide))⟩
 ·simp at I;replace I:=I;rcases I with rfl |rfl |I
  ·exact .inl (by exact .head _)
  ·exact .inr ⟨⟨_,aj⟩,l9⟩
  ·refine fh λfz cE=>?_;refine aP (of_refs I) λj e=>?_;refine xu (item j _ e) λ_ _ _ _ _ _ BA l3 _=>?_;refine cE ?_;exact .inr ⟨⟨_,l3⟩,BA⟩
def qv(prog:Program)(w:World)(n:Nat)(q:ak)(args:List ak)(p:ak):Prop:=
 ∀(W:Addr->Prop) (A:Around) (s:Shared) (f:Value) (vs:List Value) (Q:Value->Shared->Prop) (E:Value->Shared->Prop),bK n A->G w s.heap->eI W s.heap->a6 w s.heap W q f->bJ w s.heap W args vs->
  (∀v s',a6 w s'.heap W p v->Ext s s'->G w s'.heap->Q v s')->wpAny (model prog w) A (call f vs) Q E s
theorem Cl.v{f:Value}{p:ak}(h:Cl prog w n f args p):qv prog w n (.val f) args p:=λW A s g vs Q E ai sk low aq=>by
 rw[show g=f from aq];exact h W A s vs Q E ai sk low
def EM(w:World)(q:ak):Prop:=(∃f,q= .val f/\Callee w f)\/∃P,q= .lam P
theorem Kg{p:ak}(iZ:Ev prog w n env m eL q)(aG:EM w q)(af:aK prog w n env m pos es ps)(U:qv prog w n q ps p)(cv:(starEach es env).any (·.1)=false)
  (fu:eval (.Call eL es [] pos) env=(do callWith pos (<-eval eL env) [] (backTo pos (starEach es env)) (backToKw pos (keywordEach [] env)))):Ev prog w n env m (.Call eL es [] pos) p:=by
 rcases aG with⟨f,rfl,hf⟩ |⟨P,rfl⟩
 ·exact Ev.call iZ hf af (λW A s vs Q E ai g low bb=>U W A s f vs Q E ai g low rfl bb) cv fu
 ·intro W A s Q E ai x h;rw[fu];refine aH (iZ W A s _ E ai x λv au aq az aF=>?_);have c4:=x.ext az aF;have I:=jz (pos:=pos) cv;have jW:=aq;refine GA aq λa o fd c cP aU a7 _ hd _=>?_;subst aU;refine cB a7 λaW aj eB=>?_;have key:wpAny (model prog w) A (evalArgs (Value.ref a) true (backTo pos (starEach es env)) []) (λr aL=>aL.heap.get? a=some o/\wpAny (model prog w) A (PySem.call (Value.ref a) ([]++r.pos) r.kw) Q E aL) E au:=hu I (af W A au _ E ai c4 λvs aL bb aR aY=>⟨?_,?_⟩)
  ·exact Calls.callWith_function (o:=o) (fd:=fd) (dV key (λ_ _ h=>⟨⟨h.1,hd⟩,h.2⟩) λ_ _ e=>e)
  ·exact aR.keep _ _ (aF.gf aj (eB▸eN)) aj
  ·exact U W A aL (.ref a) vs Q E ai aY (c4.ext aR aY).low (jW.ext aF aR) bb λv s' aq e g=>h v s' aq ((az.trans aR).trans e) g
section
variable {prog:Program} {w:World} {n:Nat} {env:Env} {m:Loc} {Φ:dp->Loc->Prop}
theorem Ed{x:Str}{J:Addr->Prop}{ad:Str->Addr}{P:Nat->Value->Prop}{T:Nat->Heap->Prop}(inv:Nat->Loc->Prop)(ai:bK n A)
  (aF:G w au.heap) (dq:∀a,J a->∃o,au.heap.get? a=some o) (bp:b1 w s₀ env W₀ ad (λa=>J a\/a∈wr) m aL) (zY:bC (b4 env m₁ jF) (b4 env m ad) au aL) (aW:Walks prog w A bh fp wr ps.length P T) (bD:T 0 aL.heap) (fl:∀b∈wr,au.heap.get? b=none) (dQ:∀b∈fp,¬cc b) (dD:∀i h,T i h->∀b∈wr,∃o,h.get? b=some o/\cx o)
  (kM:∀b∈fp,b∈wr\/((∃o,au.heap.get? b=some o)/\¬bU W₀ env m₁ jF J b)) (b5:∀i u,P i u->∃q,ps[i]? =some q/\a6 w au.heap (bU W₀ env m₁ jF J) q u) (cN:∀p∈ps,cb p)
  (ar:env.kindOf x=some .local\/(env.kindOf x=some .cell/\(env.cells.lookup x).isSome=true)) (h0:inv 0 m)
  (turn:∀j p m',ps[j]? =some p->inv j m'->bg prog w n env ((x,p)::m') body (Br (inv (j+1)) Φ))
  (done:∀m',inv ps.length m'->bg prog w n env m' orelse Φ):
  codeAny (model prog w) A (.forLoop (.Name x px) (.ref bh) body orelse env) (λr s'=>match r with | .ok f=>Out w s₀ env W₀ J Φ (b4 env m₁ jF) au f s' | .error e=>cameBackBy (model prog w) A env E e s') aL:=by
 let dN:Addr->Prop:=λa=>J a\/a∈wr
 let qK:Nat->Shared->Prop:=λj s'=>∃a3 m',b1 w s₀ env W₀ a3 dN m' s'/\inv j m'/\T j s'.heap/\bC (b4 env m₁ jF) (b4 env m' a3) au s'
 have back:∀{a3 m' s'},b1 w s₀ env W₀ a3 dN m' s'->b1 w s₀ env W₀ a3 J m' s':=λaS=>aS.uF λa af=> .inl af;have ov:∀{a3:Str->Addr} {m':Loc} {s' b2:Shared},bC (b4 env m₁ jF) (b4 env m' a3) au s'->(∀b∈wr,¬b4 env m' a3 b)->∀{pV dF},bC (b4 env m' a3) (b4 env dF pV) s' b2->∀b∈fp,∀o,s'.heap.get? b=some o->b2.heap.get? b=some o:=by
  intro a3 m' s' b2 bR vf pV dF cI b I o e;have aM:=dQ b I;rcases kM b I with q |⟨⟨bZ,aO⟩,q⟩
  ·exact(cI b o (vf b q) aM e).1
  ·exact(cI b o (bR b bZ (λz=>q z.ky) aM aO).2 aM e).1
 have vq:∀{a3 m' s'},b1 w s₀ env W₀ a3 dN m' s'->∀b∈wr,¬b4 env m' a3 b:=λaS b I q=>by
  refine eR (aS.eg b (.inr I)) λab ae aC bc=>?_;rcases q with q |⟨nm,q⟩ |⟨y,av,q⟩
  ·exact ae q
  ·exact aC nm b q rfl
  ·exact bc y av q
 have lj:∀b o,au.heap.get? b=some o->b∉wr:=λb o e q=>by rw[fl b q] at e;injection e
 refine codeAny_forLoop (λk s'=>∃j,k=ps.length+1 - j/\j<=ps.length/\qK j s') ?_ (ps.length+1) ⟨0,by walk_at"o",c0 _,ad,m,bp,h0,bD,zY⟩;intro k s' dg;refine tu λc6=>oK λcJ kr=>?_;refine dK dg λj dr aN e6=>?_;refine iC e6 λa3 m' aS hinv jV kO=>?_;subst dr;have uC:∀(h':Heap) (tk:Nat),(∀b o,b∉wr->s'.heap.get? b=some o->h'.get? b=some o)->(∀b∈wr,∃o,h'.get? b=some o/\cx o)->b1 w s₀ env W₀ a3 dN m' {s' with heap:=h',toks:=tk}:=λh' tk cj hex=>by
  refine aS.ro (λa af=>af) ⟨h',tk,rfl⟩ (λb o I _ e=>cj b o (λq=>I (.inr q)) e) ?_ λa af=>?_
  ·exact aS.dM.chg (X:=λa=>a∈wr) aS.st.g (λa af=>⟨(aS.eg a (.inr af)).1,dD j _ jV a af⟩) λb o I e=>cj b o I e
  ·by_cases q:a∈wr
   ·exact hex a q
   ·refine aE (aS.st.low a (.dy af)) λaU _=>?_;refine ah aU λo e cF=>?_;exact⟨o,cj a o q e,cF⟩
 have pK:∀(h':Heap) (tk:Nat),(∀b o,b∉wr->s'.heap.get? b=some o->h'.get? b=some o)->bC (b4 env m₁ jF) (b4 env m' a3) au {s' with heap:=h',toks:=tk}:=λh' tk cj b o I aM e=>⟨cj b o (lj b o e) (kO b o I aM e).1,(kO b o I aM e).2⟩
 by_cases cu:j < ps.length
 ·refine aW.item j s' _ _ cu jV λv h' tk o1 nH cj=>?_;refine ah (b5 j v o1) λp aa kn=>?_;have lC:p∈ps:=eW aa;have hF:=uC h' tk cj λb I=>dD (j+1) _ nH b I;have ox:=pK h' tk cj;have Bq:a6 w h' (bU W₀ env m' a3 dN) p v:=by
   refine kn.upd (λb o I U e=>?_) (cN p lC);have aM:=aF.gf e U;refine aE (ox b o (λq=>I q.ky) aM e) λku h5=>?_;refine⟨ku,λq=>?_⟩;rcases q.split with q |(q |q) |q
   ·exact I (.nV q)
   ·exact I (.dy q)
   ·exact lj b o e q
   ·exact h5 q
  refine kr _ _ (tu λCx=>oK λVx B6=>?_);refine wpAny_assign_Name (hF.put Bq (cN p lC) ar λc9 qI pb=>?_);have l2:=ox.trans pb;have r8:T (j+1) c9.heap:=aW.frame _ _ _ nH (ov ox (vq hF) pb);refine B6 _ _ (dV (turn j p m' aa hinv s₀ W₀ dN a3 A c9 _ ai qI) (λf gP o=>?_) λ_ _ e=>e);have n1:∀gp fq,b1 w s₀ env W₀ gp dN fq gP->bC (b4 env ((x,p)::m') a3) (b4 env fq gp) c9 gP->inv (j+1) fq->∃k,k < ps.length+1 - j/\∃h4,k=ps.length+1 - h4/\h4<=ps.length/\qK h4 gP:=λgp fq gV fW hi=>
   ⟨ps.length+1 - (j+1),by exact Nat.sub_lt_sub_left (Nat.lt_succ_of_lt ‹_›) (k6 _),j+1,rfl,cu,gp,fq,gV,hi,aW.frame _ _ _ r8 (ov l2 (vq qI) fW),l2.trans fW⟩
  induction f with
  |next=>refine bj o λgp fq gV fW hi=>?_;exact n1 gp fq gV fW hi
  |cont=>refine bj o λgp fq gV fW hi=>?_;exact n1 gp fq gV fW hi
  |brk=>refine bj o λgp fq gV fW hi=>?_;exact⟨gp,fq,back gV,l2.trans fW,hi⟩
  |ret v=>exact o
 ·have rV:j=ps.length:=by exact Nat.le_antisymm ‹_› (Nat.not_lt.mp ‹_›)
  subst rV;refine aW.done s' _ _ jV λh' tk cj=>?_;have vJ:∀a,J a->a∉wr:=λa af q=>by
   refine aP (dq a af) λo e=>?_;exact lj a o e q
  have vY:b1 w s₀ env W₀ a3 J m' {s' with heap:=h',toks:=tk}:=by
   refine aS.ro (λa af=> .inl af) ⟨h',tk,rfl⟩ (λb o I _ e=>cj b o (λq=>I (.inr q)) e) ?_ λa af=>?_
   ·exact aS.dM.chg (X:=λa=>a∈wr) aS.st.g (λa af=>⟨(aS.eg a (.inr af)).1,dD _ _ jV a af⟩) λb o I e=>cj b o I e
   ·refine fh λfz cE=>?_;refine aE (aS.st.low a (.dy (.inl af))) λa7 _=>?_;refine ah a7 λo e cF=>?_;refine cE ?_;exact⟨o,cj a o (vJ a af) e,cF⟩
  exact kr _ _ (dV (done m' hinv s₀ W₀ J a3 A _ _ ai vY) (λf b2 o=>o.pre (pK h' tk cj)) λ_ _ e=>e)
theorem uh{x:Str}{iter:Expr}(inv:Nat->Loc->Prop)(hit:Ev prog w n env m iter q)(gk:cw prog w q ps)(aG:cb q)(cN:∀p∈ps,cb p)
  (ar:env.kindOf x=some .local\/(env.kindOf x=some .cell/\(env.cells.lookup x).isSome=true)) (h0:inv 0 m)
  (turn:∀j p m',ps[j]? =some p->inv j m'->bg prog w n env ((x,p)::m') body (Br (inv (j+1)) Φ))
  (done:∀m',inv ps.length m'->bg prog w n env m' orelse Φ) (hs:∀v,foldedSetIterable iter env v=pure v):df prog w n env m (.For (.Name x px) iter body orelse pos) Φ:=λs₀ W₀ J ad A s E ai F=>by
 refine wpAny_For (hit _ A s _ E ai F.st λjx au aq az aF=>?_) hs;have aX:=F.ext az aF;refine gk _ A au jx _ E (ai.le (c0 _)) aF aX.st.low aq λbh fp wr P T aL aR aY aW bD fl dQ dD kM b5=>?_;have bp:b1 w s₀ env W₀ ad (λa=>J a\/a∈wr) m aL:=aX.oF aR aY (λa af=> .inl af) λa af aN=>by
  have af:=af.resolve_left aN;exact⟨fl a af,dD 0 _ bD a af,(dQ a (aW.sub a af)).2⟩
 refine codeAny_mono (Ed (E:=E) inv ai aF (λa af=>(aX.st.low a (.dy af)).1.elim λo h=>⟨o,h.1⟩) bp (.ext aR) aW bD fl (λb I=>(dQ b I).2) dD (λb I=>(kM b I).imp id λRU=>aE RU λa c=>⟨a,c aG⟩) b5 cN ar h0 turn done) λr s' o=>?_;induction r with
 |error e=>exact o
 |ok f=>exact o.pre (.ext az)
end
section
variable {prog:Program} {w:World} {n:Nat} {env:Env} {m:Loc} {Φ:dp->Loc->Prop}
theorem Ek:nsIn (KF w) 3 "iter"=some none:=by kernel_rfl
theorem JL:nsIn (KF w) 3 "_initial_missing"=some (some (.ref 65)):=by kernel_rfl
theorem KC:entryFor table "iter"=some Builtin.«iter»:=entryFor_of_fast (by kernel_rfl)
theorem LM(a:Value):argsOk "iter" ⟨[a],[]⟩:=by unfold argsOk;kernel_rfl
theorem K3{v:Value}(h:wpAny (model prog w) A.in1 (pyIter v) Q E s):wpAny (model prog w) A (call (.builtin "iter") [v]) Q E s:=by
 refine call_function_tree (by kernel_rfl) (by kernel_rfl) KC (LM _) ?_;unfold Builtin.«iter»;refine aH (m:=someArgs "iter" 1 2 _) (wpAny_of_eq (a:=[v]) (by rfl) ?_);exact aH (dV h (λx s' ag=>bu ag) λ_ _ e=>e)
theorem QN(w:World):(KF w).lookup 65=some {cls:= .type "object"}:=by kernel_rfl
theorem IL{l:List ak}:cA prog w (compareOp .Is) (.list l) (.val (.ref 65)) (.bool false):=λW A s _ _ Q E r g low fy aO h=>by
 refine cg fy λa vs k e aW aj hs=>?_;subst e;rw[show _=Value.ref 65 from aO];have aC:=g.K _ _ (QN w);have bY:a≠65:=λq=>by
  rw[q] at aj;rw[aj] at aC;have bc:=congrArg (λo=>o.map (·.cls)) aC;exact absurd bc (by simp)
 show wpAny _ _ (do return Value.bool (<-isSame (.ref a) (.ref 65))) _ _ _;exact aH (wpAny_isSame_ref_other bY aj aC (λq=>by injection q with q;exact absurd q (by decide)) (bu (h _ _ rfl (.refl s) g)))
end
variable {lG u:Tok}
def o8(Q:Value->Shared->Prop)(E:Value->Shared->Prop)(r:Result)(s':Shared):Prop:=match r with | .ok (.ret v)=>Q v s' | .ok _=>False | .error e=>E e s'
theorem D2{f c:Addr}{o:Obj}{sc:Scope}{J:Addr->Prop}
  (Pr:A.depth < recursionLimit) (F:tx w f c names o cP fd body iL lG sc kT) (hlen:args.length=names.length) (cN:dB args)
  (same:∃h tk,s={s₀ with heap:=h,toks:=tk}) (mq:gy s₀.heap s.heap) (dM:G w s₀.heap) (g:G w s.heap) (fg:eI W₀ s₀.heap) (a0:∀a,J a->s₀.heap.get? a=none/\(∃o,s.heap.get? a=some o/\cx o)/\¬cc a)
  (ke:∀(cJ:List (Str×Value)->Shared->Prop) (c6:Value->Shared->Prop),(∀en au,bJ w au.heap (λa=>W₀ a\/J a) args en->Ext s au->G w au.heap->cJ (names.zip en) au)->wpAny (model prog w) A.in1 (bindArgs fd ⟨vs,[]⟩) cJ c6 s)
  (h:∀(env:Env) (au:Shared),c5 env sc->env.code= .ref c->env.qual=kT++".<locals>."->env.frame=some env.locals->b1 w s₀ env W₀ (λ_=>0) J (names.zip args) au->Ext s au->s.heap.get? env.locals=none->(∀nm sg,env.cells.lookup nm=some sg->s.heap.get? sg=none)->
   wpAny (model prog w) (A.deeper env) (execs body env) (λer s'=>Q (match er with | .ret v=>v |_=> .none) s') (λ_ _=>False) au):codeAny (model prog w) A (.call (.ref f) ⟨vs,[]⟩) (o8 Q E) s:=by
 obtain⟨rO,hd,U,P4,dD,vv,I,bo,Q0,vL,vx,FN,jj,rA,rz,kk,UK,qd⟩:=F;have aj:=g.K _ _ rO;have r0:=g.K _ _ P4;subst kk UK;refine(codeAny_call_function Pr aj hd rA rz I ⟨c,cP,iL,lG,U,r0,dD,vv⟩ ?_);refine ke _ _ λen i1 bb ct kV=>?_;have tn:en.length=names.length:=by rw[<-bb.len,hlen]
 rw[Q0];refine wpAny_newFunctionEnv_cells jj (λx ag=>?_) λVT he au X=>?_
 ·refine FN _ x.1 ?_;have:=fX (f:=(·.1)) ag
  rwa [wB tn] at this
 ·subst he;refine⟨kV.lim.keeps X.toInCall.keep,codeAny_func ?_⟩
  let env:=callEnvC fd i1.heap.objs.size f
  have ax:env.locals=i1.heap.objs.size:=rfl;have cI:∀x,env.kindOf x=fd.scope.names.lookup x:=λx=>rfl;refine cn X.toInCall.same λh₁ sY jE=>?_;have keep:=X.toInCall.keep;have aF:G w au.heap:=kV.keeps keep;have eB:∀n c,env.cells.lookup n=some c->i1.heap.get? c=none/\c≠env.locals:=λn c U=>by
   have this:i1.heap.objs.size < c:=X.above n c (mem_of_lookup U);refine⟨?_,λq=>?_⟩
   ·induction e:i1.heap.get? c with
    |none=>rfl
    |some o=>have ab:=lt_size e;exact absurd ab (Nat.not_lt.mpr (Nat.le_of_lt this))
   ·rw[q,ax] at this;exact Nat.lt_irrefl _ this
  have ti:i1.heap.get? env.locals=none:=by rw[ax];exact eA _
  have CE:gy s₀.heap i1.heap:=mq.trans ct.keep;have old:∀b,i1.heap.get? b=none->s.heap.get? b=none:=λb I=>by
   induction e:s.heap.get? b with
   |none=>rfl
   |some o=>rw[ct.keep _ _ (kV.fC I) e] at I;injection I
  have Fm:∀b,i1.heap.get? b=none->s₀.heap.get? b=none:=λb I=>by
   induction e:s₀.heap.get? b with
   |none=>rfl
   |some o=>rw[CE _ _ (kV.fC I) e] at I;injection I
  have Cy:∀a,J a->∃o,i1.heap.get? a=some o/\cx o:=λa af=>cB (a0 a af) λ_ Rz aM=>ah Rz λo e cF=>⟨o,ct.keep _ _ aM e,cF⟩
  have F:b1 w s₀ env W₀ (λ_=>0) J (names.zip args) au:=by
   have uX:∀x,¬dn (names.zip args) x:=λx q=>by
    rcases q with⟨l,q⟩ |⟨ks,l,q⟩
    ·exact od cN (qM q)
    ·exact od cN (qM q)
   refine⟨?_,CE.trans (.of keep),dM,⟨jj,vL,vx,aF,?_,kV.fC ti,λn c U=>kV.fC (eB n c U).1,?_⟩,λx _ q=>absurd q (uX x),λx q=>absurd q (uX x),λa af=>⟨(a0 a af).1,λq=>?_,λnm sg kQ q=>?_,λx q=>absurd q (uX x)⟩,Fm _ ti,λn c U=>⟨Fm _ (eB n c U).1,(eB n c U).2⟩,?_,fg,⟨_,X.toInCall.ns⟩,λn c U=>⟨_,X.cell n c U⟩,λx q aG=>(od cN (qM aG)).o⟩
   ·refine cn same λab t1 dz=>?_;refine cn ct.same λae fa bN=>?_;exact⟨h₁,sY,by rw[jE,bN,dz]⟩
   ·intro a af;rcases af with af |af |⟨nm,af⟩ |⟨x,q,_⟩ |af
    ·refine aE (fg a af) λaU I=>?_;refine ah aU λo e cF=>?_;exact⟨⟨o,keep _ _ (CE _ _ I e),cF⟩,I⟩
    ·refine⟨?_,kV.fC (af▸ti)⟩;refine ah (nj X.toInCall.ns) λo aj hd=>?_;exact⟨o,af▸aj,.inr hd⟩
    ·refine ah (uc (X.cell nm a af)) λo aj hd=>?_;exact⟨⟨o,aj,.inr hd⟩,kV.fC (eB nm a af).1⟩
    ·exact absurd q (uX x)
    ·refine ah (Cy a af) λo e cF=>?_;exact⟨⟨o,keep _ _ e,cF⟩,(a0 a af).2.2⟩
   ·intro x q aG;refine ah (DD bb aG) λv hm aq=>?_;have pZ:((names.zip en).map (·.1)).Nodup:=by rw[wB tn];exact bo
    refine⟨v,?_,?_⟩
    ·have nO:x∈names:=by
      have:=fX (f:=(·.1)) hm
      rwa [wB tn] at this
     rcases FN i1.heap.objs.size x nO with ao |⟨ao,U⟩
     ·exact .inl ⟨ao,_,X.toInCall.ns,K2 (k:=env.kindOf) ao _ _ pZ hm⟩
     ·refine aP (nk.mp U) λc U=>?_;refine .inr ⟨.inl ao,c,U,?_⟩;have qq:au.heap.IsCell c (bindC env.kindOf (names.zip en) (λ_=>none) x):=X.cell x c U
      rwa [LV (k:=env.kindOf) (by rw[cI,ao];decide) _ _ pZ hm] at qq
    ·have qr:=od cN (qM aG);refine aq.upd (λb o I _ e=>⟨keep _ _ e,λq=>?_⟩) qr;rcases q with q |q |⟨nm,q⟩ |⟨x,q,_⟩ |q
     ·exact I (.inl q)
     ·rw[q,ti] at e;injection e
     ·rw[(eB nm b q).1] at e;injection e
     ·exact absurd q (uX x)
     ·exact I (.inr q)
   ·refine ah (Cy a af) λo e _=>?_;rw[q,ti] at e;injection e
   ·refine ah (Cy a af) λo e _=>?_;rw[q,(eB nm sg kQ).1] at e;injection e
   ·intro n il c ab ae;exact name_of_addr X.apart (mem_of_lookup ab) (mem_of_lookup ae)
  have uJ:∀y,fd.scope.names.lookup y≠some .free:=λy q=>by
   have:=iP.mp qd _ (mem_of_lookup q)
   (focus (injection this;done))
  have a9:c5 env fd.scope:=⟨λy k _ e=>e,λy q=>absurd q (uJ y),λy q=>cellsFrom_some (.inr (q.resolve_right (uJ y))),jj⟩
  have es:Ext i1 au:=⟨⟨h₁,sY,jE⟩,.of keep⟩
  refine dV (h env au a9 U rfl rfl F (ct.trans es) (old _ ti) λnm sg kQ=>old _ (eB nm sg kQ).1) (λer s' o=>o) λ_ _ e=>e.elim
theorem d3.nV{f c:Addr}{p:ak}{o:Obj}{sc:Scope} 
  (F:tx w f c names o cP fd body iL lG sc kT) (hlen:args.length=names.length) (cN:dB args) (hm:names.zip args=m)
  (ke:∀(W:Addr->Prop) (A:Around) (s:Shared) (vs:List Value) (cJ:List (Str×Value)->Shared->Prop) (c6:Value->Shared->Prop),G w s.heap->eI W s.heap->bJ w s.heap W sN vs->(∀en au,bJ w au.heap W args en->Ext s au->G w au.heap->cJ (names.zip en) au)->wpAny (model prog w) A (bindArgs fd ⟨vs,[]⟩) cJ c6 s)
  (h:∀env:Env,c5 env sc->env.code= .ref c->env.qual=kT++".<locals>."->env.frame=some env.locals->bg prog w n env m body (H3 p)):d3 prog w (n+1) f sN p:=by
 subst hm;intro W A s vs Q E ai g low bb a4;have vR:(λa=>W a\/False)=W:=funext λa=>propext ⟨λq=>q.elim id False.elim,.inl⟩;refine wpAny_call (D2 (s₀:=s) (W₀:=W) (J:=λ_=>False) (args:=args) ai.lim F hlen cN ⟨s.heap,s.toks,rfl⟩ (.refl _) g g low (λ_ q=>q.elim) (λcJ c6 aG=>ke W A.in1 s vs cJ c6 g low bb λen au ab ae aC=>aG en au (by rw[vR];exact ab) ae aC) ?_);intro env au a9 ab ae aC F az _ _;refine dV (h env a9 ab ae aC s W _ _ _ au (λ_ _=>False) ai.in F) (λer s' o=>?_) λ_ _ e=>e;induction er with
 |next=>
  refine bj o λad m' aS _ aa=>?_;have aa:p= .none:=aa;subst aa;exact a4 _ _ rfl aS.sW aS.st.g
 |brk=>refine bj o λ_ _ _ _ q=>?_;exact q.elim
 |cont=>refine bj o λ_ _ _ _ q=>?_;exact q.elim
 |ret v=>
  refine nI o λq a b c d e=>?_;have e:q=p:=e;subst e;exact a4 _ _ a c d
theorem d3.of{f c:Addr}{p:ak}{o:Obj}{sc:Scope} 
  (F:tx w f c names o cP fd body iL lG sc kT) (ke:∀vs,vs.length=names.length->bindArgs fd ⟨vs,[]⟩=pure (names.zip vs)) (hlen:args.length=names.length) (cN:dB args) (hm:names.zip args=m)
  (h:∀env:Env,c5 env sc->env.code= .ref c->env.qual=kT++".<locals>."->env.frame=some env.locals->bg prog w n env m body (H3 p)):d3 prog w (n+1) f args p:=
 d3.nV F hlen cN hm (λW A s vs cJ c6 g low bb a4=>wpAny_of_eq (ke vs (by rw[<-bb.len,hlen])) (a4 vs s bb (.refl s) g)) h
local macro_rules | `(tactic|walk_at"l")=> `(tactic|first |with_reducible exact a5 |assumption |with_reducible exact bS (by kernel_rfl!) (by walk_at"l"))
local macro_rules | `(tactic|walk_at"k")=> `(tactic|(refine qT (by assumption) (by decide+kernel) (by kernel_rfl)))
local macro_rules | `(tactic|walk_at"s")=> `(tactic|exact .inr ⟨by walk_at"k",N1 (by assumption) (by kernel_rfl)⟩)
local macro_rules | `(tactic|walk_at"op")=> `(tactic|first |(with_reducible first |exact qP |exact sD |exact sF |exact zl |exact zj |exact LC |exact uj |exact Ea |exact uu |exact Dd) |exact qN (by decide) |exact wG (by decide) (by decide))
local macro_rules | `(tactic|walk_at"e")=> `(tactic|with_reducible first
 |exact Ev.int |exact Ev.str |exact Ev.bool |exact Ev.none
 |exact Ev.name (by walk_at"l") (by kernel_rfl!)
 |exact d8 (by walk_at"e") (by walk_at"e") (by walk_at"op")
 |exact Ev.cmp (by walk_at"e") (by walk_at"e") (by walk_at"op") (by with_unfolding_all rfl))
noncomputable def lA(b:Bool)(x:Str):Bool:=if b then false else if x=="" then false else if Txt.item x 0=="."||Txt.item x (-1)=="." then false else true
theorem I9{x:Str}(h:(x==("":Str))=false):0 < x.length:=by
 rcases Nat.eq_zero_or_pos x.length with q |q
 ·have:x="":=by
   induction x with
   |mk c=>
    have:c= #[]:=Array.eq_empty_of_size_eq_zero q;subst this;rfl
  rw[this] at h;exact absurd h (by decide+kernel)
 ·exact q
theorem zV{x:Str}{b:Bool}(I:kP x=some b)(ag:x.length<=1000):d3 prog w 1 50 [.str x] (.bool (lA b x)):=by
 refine d3.of (names:=["text"]) (m:=[("text",.str x)]) (c:=49) (by exact⟨rfl,rfl,rfl,rfl,rfl,rfl,rfl,ej (by kernel_rfl),rfl,rfl,rfl,kinds_of (by kernel_rfl),rfl,rfl,rfl,by dsimp only,by dsimp only,by kernel_rfl⟩) (bind1 λa=>by exact rfl) (by exact rfl) ⟨trivial,trivial⟩ (by exact rfl) ?_;intro env a9 ec fE d6;have hz:x.length<=sizeLine:=ei ag (by decide);refine bg.cons (kB (JY (by walk_at"k") (by walk_at"e") I hz (by exact rfl) (by exact rfl)) (λab=>?_) λab=>?_)
 ·exact bg.cons (df.ret (p:= .bool false) (by walk_at"e") trivial (by show ak.bool false=_;rw[lA,aQ ab]))
 ·refine bg.nil ?_;refine bg.cons (kB (by exact bV.cmp (by walk_at"e") (by walk_at"e") (by walk_at"op") (by with_unfolding_all rfl)) (λae=>?_) λae=>?_)
  ·exact bg.cons (df.ret (p:= .bool false) (by walk_at"e") trivial (by show ak.bool false=_;rw[lA,ab,aI (by decide),aQ ae]))
  ·refine bg.nil ?_;have aa:=I9 ae;refine bg.cons (kB (sQ (x:=Txt.item x 0==".") (y:=Txt.item x (-1)==".") (bV.cmp (Ev.item (by walk_at"e") (by walk_at"e") Typed.str F.slot_str_getitem.lookup (wD (by walk_at"o") (by walk_at"o") hz) λ_ _=>rfl) (by walk_at"e") uj (by with_unfolding_all rfl))
    λ_=>bV.cmp (Ev.item (by walk_at"e") (lN Ev.int) Typed.str F.slot_str_getitem.lookup (wD (by walk_at"o") (by walk_at"o") hz) λ_ _=>rfl) (by walk_at"e") uj (by with_unfolding_all rfl)) (λaC=>?_) λaC=>?_)
   ·exact bg.cons (df.ret (p:= .bool false) (by walk_at"e") trivial (by show ak.bool false=_;rw[lA,ab,aI (by decide),ae,aI (by decide),aQ aC]))
   ·exact bg.nil (bg.cons (df.ret (p:= .bool true) (by walk_at"e") trivial (by show ak.bool true=_;rw[lA,ab,aI (by decide),ae,aI (by decide),aC];rfl)))
noncomputable def l6(a b:Str)(hG yk:Bool):Bool:=
 if a==b then true else if !lA hG a then false else if Txt.rfind a b== -1||Txt.rfind a b==0 then false else if !Txt.startswith b "." then false else if !lA yk (Txt.slice b (some 1) none) then false else true
theorem O2{x y:Str}{hG yk:Bool}(ag:x.length<=100)(av:y.length<=100)(HW:(Txt.lower x).length<=100)(SK:(Txt.lower y).length<=100)
  (tM:kP (Txt.lower x)=some hG) (T5:kP (Txt.slice (Txt.lower y) (some 1) none)=some yk):d3 prog w 2 57 [.str x,.str y] (.bool (l6 (Txt.lower x) (Txt.lower y) hG yk)):=by
 refine d3.of (names:=["A","B"]) (m:=[("A",.str x),("B",.str y)]) (c:=56) (by exact⟨rfl,rfl,rfl,rfl,rfl,rfl,rfl,ej (by kernel_rfl),rfl,rfl,rfl,kinds_of (by kernel_rfl),rfl,rfl,rfl,by dsimp only,by dsimp only,by kernel_rfl⟩) (sZ λa b=>by exact rfl) (by exact rfl) ⟨trivial,trivial,trivial⟩ (by exact rfl) ?_;intro env a9 ec fE d6;generalize af:Txt.lower x=a at*;generalize I:Txt.lower y=b at*;refine bg.cons (jA (p:= .str a) (af▸j4 Fq (by walk_at"e") Typed.str aK.nil (DA (by exact bH ‹_› rfl)) rfl rfl rfl rfl) trivial (.inl (by walk_at"k")) ?_ rfl);refine bg.cons (jA (p:= .str b) (I▸j4 Fq (by walk_at"e") Typed.str aK.nil (DA (by exact bH ‹_› rfl)) rfl rfl rfl rfl) trivial (.inl (by walk_at"k")) ?_ rfl);refine bg.cons (kB (by exact bV.cmp (by walk_at"e") (by walk_at"e") (by walk_at"op") (by with_unfolding_all rfl)) (λab=>?_) λab=>?_)
 ·exact bg.cons (df.ret (p:= .bool true) (by walk_at"e") trivial (by show ak.bool true=_;rw[l6,aQ ab]))
 refine bg.nil (bg.cons (kB (bV.not (bV.plain (Ev.call (fL (by walk_at"k") zL (by decide+kernel)) (.inr (.inr ⟨50,_,_,rfl,rfl,rfl⟩)) (aK.cons (by walk_at"e") aK.nil rfl) ((zV tM (by exact bH ‹_› rfl)).cl.le (by decide)) rfl rfl) hb.bool λ_=>rfl)) (λae=>?_) λae=>?_))
 ·exact bg.cons (df.ret (p:= .bool false) (by walk_at"e") trivial (by show ak.bool false=_;rw[l6,ab,aI (by decide),aQ ae]))
 refine bg.nil (bg.cons (jA (p:= .int (Txt.rfind a b)) (j4 Ou (by walk_at"e") Typed.str (aK.cons (by walk_at"e") aK.nil rfl) Ka rfl rfl rfl rfl) trivial (.inl (by walk_at"k")) ?_ rfl));refine bg.cons (kB (sQ (x:=Txt.rfind a b== -1) (y:=Txt.rfind a b==0) (bV.cmp (by walk_at"e") (lN Ev.int) sF (by with_unfolding_all rfl)) λ_=>bV.cmp (by walk_at"e") Ev.int sF (by with_unfolding_all rfl)) (λaC=>?_) λaC=>?_)
 ·exact bg.cons (df.ret (p:= .bool false) (by walk_at"e") trivial (by show ak.bool false=_;rw[l6,ab,aI (by decide),ae,aI (by decide),aQ aC]))
 refine bg.nil (bg.cons (kB (bV.not (bV.plain (j4 JT (by walk_at"e") Typed.str (aK.cons (by walk_at"e") aK.nil rfl) IU rfl rfl rfl rfl) hb.bool λ_=>rfl)) (λbc=>?_) λbc=>?_))
 ·exact bg.cons (df.ret (p:= .bool false) (by walk_at"e") trivial (by show ak.bool false=_;rw[l6,ab,aI (by decide),ae,aI (by decide),aC,aI (by decide),aQ bc]))
 refine bg.nil (bg.cons (kB (bV.not (bV.plain (Ev.call (fL (by walk_at"k") zL (by decide+kernel)) (.inr (.inr ⟨50,_,_,rfl,rfl,rfl⟩)) (aK.cons (y3 (by walk_at"e") (by walk_at"e") (ei SK (by decide))) aK.nil rfl) ((zV T5 (ei (Txt.slice_le _ _ _) (by exact bH ‹_› rfl))).cl.le (by decide)) rfl rfl) hb.bool λ_=>rfl)) (λdA=>?_) λdA=>?_))
 ·exact bg.cons (df.ret (p:= .bool false) (by walk_at"e") trivial (by show ak.bool false=_;rw[l6,ab,aI (by decide),ae,aI (by decide),aC,aI (by decide),bc,aI (by decide),aQ dA]))
 ·exact bg.nil (bg.cons (df.ret (p:= .bool true) (by walk_at"e") trivial (by show ak.bool true=_;rw[l6,ab,aI (by decide),ae,aI (by decide),aC,aI (by decide),bc,aI (by decide),dA,aI (by decide)])))
noncomputable def sV(hG:Bool)(h:Str):Str:=
 if decide (0<=Txt.find h ".") then
  if lA hG h&&(decide (0<=Txt.find (Txt.slice h (some (Txt.find h "."+1)) none) ".")||Txt.slice h (some (Txt.find h "."+1)) none=="local") then(".":Str)++Txt.slice h (some (Txt.find h "."+1)) none else h
 else h
theorem M4{x:Str}{hG:Bool}(ag:x.length<=100)(tM:kP x=some hG):d3 prog w 2 64 [.str x] (.str (sV hG x)):=by
 refine d3.of (names:=["h"]) (m:=[("h",.str x)]) (c:=63) (by exact⟨rfl,rfl,rfl,rfl,rfl,rfl,rfl,ej (by kernel_rfl),rfl,rfl,rfl,kinds_of (by kernel_rfl),rfl,rfl,rfl,by dsimp only,by dsimp only,by kernel_rfl⟩) (bind1 λa=>by exact rfl) (by exact rfl) ⟨trivial,trivial⟩ (by exact rfl) ?_;intro env a9 ec fE d6;generalize hi:Txt.find x "."=i;refine bg.cons (jA (p:= .int i) (hi▸j4 Fz (by walk_at"e") Typed.str (aK.cons (by walk_at"e") aK.nil rfl) Cl.find rfl rfl rfl rfl) trivial (.inl (by walk_at"k")) ?_ rfl);refine bg.cons (kB (by exact bV.cmp (by walk_at"e") (by walk_at"e") (by walk_at"op") (by with_unfolding_all rfl)) (λab=>?_) λab=>?_)
 ·generalize I:Txt.slice x (some (i+1)) none=b;have G9:b.length<=100:=I▸ei (Txt.slice_le _ _ _) ag;refine bg.cons (jA (p:= .str b) (I▸y3 (by walk_at"e") (by walk_at"e") (ei ag (by decide))) trivial (.inl (by walk_at"k")) ?_ rfl);generalize aN:Txt.find b "."=j;refine bg.cons (jA (p:= .int j) (aN▸j4 Fz (by walk_at"e") Typed.str (aK.cons (by walk_at"e") aK.nil rfl) Cl.find rfl rfl rfl rfl) trivial (.inl (by walk_at"k")) ?_ rfl);refine bg.cons (kB (bV.and (x:=lA hG x) (y:=decide (0<=j)||b=="local") (bV.plain (Ev.call (fL (by walk_at"k") zL (by decide+kernel)) (.inr (.inr ⟨50,_,_,rfl,rfl,rfl⟩)) (aK.cons (by walk_at"e") aK.nil rfl) ((zV tM (by exact bH ‹_› rfl)).cl.le (by decide)) rfl rfl) hb.bool λ_=>rfl)
   λ_=>sQ (x:=decide (0<=j)) (y:=b=="local") (by exact bV.cmp (by walk_at"e") (by walk_at"e") (by walk_at"op") (by with_unfolding_all rfl)) λ_=>by exact bV.cmp (by walk_at"e") (by walk_at"e") (by walk_at"op") (by with_unfolding_all rfl)) (λae=>?_) λae=>?_)
  ·refine bg.cons (df.ret (p:= .str ((".":Str)++b)) (d8 (by walk_at"e") (by walk_at"e") (lL ?_)) trivial (by show ak.str _=_;rw[sV,hi,aQ ab,I,aN,aQ ae]));have:((".":Str)).length=1:=by decide+kernel
   have hs:sizeLine=2 ^ 24:=rfl;walk_at"o"
  ·exact bg.nil (bg.nil (bg.cons (df.ret (p:= .str x) (by walk_at"e") trivial (by show ak.str _=_;rw[sV,hi,aQ ab,I,aN,ae];rfl))))
 ·exact bg.nil (bg.cons (df.ret (p:= .str x) (by walk_at"e") trivial (by show ak.str _=_;rw[sV,hi,ab];rfl)))
variable {dm:List Int}
theorem qQ:nsIn (KF w) 3 "range"=some none:=by kernel_rfl
theorem EO:nsIn (KF w) 3 "sum"=some none:=by kernel_rfl
theorem og:nsIn (KF w) 3 "len"=some none:=by kernel_rfl
noncomputable def cL{α:Type}(l:List α)(a b c:Option Int):List α:=let t:=sliceBounds a b c l.length;(sliceRange t.1 t.2.1 t.2.2).filterMap (l[·]?)
theorem sH{α:Type}(f:α->ak)(l:List α)(a b c:Option Int):pick (l.map f) a b c=(cL l a b c).map f:=by
 unfold pick cL;simp only[length_map,map_filterMap];congr 1;funext i;simp
theorem OW{α:Type}(l:List α)(a b c:Option Int):(cL l a b c).length<=(sliceRange (sliceBounds a b c l.length).1 (sliceBounds a b c l.length).2.1 (sliceBounds a b c l.length).2.2).length:=length_filterMap_le _ _
noncomputable def bases:List Int:=[350110,9630121,40210,10,40221]
noncomputable def cellAt(dm:List Int)(k:Nat):Int:=(bases.getD k 0+(cL dm (some (k:Nat)) none (some 5)).sum).fmod 100000000
noncomputable def cellsOf(dm:List Int):List Int:=(range 5).map (cellAt dm)
noncomputable def o4(f:Int->ak):ak->ak
 | .int k=>f k
 |_=> .none
noncomputable def o7(f:Str->ak):ak->ak
 | .str k=>f k
 |_=> .none
theorem qY{l:List Int}:cb (.list (cp l)):=kF λp aa=>by
 refine ah (bA.mp aa) λi _ aU=>?_;subst aU;exact trivial
theorem d9{l:List Str}:cb (.list (aB l)):=kF λp aa=>by
 refine ah (bA.mp aa) λi _ a7=>?_;subst a7;exact trivial
theorem MY(hz:dm.length<=1000):d3 prog w 3 203 [.list (cp dm)] (.list (cp (cellsOf dm))):=by
 refine d3.of (names:=["script"]) (m:=[("script",.list (cp dm))]) (c:=202) (by exact⟨rfl,rfl,rfl,rfl,rfl,rfl,rfl,ej (by kernel_rfl),rfl,rfl,rfl,kinds_of (by kernel_rfl),rfl,rfl,rfl,by dsimp only,by dsimp only,by kernel_rfl⟩) (bind1 λa=>by exact rfl) (by exact rfl) ⟨qY,trivial⟩ (by exact rfl) ?_;intro env a9 ec fE d6;have de:sizeLine=2 ^ 24:=rfl;refine bg.cons (df.ret (k0 (x:="k") (c:=false) (mf:=[("script",.list (cp dm))]) (t:=λ_=>true) (f:=o4 λk=> .int (cellAt dm k.toNat)) a9
  (Ev.call (fA (by walk_at"k") qQ (by exact rfl) (by decide+kernel) (by kernel_rfl)) (.inr (.inl ⟨"range",rfl⟩)) (aK.cons Ev.int aK.nil rfl) sA rfl rfl)
  (cw.hj (a:=0) (b:=5) (c:=1) (by kernel_rfl) (by decide+kernel)) ⟨λ_ _=>rfl,λ_=>rfl,by kernel_rfl,by kernel_rfl,by decide+kernel,rfl⟩ ?_ (by decide+kernel) ?_ (λp _ cenv _=>gd.nil) ?_ (λ_=>rfl)) ?_ ?_)
 ·intro y p h;rw[di] at h;replace h:=h;split at h
  ·rename_i av;obtain rfl:=bT h;rw[eq_of_beq av];exact⟨a5,by kernel_rfl⟩
  ·injection h
 ·intro p aa _;refine ah (bA.mp aa) λi _ bk=>?_;subst bk;exact trivial
 ·intro p aa _ cenv dR;refine ah (bA.mp aa) λi hi bz=>?_;subst bz;have qc:i < 5:=by
   have d7:iV 0 5 1=5:=by kernel_rfl
   rw[d7] at hi;exact j6.mp hi
  have dO:(0:Int)+(i:Nat)*1=i:=by walk_at"o"
  rw[dO];show Ev prog w 2 cenv _ _ (.int (cellAt dm (i:Int).toNat));rw[Int.toNat_natCast];refine d8 (d8 (p:= .int (bases.getD i 0)) (q:= .int (cL dm (some (i:Nat)) none (some 5)).sum) (z:= .int (bases.getD i 0+(cL dm (some (i:Nat)) none (some 5)).sum)) ?_ ?_ qP) Ev.int (qN (by decide))
  ·refine Ev.item (Ev.list (ps:=cp bases) (aK.cons Ev.int (aK.cons Ev.int (aK.cons Ev.int (aK.cons Ev.int (aK.cons Ev.int aK.nil rfl) rfl) rfl) rfl) rfl) (by decide)) (k:= .int i) (by walk_at"e") Typed.list fN.lookup (cA.item (by exact nq _) ?_ (by decide)) λ_ _=>rfl;rw[Int.toNat_natCast];simp only[cp,getElem?_map,List.getD];have:i < bases.length:=qc;rw[cm this];rfl
  ·refine Ev.call (ps:=[.list (cp (cL dm (some (i:Nat)) none (some 5)))]) (fA (by walk_at"k") EO (by exact rfl) (by decide+kernel) (by kernel_rfl)) (.inl ⟨"sum",rfl⟩) (aK.cons ?_ aK.nil rfl) (Cl.sum cw.list) rfl rfl;show Ev prog w 2 cenv _ _ (.list ((cL dm (some (i:Nat)) none (some 5)).map .int));rw[<-sH];refine ug (a:=some (i:Nat)) (b:=none) (c:=some 5) (by walk_at"e") (show Ev _ _ _ _ _ _ _ by walk_at"e") trivial (show Ev _ _ _ _ _ _ _ from Ev.int) (by decide) (by(rw[bO];exact bH ‹_› rfl))
 ·show dB _;refine kF λp aa=>?_;refine ah (bA.mp aa) λq aG b7=>?_;subst b7;refine ah (bA.mp (ew.mp aG).1) λi _ cC=>?_;subst cC;exact trivial
 ·show ak.list _=ak.list _;rfl
abbrev bM(m:Loc)(x:Str)(p:ak):Prop:=List.lookup x m=some p
noncomputable def xi:List Str:=["xlocal","local","c7","7","com."]
noncomputable def kh(cell size:Int):Int:=((cell.fdiv size).fmod 10).fmod 4
noncomputable def my(cell size:Int)(l:List Str):List Str:=if kh cell size != 0 then [Txt.item "aB7" (kh cell size - 1)]++l else l
noncomputable def sS(cell:Int):List Str:=[Txt.item "aB7" (((cell.fdiv 10).fmod 10).fmod 3),xi.getD (cell.fmod 5).toNat ""]
noncomputable def gK(cell:Int):List Str:=my cell 1000 (my cell 100 (sS cell))
theorem Ml{Φ:dp->Loc->Prop}(h:∀Ψ,Φ=Ψ->bg prog w n env m ss Ψ):bg prog w n env m ss Φ:=h Φ rfl
theorem Nk:(("aB7":Str)).length=3:=by decide+kernel
theorem KV{cell size:Int}{l:List Str}:(my cell size l).length<=l.length+1:=by
 unfold my;split
 ·simp
 ·exact Nat.le_add_right _ _
theorem j5{a b:List Str}:aB (a++b)=aB a++aB b:=dY
theorem cz{a:List Str}:(aB a).length=a.length:=bO ..
theorem LD{cell:Int}:d3 prog w 3 210 [.int cell] (.list (aB (gK cell))):=by
 refine d3.of (names:=["cell"]) (m:=[("cell",.int cell)]) (c:=209) (by exact⟨rfl,rfl,rfl,rfl,rfl,rfl,rfl,ej (by kernel_rfl),rfl,rfl,rfl,kinds_of (by kernel_rfl),rfl,rfl,rfl,by dsimp only,by dsimp only,by kernel_rfl⟩) (bind1 λa=>by exact rfl) (by exact rfl) ⟨trivial,trivial⟩ (by exact rfl) ?_;intro env a9 ec fE d6;have de:sizeLine=2 ^ 24:=rfl;have se:=Int.fmod_nonneg_of_pos ((cell.fdiv 10).fmod 10) (show(0:Int) < 3 by decide);have Wb:=Int.fmod_lt_of_pos ((cell.fdiv 10).fmod 10) (show(0:Int) < 3 by decide);have yn:=Int.fmod_nonneg_of_pos cell (show(0:Int) < 5 by decide);have Wd:=Int.fmod_lt_of_pos cell (show(0:Int) < 5 by decide);have pa:=Nk;refine bg.cons (jA (p:= .list (aB (sS cell))) (Ev.list (aK.cons (Ev.item Ev.str (by walk_at"e") Typed.str F.slot_str_getitem.lookup (wD (by omega) (by omega) (by exact gc rfl)) λ_ _=>rfl)
  (aK.cons (Ev.item (Ev.tuple (ps:=aB xi) (aK.cons Ev.str (aK.cons Ev.str (aK.cons Ev.str (aK.cons Ev.str (aK.cons Ev.str aK.nil rfl) rfl) rfl) rfl) rfl) (by decide)) (by walk_at"e") Typed.tup F.slot_tuple_getitem.lookup (J2 yn ?_ (by decide)) λ_ _=>rfl) aK.nil rfl) rfl) (show(2:Nat)<=_ by decide)) d9 (.inl (by walk_at"k")) ?_ rfl)
 ·have:(cell.fmod 5).toNat < xi.length:=by show _ < 5;omega
  rw[eb,List.getD,cm this];rfl
 ·let L:Nat->List Str:=λj=>match j with |0=>sS cell |1=>my cell 100 (sS cell) |_=>gK cell
  let iN:Nat->Loc->Prop:=λj m'=>bM m' "cell" (.int cell)/\bM m' "labels" (.list (aB (L j)))
  refine bg.cons (uh (ps:=[.int 100,.int 1000]) (q:= .tup [.int 100,.int 1000]) iN (Ev.tuple (aK.cons Ev.int (aK.cons Ev.int aK.nil rfl) rfl) (by decide)) cw.tup ⟨trivial,trivial,trivial⟩ (λp aa=>by simp at aa;rcases aa with rfl |rfl<;>exact trivial) (.inl (by walk_at"k")) ⟨by walk_at"l",a5⟩ ?_ ?_ (λ_=>rfl))
  ·intro j p m' aa ⟨U,ao⟩;have key:∃size:Int,p= .int size/\size≠0/\size.natAbs < 1073741824/\L (j+1)=my cell size (L j)/\(L j).length<=10:=by
    match j,aa with
    |0,aa=>obtain rfl:=bT aa;exact⟨100,rfl,by decide,by decide,rfl,by show(2:Nat)<=10;decide⟩
    |1,aa=>obtain rfl:=bT aa;exact⟨1000,rfl,by decide,by decide,rfl,ei KV (by show(3:Nat)<=10;decide)⟩
    |j+2,aa=>injection aa
   refine nI key λsize aU s0 s1 pT hlen=>?_;subst aU;have v9:=Int.fmod_nonneg_of_pos ((cell.fdiv size).fmod 10) (show(0:Int) < 4 by decide);have GZ:=Int.fmod_lt_of_pos ((cell.fdiv size).fmod 10) (show(0:Int) < 4 by decide);refine bg.cons (kB (c:=kh cell size != 0) (bV.cmp (p:= .int (kh cell size)) (d8 (d8 (d8 (by walk_at"e") (by walk_at"e") (wG s0 s1)) Ev.int (qN (by decide))) Ev.int (qN (by decide))) Ev.int zl (by with_unfolding_all rfl)) (λh=>?_) λh=>?_)
   ·have bY:kh cell size≠0:=by simpa using h
    have v9:0<=kh cell size:=v9;have GZ:kh cell size < 4:=GZ;refine bg.cons (jA (p:= .list (aB (L (j+1)))) ?_ d9 (.inl (by walk_at"k")) (bg.nil (bg.nil ⟨?_,?_⟩)) rfl)
    ·rw[pT,my,aQ h,j5];refine d8 (Ev.list (aK.cons (Ev.item Ev.str (k:= .int (kh cell size - 1)) (d8 (p:= .int (kh cell size)) (d8 (d8 (d8 (by walk_at"e") (by walk_at"e") (wG s0 s1)) Ev.int (qN (by decide))) Ev.int (qN (by decide))) Ev.int sD) Typed.str F.slot_str_getitem.lookup (wD (by omega) (by omega) (by exact gc rfl)) λ_ _=>rfl) aK.nil rfl) (show(1:Nat)<=_ by decide)) (by walk_at"e") (ue (by simp;omega))
    ·walk_at"l"
    ·walk_at"l"
   ·refine bg.nil (bg.nil ⟨by walk_at"l",?_⟩);rw[pT,my,aI (by rw[h];decide)];walk_at"l"
  ·intro m' ⟨_,ao⟩;exact bg.nil (bg.cons (df.ret (p:= .list (aB (gK cell))) (Ev.name ao (by decide+kernel)) d9 rfl))
noncomputable def la(d4:List Str):Int:=([(("xlocal":Str),(2:Int)),("c7",2),("local",1)].lookup (d4.getD (d4.length - 1) "")).getD d4.length
noncomputable def k1(d4:List Str):List Str:=(range (iV 0 ((d4.length:Int) - la d4+1) 1)).map λk=>Builtin.Str.glued "." (cL d4 (some (k:Nat)) none none)
theorem NO{a b c x:Str}{i j k d:Int}:(dictAt [a,b,c] [.int i,.int j,.int k] x).getD (.int d)= .int (([(a,i),(b,j),(c,k)].lookup x).getD d):=by
 unfold dictAt;simp only[zip_cons_cons,zip_nil_right,List.lookup];cases x==a
 ·cases x==b
  ·(induction x==c)<;>rfl
  ·rfl
 ·rfl
theorem zC{N:Int}(h0: -1000<=N)(ab:N<=1000):Builtin.Range.small 0 N 1=true/\0<=Builtin.Range.rangeSize 0 N 1:=by
 refine⟨small_one (by walk_at"o") (by walk_at"o") (by walk_at"o") (by walk_at"o"),?_⟩;rw[rangeSize_one];split<;>walk_at"o"
theorem nT{sc:Scope}{x:Str}{p:ak}(h:m.lookup x=some p)(hf:sc.names.lookup x=some .free):∀y q,List.lookup y [(x,p)]=some q->m.lookup y=some q/\sc.names.lookup y=some .free:=by
 intro y q e;rw[di] at e;replace e:=e;split at e
 ·rename_i av;obtain rfl:=bT e;rw[eq_of_beq av];exact⟨h,hf⟩
 ·injection e
theorem tO{sc:Scope}:∀y q,List.lookup y ([]:Loc)=some q->m.lookup y=some q/\sc.names.lookup y=some .free:=λy q e=>by injection e
theorem x4{sc:Scope}{x:Str}{p r:ak}(h:m.lookup x=some p)(hf:sc.names.lookup x=some .free)(h':m.lookup z=some r)(hg:sc.names.lookup z=some .free):∀y q,List.lookup y [(x,p),(z,r)]=some q->m.lookup y=some q/\sc.names.lookup y=some .free:=by
 intro y q e;rw[di] at e;replace e:=e;split at e
 ·rename_i av;obtain rfl:=bT e;rw[eq_of_beq av];exact⟨h,hf⟩
 ·exact nT h' hg y q e
theorem filter_all{α:Type}{l:List α}:l.filter (λ_=>true)=l:=List.filter_eq_self.mpr λ_ _=>rfl
theorem LK{d4:List Str}(h0:0 < d4.length)(tN:d4.length<=10)(mT: -10<=la d4)(vI:la d4<=10)
  (aN:∀k:Nat,((cL d4 (some (k:Nat)) none none).toArray.foldl (· +·.length+((".":Str)).length) 0)<=sizeLine/\(Builtin.Str.glued "." (cL d4 (some (k:Nat)) none none)).length<=sizeLine):
  d3 prog w 3 215 [.list (aB d4)] (.list (aB (k1 d4))):=by
 refine d3.of (names:=["labels"]) (m:=[("labels",.list (aB d4))]) (c:=214) (by exact⟨rfl,rfl,rfl,rfl,rfl,rfl,rfl,ej (by kernel_rfl),rfl,rfl,rfl,kinds_of (by kernel_rfl),rfl,rfl,rfl,by dsimp only,by dsimp only,by kernel_rfl⟩) (bind1 λa=>by exact rfl) (by exact rfl) ⟨d9,trivial⟩ (by exact rfl) ?_;intro env a9 ec fE d6;have de:sizeLine=2 ^ 24:=rfl;have gm:(aB d4).length<=sizeLine:=by rw[cz];walk_at"o"
 refine bg.cons (jA (p:= .int (la d4)) (NO▸j4 Az (Kd (by decide+kernel)) Typed.dict (aK.cons (p:= .str (d4.getD (d4.length - 1) "")) (Ev.item (by walk_at"e") (lN Ev.int) Typed.list fN.lookup (C5 (by decide) (by rw[cz];walk_at"o") ?_ gm) λ_ _=>rfl)
  (aK.cons (p:= .int d4.length) (Ev.call (fA (by walk_at"k") og (by exact rfl) (by decide+kernel) (by kernel_rfl)) (.inl ⟨"len",rfl⟩) (aK.cons (by walk_at"e") aK.nil rfl) (cz (a:=d4)▸Cl.len gm) rfl rfl) aK.nil rfl) rfl) LH rfl rfl rfl rfl) trivial (.inl (by walk_at"k")) ?_ rfl)
 ·have e:(-1+((aB d4).length:Int)).toNat=d4.length - 1:=by rw[cz];walk_at"o"
  rw[e,eb,List.getD,cm (show d4.length - 1 < d4.length by walk_at"o")];rfl
 ·refine aE (zC (N:=(d4.length:Int) - la d4+1) (by walk_at"o") (by walk_at"o")) λgT fb=>?_;refine bg.cons (df.ret (p:= .list (aB (k1 d4))) ?_ d9 rfl);have e:(.list (aB (k1 d4)):ak)= .list (((f3 0 ((d4.length:Int) - la d4+1) 1).filter λ_=>true).map (o4 λk=> .str (Builtin.Str.glued "." (cL d4 (some k) none none)))):=by
   rw[filter_all];unfold k1 f3;simp only[aB,List.map_map];congr 1;refine g7 λi _=>?_;simp[o4]
  rw[e];refine k0 (x:="k") (c:=false) (mf:=[("labels",.list (aB d4))]) a9
   (Ev.call (fA (by walk_at"k") qQ (by exact rfl) (by decide+kernel) (by kernel_rfl)) (.inr (.inl ⟨"range",rfl⟩)) (aK.cons (p:= .int ((d4.length:Int) - la d4+1)) (d8 (d8 (p:= .int d4.length) (Ev.call (fA (by walk_at"k") og (by exact rfl) (by decide+kernel) (by kernel_rfl)) (.inl ⟨"len",rfl⟩) (aK.cons (by walk_at"e") aK.nil rfl) (cz (a:=d4)▸Cl.len gm) rfl rfl) (by walk_at"e") sD) Ev.int qP) aK.nil rfl) sA rfl rfl)
   (cw.hj gT fb) ⟨λ_ _=>rfl,λ_=>rfl,by kernel_rfl,by kernel_rfl,by decide+kernel,rfl⟩ (nT (by walk_at"l") (by kernel_rfl)) ?_ ?_ (λp _ cenv _=>gd.nil) ?_ (λ_=>rfl)
  ·unfold f3 iV;rw[rangeSize_one,bO,length_range];split<;>walk_at"o"
  ·intro p aa _;refine ah (bA.mp aa) λi _ aU=>?_;subst aU;exact trivial
  ·intro p aa _ cenv dR;refine ah (bA.mp aa) λi hi a7=>?_;subst a7;have dO:(0:Int)+(i:Nat)*1=i:=by walk_at"o"
   rw[dO];refine j4 O1 Ev.str Typed.str (aK.cons (p:= .list (aB (cL d4 (some (i:Nat)) none none))) ?_ aK.nil rfl) (Cl.join (aN i).1 (aN i).2) rfl rfl rfl rfl;show Ev prog w 2 cenv _ _ (.list ((cL d4 (some (i:Nat)) none none).map .str));rw[<-sH];exact ug (a:=some (i:Nat)) (b:=none) (c:=none) (by walk_at"e") (show Ev _ _ _ _ _ _ _ by walk_at"e") trivial trivial (by decide) gm
noncomputable def p5(d:Str->Bool):ak->Bool
 | .str x=>d x
 |_=>false
theorem uN{l:List Str}{d:Str->Bool}{g:Str->ak}:((aB l).filter (p5 d)).map (o7 g)=(l.filter d).map g:=by
 induction l with
 |nil=>rfl
 |cons x r aw=>
  show((ak.str x::aB r).filter (p5 d)).map (o7 g)=_;rw[fM,fM];show(if d x=true then _ else _:List ak).map _=_;cases d x
  ·exact aw
  ·show o7 g (.str x)::_=_;rw[aw];rfl
theorem hN{l:List Str}{p:ak}(h:p∈aB l):∃x∈l,p= .str x:=by
 refine ah (bA.mp h) λx ag aU=>?_;subst aU;exact⟨x,ag,rfl⟩
theorem Ov{d1 d2:Str->Bool}(dt:host.length<=100)(aA:names.length<=1000)(ag:∀x∈names,x.length<=100)
  (ab:∀x∈names,d3 prog w 2 57 [.str (Txt.upper host),.str x] (.bool (d1 x))) (ae:∀x∈names,d3 prog w 2 57 [.str (Txt.upper host),.str ((".":Str)++x)] (.bool (d2 x))):
  d3 prog w 3 234 [.str host,.list (aB names)] (.list (aB (names.filter d2++names.filter d1))):=by
 refine d3.of (names:=["host","names"]) (m:=[("host",.str host),("names",.list (aB names))]) (c:=233) (by exact⟨rfl,rfl,rfl,rfl,rfl,rfl,rfl,ej (by kernel_rfl),rfl,rfl,rfl,kinds_of (by kernel_rfl),rfl,rfl,rfl,by dsimp only,by dsimp only,by kernel_rfl⟩) (sZ λa b=>by exact rfl) (by exact rfl) ⟨trivial,d9,trivial⟩ (by exact rfl) ?_;intro env a9 ec fE d6;have de:sizeLine=2 ^ 24:=rfl;have hz:(aB names).length<=sizeLine:=by rw[cz];exact bH ‹_› rfl
 have dH:((".":Str)).length=1:=by kernel_rfl
 refine bg.cons (sv (x:="name") (c:=false) (q:= .list (aB names)) (ps:=aB names) (t:=p5 λx=>d1 x==true) (f:=o7 .str) (mf:=[("host",.str host)]) a9 (by walk_at"e") cw.list ⟨λ_ _=>rfl,λ_=>rfl,by kernel_rfl,by kernel_rfl,by decide+kernel,rfl⟩ (nT (by walk_at"l") (by kernel_rfl)) hz
  (λp aa _=>?_) (λp aa cenv dR=>?_) (λp aa _ cenv dR=>?_) (.inl (by walk_at"k")) ?_ (qS a9 (by kernel_rfl) rfl (by kernel_rfl)) (λ_=>rfl))
 ·refine ah (hN aa) λx _ a7=>?_;subst a7;exact trivial
 ·refine ah (hN aa) λx tF bk=>?_;subst bk;exact gd.one (bV.cmp (Ev.call (fL (by walk_at"k") uH (by kernel_rfl)) (.inr (.inr ⟨57,_,_,rfl,rfl,rfl⟩)) (aK.cons (j4 Fi (by walk_at"e") Typed.str aK.nil (Dw (by exact bH ‹_› rfl)) rfl rfl rfl rfl) (aK.cons (by walk_at"e") aK.nil rfl) rfl) (ab x tF).cl rfl rfl) Ev.bool uu (by with_unfolding_all rfl))
 ·refine ah (hN aa) λx _ bz=>?_;subst bz;exact Ev.name a5 (by kernel_rfl)
 ·rw[uN];have ax:names.filter (λx=>d1 x==true)=names.filter d1:=by congr 1;funext x;(induction d1 x)<;>rfl
  rw[ax];refine bg.cons (df.ret (p:= .list (aB (names.filter d2++names.filter d1))) ?_ d9 rfl);rw[j5];have aD:names.filter (λx=>d2 x==true)=names.filter d2:=by congr 1;funext x;(induction d2 x)<;>rfl
  have a8:(.list (aB (names.filter d2)):ak)= .list (((aB names).filter (p5 λx=>d2 x==true)).map (o7 .str)):=by rw[uN,aD]
  refine d8 (p:= .list (aB (names.filter d2))) ?_ (by walk_at"e") (ue ?_)
  ·rw[a8];refine k0 (x:="name") (c:=false) (mf:=[("host",.str host)]) a9 (by walk_at"e") cw.list ⟨λ_ _=>rfl,λ_=>rfl,by kernel_rfl,by kernel_rfl,by decide+kernel,rfl⟩ (nT (by walk_at"l") (by kernel_rfl)) hz (λp aa _=>?_) (λp aa cenv dR=>?_) (λp aa _ cenv dR=>?_) (λ_=>rfl)
   ·refine ah (hN aa) λx _ b7=>?_;subst b7;exact trivial
   ·refine ah (hN aa) λx tF cC=>?_;subst cC;have:=ag x tF;exact gd.one (bV.cmp (Ev.call (fL (by walk_at"k") uH (by kernel_rfl)) (.inr (.inr ⟨57,_,_,rfl,rfl,rfl⟩)) (aK.cons (j4 Fi (by walk_at"e") Typed.str aK.nil (Dw (by exact bH ‹_› rfl)) rfl rfl rfl rfl) (aK.cons (d8 Ev.str (by walk_at"e") (lL (by walk_at"o"))) aK.nil rfl) rfl) (ae x tF).cl rfl rfl) Ev.bool uu (by with_unfolding_all rfl))
   ·refine ah (hN aa) λx _ c1=>?_;subst c1;exact Ev.name a5 (by kernel_rfl)
  ·rw[cz,cz];have:=length_filter_le d1 names;have:=length_filter_le d2 names;walk_at"o"
variable {c3 ls:List (List Str)}
theorem N7:nsIn (KF w) 3 "zip"=some none:=by kernel_rfl
theorem lookup_miss{x y:Str}{p:ak}(h:(y==x)=false)(e:m.lookup y=none):List.lookup y ((x,p)::m)=none:=by rw[di,h];exact e
theorem jB{sc:Scope}(a9:c5 env sc):interactive env=false:=by unfold interactive;rw[a9.fn];rfl
noncomputable abbrev gC(kv:List (Str×Int)):List (Str×ak):=kv.map λz=>(z.1,.int z.2)
noncomputable abbrev nZ(kv:List (Str×Int)):ak:=iY (gC kv)
noncomputable abbrev fF(kv:List (Str×Int)):ak:=su (gC kv)
theorem MN{kv:List (Str×Int)}{x:Str}{i:Int}:jc (gC kv) x (.int i)=gC (jc kv x i):=by
 unfold jc;have:((gC kv).any λz=>decide (z.1=x))=kv.any λz=>decide (z.1=x):=by
  rw[List.any_map];rfl
 rw[this];split
 ·rfl
 ·simp[gC]
theorem sI{kv:List (Str×Int)}:dB ((gC kv).map (·.2)):=kF λp aa=>by
 simp only[gC,List.map_map] at aa;refine ah (bA.mp aa) λz _ aU=>?_;subst aU;exact trivial
noncomputable def w4(cell:Int)(k:Nat):Int:=(cell.fdiv (10 ^ (4+k))).fmod 10
noncomputable def kC(cell:Int)(lT:List Str)(kv:List (Str×Int))(j:Nat):List (Str×Int):=jc kv (lT.getD (lT.length - 1 - j) "") (w4 cell (lT.length - 1 - j))
noncomputable def k3(kv:List (Str×Int))(z:Int×List Str):List (Str×Int):=(range z.2.length).foldl (kC z.1 z.2) kv
noncomputable def sG(cells:List Int)(c3:List (List Str)):List (Str×Int):=(cells.zip c3).foldl k3 []
noncomputable abbrev bF(l:List (List Str)):List ak:=l.map λx=> .list (aB x)
theorem mi{l:List (List Str)}:cb (.list (bF l)):=kF λp aa=>by
 refine ah (bA.mp aa) λi _ a7=>?_;subst a7;exact d9
theorem zv{kv:List (Str×Int)}{x:Str}{i:Int}:(jc kv x i).length<=kv.length+1:=by
 unfold jc;split
 ·exact Nat.le_add_right _ _
 ·simp
theorem El{α:Type}{f:List (Str×Int)->α->List (Str×Int)}{c:Nat}(h:∀kv a,(f kv a).length<=kv.length+c):∀(l:List α) (kv:List (Str×Int)),(l.foldl f kv).length<=kv.length+l.length*c:=by
 intro ba;induction ba with
 |nil=>
  intro kv;simp
 |cons a r aw=>
  intro kv;rw[gM];have ab:=aw (f kv a);have ae:=h kv a;rw[dJ,Nat.succ_mul];walk_at"o"
theorem small_down{L:Nat}(h:L<=1000):Builtin.Range.small ((L:Int) - 1) (-1) (-1)=true/\Builtin.Range.rangeSize ((L:Int) - 1) (-1) (-1)=L:=by
 have e:Builtin.Range.rangeSize ((L:Int) - 1) (-1) (-1)=L:=by
  unfold Builtin.Range.rangeSize;rw[aI (by decide)];simp only[Int.neg_neg,Int.ediv_one];split<;>walk_at"o"
 refine⟨?_,e⟩;unfold Builtin.Range.small;rw[e];simp only[Builtin.Range.rangeFitsLong,Bool.and_eq_true,Bool.or_eq_true,decide_eq_true_eq,beq_iff_eq];rw[aI (by decide)];simp only[decide_eq_true_eq,Bool.and_eq_true];walk_at"o"
theorem LG{cells:List Int}(U:cells.length<=5)(ao:∀l∈c3,l.length<=5)(tH:c3.length<=5):d3 prog w 3 229 [.list (cp cells),.list (bF c3)] (fF (sG cells c3)):=by
 refine d3.of (names:=["cells","ladders"]) (m:=[("cells",.list (cp cells)),("ladders",.list (bF c3))]) (c:=228) (by exact⟨rfl,rfl,rfl,rfl,rfl,rfl,rfl,ej (by kernel_rfl),rfl,rfl,rfl,kinds_of (by kernel_rfl),rfl,rfl,rfl,by dsimp only,by dsimp only,by kernel_rfl⟩) (sZ λa b=>by exact rfl) (by exact rfl) ⟨qY,mi,trivial⟩ (by exact rfl) ?_;intro env a9 ec fE d6;have de:sizeLine=2 ^ 24:=rfl;have OE:∀(kv:List (Str×Int)) (z:Int×List Str),z∈cells.zip c3->(k3 kv z).length<=kv.length+5:=λkv z hz=>by
  have:=El (c:=1) (λkv a=>zv) (range z.2.length) kv (f:=kC z.1 z.2);have ae:=ao z.2 (of_mem_zip hz).2;unfold k3;simp at this;walk_at"o"
 have NW:∀(l:List (Int×List Str)) (kv:List (Str×Int)),(∀z∈l,z∈cells.zip c3)->(l.foldl k3 kv).length<=kv.length+l.length*5:=λl=>by
  induction l with
  |nil=>intro kv _;simp
  |cons z r aw=>
   intro kv hz;rw[gM];have ab:=aw (k3 kv z) λy av=>hz y (ey _ av);have ae:=OE kv z (hz z (cM ..));rw[dJ,Nat.succ_mul];walk_at"o"
 refine bg.cons (yX (.inl (by walk_at"k")) (lookup_miss (by kernel_rfl) (lookup_miss (by kernel_rfl) rfl)) ?_ rfl);have th:∀(j:Nat) (p q:ak),((cp cells).zip (bF c3))[j]? =some (p,q)->∃c l,(cells.zip c3)[j]? =some (c,l)/\p= .int c/\q= .list (aB l):=λj p q h=>by
  rw[zip_map,eb] at h;refine ah (h7.mp h) λbk ab ae=>?_;obtain⟨c,l⟩:=bk;cases ae
  exact⟨c,l,ab,rfl,rfl⟩
 have hlen:((cp cells).zip (bF c3)).length=(cells.zip c3).length:=by rw[zip_map,bO]
 refine bg.cons (DH (ps:=(cp cells).zip (bF c3)) (λj m'=>bM m' "price" (nZ (((cells.zip c3).take j).foldl k3 []))) (uO.zip (fA (by walk_at"k") N7 (by exact rfl) (by decide+kernel) (by kernel_rfl)) (aK.cons (by walk_at"e") (aK.cons (by walk_at"e") aK.nil rfl) rfl) rfl rfl) ?_ (.inl (by walk_at"k")) (.inl (by walk_at"k")) a5 ?_ ?_ (λ_=>rfl))
 ·intro dg aa;obtain⟨p,q⟩:=dg;obtain⟨j,aN⟩:=getElem?_of_mem aa;refine bj (th j p q aN) λc l _ bz b7=>?_;subst bz;subst b7;exact⟨trivial,d9⟩
 ·intro j p q m' r2 hinv;refine bj (th j p q r2) λc l eB cC c1=>?_;subst cC;subst c1;have iQ:(c,l)∈cells.zip c3:=eW eB;have ya:l.length<=5:=ao l (of_mem_zip iQ).2;generalize fT:((cells.zip c3).take j).foldl k3 []=kv at hinv;have F3:kv.length<=25:=by
   rw[<-fT];have:=NW ((cells.zip c3).take j) [] λz hz=>mem_of_mem_take hz;have ae:((cells.zip c3).take j).length<=5:=by rw[length_take,length_zip];walk_at"o"
   simp only[length_nil] at this;walk_at"o"
  refine aE (small_down (L:=l.length) (by exact bH ‹_› rfl)) λgT fb=>?_;have gm:(aB l).length<=sizeLine:=by rw[cz];exact bH ‹_› rfl
  refine bg.cons (uh (q:= .hj ((l.length:Int) - 1) (-1) (-1)) (ps:=f3 ((l.length:Int) - 1) (-1) (-1)) (λi dF=>bM dF "price" (nZ ((range i).foldl (kC c l) kv))/\bM dF "cell" (.int c)/\bM dF "ladder" (.list (aB l)))
   (Ev.call (fA (by walk_at"k") qQ (by exact rfl) (by decide+kernel) (by kernel_rfl)) (.inr (.inl ⟨"range",rfl⟩)) (aK.cons (p:= .int ((l.length:Int) - 1)) (d8 (p:= .int l.length) (Ev.call (fA (by walk_at"k") og (by exact rfl) (by decide+kernel) (by kernel_rfl)) (.inl ⟨"len",rfl⟩) (aK.cons (by walk_at"e") aK.nil rfl) (cz (a:=l)▸Cl.len gm) rfl rfl) Ev.int sD) (aK.cons (lN Ev.int) (aK.cons (lN Ev.int) aK.nil rfl) rfl) rfl) (JW (by decide) ⟨by walk_at"o",by decide⟩) rfl rfl)
   (cw.hj gT (by rw[fb];exact nq _)) trivial ?_ (.inl (by walk_at"k")) ⟨bS (by kernel_rfl) (bS (by kernel_rfl) hinv),by walk_at"l",by walk_at"l"⟩ ?_ ?_ (λ_=>rfl))
  ·intro p aa;refine ah (bA.mp aa) λi _ c2=>?_;subst c2;exact trivial
  ·intro i p dF aa ⟨mW,tI,jQ⟩;have FG:i < l.length:=by
    have:=i8 aa;simp only[f3,iV,length_map,length_range] at this;walk_at"o"
   have f6:p= .int (((l.length - 1 - i:Nat):Int)):=by
    simp only[f3,getElem?_map] at aa;refine ah (h7.mp aa) λdI ab ae=>?_;have:dI=i:=by
     rw[getElem?_range] at ab
     ·obtain rfl:=bT ab;rfl
     ·unfold iV;walk_at"o"
    subst this;rw[<-ae];congr 1;walk_at"o"
   subst f6;generalize Uz:l.length - 1 - i=dT;have Bm:dT < l.length:=by walk_at"o"
   generalize u3:(range i).foldl (kC c l) kv=nP at mW;have PR:nP.length<=30:=by
    rw[<-u3];have:=El (c:=1) (λkv a=>zv) (range i) kv (f:=kC c l);simp only[length_range] at this;walk_at"o"
   have Qx:(10:Int) ^ ((4:Int)+(dT:Nat)).toNat=10 ^ (4+dT):=by congr 1
   have Gy:(10:Int) ^ (4+dT)≠0/\((10:Int) ^ (4+dT)).natAbs < 1073741824:=by
    have:dT=0\/dT=1\/dT=2\/dT=3\/dT=4:=by walk_at"o"
    rcases this with rfl |rfl |rfl |rfl |rfl<;>decide
   have item:bM (("k",.int (dT:Nat))::dF) "ladder" (.list (aB l)):=bS (by kernel_rfl) jQ;refine bg.cons (yW (p':=nZ (kC c l nP i)) (ps:=[.str (l.getD dT ""),.int (w4 c dT)]) J3 (bS (by kernel_rfl) mW) (.inr ⟨_,_,rfl⟩) Typed.eP (aK.cons ?_ (aK.cons ?_ aK.nil rfl) rfl) ⟨trivial,trivial,trivial⟩ (show dB _ from sI) (.inr ⟨_,_,rfl⟩) ?_ (bg.nil ⟨?_,?_,?_⟩) rfl (by kernel_rfl) rfl rfl rfl ?_ rfl)
   ·refine Ev.item (k:= .int (dT:Nat)) (by walk_at"e") (by walk_at"e") Typed.list fN.lookup (cA.item (by exact nq _) ?_ gm) λ_ _=>rfl;rw[Int.toNat_natCast,eb,List.getD,cm Bm];rfl
   ·have ae:bM (("k",.int (dT:Nat))::dF) "cell" (.int c):=bS (by kernel_rfl) tI;refine d8 (p:= .int (c.fdiv (10 ^ (4+dT)))) (d8 (q:= .int (10 ^ (4+dT))) (by walk_at"e") (Qx▸d8 Ev.int (d8 (q:= .int (dT:Nat)) Ev.int (by walk_at"e") qP) (Kz (by walk_at"o") (by walk_at"o") (by decide))) (wG Gy.1 Gy.2)) Ev.int (qN (by decide))
   ·have e:nZ (kC c l nP i)=iY (jc (gC nP) (l.getD dT "") (.int (w4 c dT))):=by
     rw[MN,kC,Uz]
    rw[e];exact IF (by simp;exact bH ‹_› rfl)
   ·show bM _ _ _;rw[range_succ,iu,u3];exact a5
   ·exact bS (by kernel_rfl) (bS (by kernel_rfl) tI)
   ·exact bS (by kernel_rfl) (bS (by kernel_rfl) jQ)
   ·exact jB a9
  ·intro dF ⟨ab,_,_⟩;refine bg.nil (bg.nil ?_);show bM _ _ _;have ax:(f3 ((l.length:Int) - 1) (-1) (-1)).length=l.length:=by simp only[f3,iV,length_map,length_range];walk_at"o"
   rw[ax] at ab;rw[hO,eB,iu,fT];exact ab
 ·intro m' hinv;rw[hlen,take_length] at hinv;exact bg.nil (bg.cons (Jq hinv (by kernel_rfl) rfl))
theorem j3{α:Type}{kv:List (Str×α)}{x y:Str}{p:α}:(ed kv x p).lookup y=if y=x then some p else kv.lookup y:=by
 have AN:∀kv:List (Str×α),(kv.map λz=>if z.1=x then(z.1,p) else z).lookup y=if y=x then(kv.lookup y).map (λ_=>p) else kv.lookup y:=λkv=>by
  induction kv with
  |nil=>simp
  |cons z r aw=>
   obtain⟨k,v⟩:=z;rw[eE];by_cases e:k=x
   ·subst e;rw[aQ rfl,di,di];by_cases h:y=k
    ·subst h;simp
    ·rw[eF.mpr h,aI h];rw[aI h] at aw;exact aw
   ·rw[aI e,di,di];induction h:y==k with
    |true=>
     have:y=k:=eq_of_beq h;subst this;rw[aI e]
    |false=>exact aw
 unfold ed;split
 ·rename_i h;rw[AN];split
  ·rename_i e;subst e;refine ah (g8.mp h) λz hz ae=>?_;have:∃v,kv.lookup y=some v:=by
    clear h AN;induction kv with
    |nil=>exact absurd hz b8
    |cons eU r aw=>
     rw[di];induction aC:y==eU.1 with
     |true=>exact⟨_,rfl⟩
     |false=>
      rcases bI.mp hz with rfl |hz
      ·have:z.1=y:=ej ae;rw[this] at aC;simp at aC
      ·exact aw hz
   refine aP this λv aq=>?_;rw[aq];rfl
  ·rfl
 ·rename_i h;have ic:∀z∈kv,z.1≠x:=λz hz e=>h (g8.mpr ⟨z,hz,by exact gz.mpr e⟩);clear h AN;induction kv with
  |nil=>
   show List.lookup y [(x,p)]=_;rw[di];by_cases e:y=x
   ·subst e;simp
   ·rw[eF.mpr e,aI e]
  |cons z r aw=>
   rw[cons_append,di,di];induction aC:y==z.1 with
   |true=>
    have:=eq_of_beq aC;rw[aI (this▸ic z (cM ..))]
   |false=>exact aw λz hz=>ic z (ey _ hz)
noncomputable abbrev ly(kv:List (Str×Str)):List (Str×ak):=kv.map λz=>(z.1,.str z.2)
theorem lookup_map2{α β:Type}{f:α->β}{kv:List (Str×α)}{x:Str}:(kv.map λz=>(z.1,f z.2)).lookup x=(kv.lookup x).map f:=by
 induction kv with
 |nil=>rfl
 |cons z r aw=>
  rw[eE,di,di];cases x==z.1
  ·exact aw
  ·rfl
theorem Mx{α β:Type}{f:α->β}{kv:List (Str×α)}{x:Str}:((kv.map λz=>(z.1,f z.2)).any λz=>decide (z.1=x))=kv.any λz=>decide (z.1=x):=by rw[List.any_map];rfl
theorem zy{α β:Type}{f:α->β}{kv:List (Str×α)}{x:Str}{p:α}:ed (kv.map λz=>(z.1,f z.2)) x (f p)=(ed kv x p).map λz=>(z.1,f z.2):=by
 unfold ed;rw[Mx];split
 ·rw[dX,dX];refine g7 λz _=>?_;simp only[Function.comp];split<;>rfl
 ·simp
theorem uE{α:Type}{kv:List (Str×α)}{x:Str}{p:α}:(ed kv x p).length<=kv.length+1:=by
 unfold ed;split
 ·simp
 ·simp
theorem sM{l:List Str}{x:Str}:((d0 (aB l)).any λy=>PyData.eqv y (.str x))=l.any (· ==x):=by
 induction l with
 |nil=>rfl
 |cons a r aw=>
  show((fc (.str a)::d0 (aB r)).any λy=>PyData.eqv y (.str x))=_;rw[any_cons,any_cons,aw];rfl
theorem nh{l:List Str}(h:∀x∈l,PyData.strOk x=true):gX (aB l):=by
 induction l with
 |nil=>trivial
 |cons a r aw=>exact⟨h a (cM ..),aw λx ag=>h x (ey _ ag)⟩
noncomputable def kZ(lT:List Str)(kv:List (Str×Str))(k:Nat):List (Str×Str):=ed kv (lT.getD k "") ((lT++[("":Str)]).getD (k+1) "")
noncomputable def ni(kv:List (Str×Str))(lT:List Str):List (Str×Str):=(range lT.length).foldl (kZ lT) kv
noncomputable def j8(c3:List (List Str)):List (Str×Str):=c3.foldl ni []
noncomputable def oe(order:List Str)(above:List (Str×Str))(kv:List (Str×Int))(name:Str):Int:=((order.filter λone=>(above.lookup one).getD ""==name).map λone=>(kv.lookup one).getD 0).sum
noncomputable def g6(order:List Str)(cK:List (Str×Int))(above:List (Str×Str))(heads:List Str)(kv:List (Str×Int))(name:Str):List (Str×Int):=
 if heads.any (· ==name)||(name != ""&&decide ((cK.lookup name).getD 0 < oe order above kv name)) then ed (ed kv name (oe order above kv name)) name ((cK.lookup name).getD 0) else ed kv name (oe order above kv name)
noncomputable def qZ(order:List Str)(cK:List (Str×Int))(c3:List (List Str)):Int:=
 (((order++[("":Str)]).foldl (g6 order cK (j8 c3) (c3.map λl=>l.getD 0 "")) []).lookup ("":Str)).getD 0
theorem HO{sc:Scope}{x u:Str}{p r t:ak}(h:m.lookup x=some p)(hf:sc.names.lookup x=some .free)(h':m.lookup z=some r)(hg:sc.names.lookup z=some .free)(hy:m.lookup u=some t)(RV:sc.names.lookup u=some .free):∀y q,List.lookup y [(x,p),(z,r),(u,t)]=some q->m.lookup y=some q/\sc.names.lookup y=some .free:=by
 intro y q e;rw[di] at e;replace e:=e;split at e
 ·rename_i av;obtain rfl:=bT e;rw[eq_of_beq av];exact⟨h,hf⟩
 ·exact x4 h' hg hy RV y q e
theorem j9{l:List (List Str)}{p:ak}(h:p∈bF l):∃x∈l,p= .list (aB x):=by
 refine ah (bA.mp h) λx ag aU=>?_;subst aU;exact⟨x,ag,rfl⟩
theorem I8{l:List Str}{kv:List (Str×Str)}{k:Nat}:(kZ l kv k).length<=kv.length+1:=uE
theorem CY(l:List Str):∀(ks:List Nat) (kv:List (Str×Str)),(ks.foldl (kZ l) kv).length<=kv.length+ks.length:=by
 intro ba;induction ba with
 |nil=>
  intro kv;simp
 |cons a r aw=>
  intro kv;have ab:=aw (kZ l kv a);have ae:=I8 (l:=l) (kv:=kv) (k:=a);rw[gM,dJ];walk_at"o"
theorem Jx{l:List Str}{kv:List (Str×Str)}:(ni kv l).length<=kv.length+l.length:=by
 have:=CY l (range l.length) kv;unfold ni;simpa using this
theorem I0:∀(ls:List (List Str)) (kv:List (Str×Str)),(∀l∈ls,l.length<=5)->(ls.foldl ni kv).length<=kv.length+ls.length*5:=by
 intro ba;induction ba with
 |nil=>
  intro kv _;simp
 |cons a r aw=>
  intro kv h;have ab:=aw (ni kv a) λl ao=>h l (ey _ ao);have ae:=Jx (l:=a) (kv:=kv);have aC:=h a (cM ..);rw[gM,dJ,Nat.succ_mul];walk_at"o"
theorem Me{sc:Scope}{Φ:dp->Loc->Prop}{Ug Tr S1 Uy Ua SA S4 Sn Sr SE Ut Td Us Sy UI:Pos}(a9:c5 env sc)(ar:sc.names.lookup ("k":Str)=some .local)(HW:sc.names.lookup ("ladder":Str)=some .local)(bf:sc.names.lookup ("range":Str)=some .globalImplicit)(hle:sc.names.lookup ("len":Str)=some .globalImplicit)
  (ao:∀l∈c3,l.length<=5) (tH:c3.length<=5) (hm:bM m "ladders" (.list (bF c3))) (h0:bM m "above" (iY (ly []))) (keep:Str->Option ak)
  (xk:∀x p,keep x=some p->bM m x p/\x≠"above"/\x≠"ladder"/\x≠"k")
  (done:∀m',bM m' "above" (iY (ly (j8 c3)))->(∀x p,keep x=some p->bM m' x p)->Φ .next m'):
  df prog w 2 env m (.For (.Name "ladder" bX) (.Name "ladders" cf) [.For (.Name "k" fU) (.Call (.Name "range" fG) [.Call (.Name "len" iI) [.Name "ladder" mZ] [] qz] [] tU)
   [.Assign [.Subscript (.Name "above" tX) (.Subscript (.Name "ladder" Ug) (.Name "k" Tr) S1) Uy] (.Subscript (.BinOp (.Name "ladder" Ua) .Add (.List [.Constant (.str "") 0 SA] S4) Sn) (.BinOp (.Name "k" Sr) .Add (.Constant (.int 1) 0 SE) Ut) Td) Us] [] Sy] [] UI) Φ:=by
 have de:sizeLine=2 ^ 24:=rfl
 let iN:Nat->Loc->Prop:=λj m'=>bM m' "above" (iY (ly ((c3.take j).foldl ni [])))/\∀x p,keep x=some p->bM m' x p
 refine uh (q:= .list (bF c3)) (ps:=bF c3) iN (Ev.name hm (by kernel_rfl)) cw.list mi (λp aa=>by refine ah (j9 aa) λx _ a7=>?_;subst a7;exact d9) (.inl (qT a9 (by decide) HW)) ⟨h0,λx p q=>(xk x p q).1⟩ ?_ ?_ (λ_=>rfl)
 ·intro j p m' aa ⟨af,r1⟩;rw[eb] at aa;replace aa:=aa;refine ah (h7.mp aa) λl tA bk=>?_;subst bk;have ya:=ao l (eW tA);have gm:(aB l).length<=sizeLine:=by rw[cz];exact bH ‹_› rfl
  generalize fT:(c3.take j).foldl ni []=kv at af;have F3:kv.length<=25:=by
   rw[<-fT];have:=I0 (c3.take j) [] λl e7=>ao l (mem_of_mem_take e7);have ae:(c3.take j).length<=5:=by rw[length_take];walk_at"o"
   simp only[length_nil] at this;walk_at"o"
  refine aE (zC (N:=(l.length:Int)) (by walk_at"o") (by walk_at"o")) λgT fb=>?_;have wg:iV 0 (l.length:Int) 1=l.length:=by unfold iV;rw[rangeSize_one];split<;>walk_at"o"
  let pA:Nat->Loc->Prop:=λi dF=>bM dF "above" (iY (ly ((range i).foldl (kZ l) kv)))/\bM dF "ladder" (.list (aB l))/\∀x p,keep x=some p->bM dF x p
  refine bg.cons (uh (q:= .hj 0 l.length 1) (ps:=f3 0 l.length 1) pA
   (Ev.call (fA (qT a9 (by decide) bf) qQ (by exact rfl) (by decide+kernel) (by kernel_rfl)) (.inr (.inl ⟨"range",rfl⟩)) (aK.cons (p:= .int l.length) (Ev.call (fA (qT a9 (by decide) hle) og (by exact rfl) (by decide+kernel) (by kernel_rfl)) (.inl ⟨"len",rfl⟩) (aK.cons (Ev.name a5 (by kernel_rfl)) aK.nil rfl) (cz (a:=l)▸Cl.len gm) rfl rfl) aK.nil rfl) sA rfl rfl)
   (cw.hj gT fb) trivial ?_ (.inl (qT a9 (by decide) ar)) ⟨bS (by kernel_rfl) af,a5,λx p q=>?_⟩ ?_ ?_ (λ_=>rfl))
  ·intro p aa;refine ah (bA.mp aa) λi _ bz=>?_;subst bz;exact trivial
  ·exact bS (eF.mpr (xk x p q).2.2.1) (r1 x p q)
  ·intro i p dF aa ⟨mW,tI,jQ⟩;have FG:i < l.length:=by
    have:=i8 aa;simp only[f3,length_map,length_range,wg] at this;exact this
   have f6:p= .int (i:Nat):=by
    simp only[f3,getElem?_map] at aa;refine ah (h7.mp aa) λdI ab ae=>?_;have:dI=i:=by
     rw[getElem?_range (by walk_at"o")] at ab;cases ab;rfl
    subst this;rw[<-ae];have Cg:(0:Int)+(dI:Nat)*1=dI:=by walk_at"o"
    rw[Cg]
   subst f6;generalize u3:(range i).foldl (kZ l) kv=nP at mW;have PR:nP.length<=30:=by
    rw[<-u3];have:=CY l (range i) kv;simp only[length_range] at this;walk_at"o"
   refine bg.cons (yY (kv:=ly nP) (y:=l.getD i "") (p:= .str ((l++[("":Str)]).getD (i+1) "")) (bS (by kernel_rfl) mW) (by kernel_rfl) ?_ ?_ trivial (by(rw[bO];exact bH ‹_› rfl)) (bg.nil ⟨?_,?_,?_⟩) rfl)
   ·refine Ev.item (k:= .int ((i:Nat)+1)) (d8 (p:= .list (aB l)) (q:= .list (aB [""])) (z:= .list (aB l++aB [""])) (Ev.name (bS (by kernel_rfl) tI) (by kernel_rfl)) (Ev.list (aK.cons Ev.str aK.nil rfl) (show(1:Nat)<=_ by decide)) (ue (by simp;walk_at"o"))) (d8 (Ev.name a5 (by kernel_rfl)) Ev.int qP) Typed.list fN.lookup (cA.item (by walk_at"o") ?_ (by simp;walk_at"o")) λ_ _=>rfl;rw[<-j5,eb];have e:((i:Int)+1).toNat=i+1:=by walk_at"o"
    rw[e,List.getD,cm (show i+1 < (l++[("":Str)]).length by simp;assumption)];rfl
   ·refine Ev.item (k:= .int (i:Nat)) (Ev.name (bS (by kernel_rfl) tI) (by kernel_rfl)) (Ev.name a5 (by kernel_rfl)) Typed.list fN.lookup (cA.item (by exact nq _) ?_ gm) λ_ _=>rfl;rw[Int.toNat_natCast,eb,List.getD,cm FG];rfl
   ·show bM _ _ _;rw[range_succ,iu,u3];show bM _ _ (iY (ly (kZ l nP i)));rw[show ly (kZ l nP i)=ed (ly nP) (l.getD i "") (.str ((l++[("":Str)]).getD (i+1) "")) from zy.symm];exact a5
   ·exact bS (by kernel_rfl) (bS (by kernel_rfl) tI)
   ·intro x p q;exact bS (eF.mpr (xk x p q).2.1) (bS (eF.mpr (xk x p q).2.2.2) (jQ x p q))
  ·intro dF ⟨ab,_,aC⟩;refine bg.nil (bg.nil ⟨?_,aC⟩);show bM _ _ _;have ax:(f3 0 (l.length:Int) 1).length=l.length:=by simp only[f3,length_map,length_range,wg]
   rw[ax] at ab;rw[hO,tA,iu,fT];exact ab
 ·intro m' ⟨ab,ae⟩;rw[bO,take_length] at ab;exact bg.nil (done m' ab ae)
variable {cK:List (Str×Int)} {above:List (Str×Str)}
theorem FJ{α:Type}{φ:α->ak}{l:List α}{f:ak->ak}{d:α->Bool}{g:α->ak}(aM:∀x,t (φ x)=d x)(hf:∀x,f (φ x)=g x):((l.map φ).filter t).map f=(l.filter d).map g:=by
 induction l with
 |nil=>rfl
 |cons x r aw=>
  rw[eE,fM,fM,aM];cases d x
  ·exact aw
  ·show f (φ x)::_=_;rw[hf];show _::((r.map φ).filter t).map f=_;rw[aw];rfl
theorem C3{kv:List (Str×Int)}{name y:Str}:((g6 order cK above heads kv name).lookup y).isSome=(decide (y=name)||(kv.lookup y).isSome):=by
 unfold g6;split
 ·rw[j3,j3];by_cases e:y=name<;>simp[e]
 ·rw[j3];by_cases e:y=name<;>simp[e]
theorem Jn{kv:List (Str×Int)}{name:Str}:(g6 order cK above heads kv name).length<=kv.length+2:=by
 unfold g6;split
 ·have ab:=uE (kv:=ed kv name (oe order above kv name)) (x:=name) (p:=(cK.lookup name).getD 0);have ae:=uE (kv:=kv) (x:=name) (p:=oe order above kv name);walk_at"o"
 ·have ae:=uE (kv:=kv) (x:=name) (p:=oe order above kv name);walk_at"o"
theorem IZ:∀(l:List Str) (kv:List (Str×Int)),(l.foldl (g6 order cK above heads) kv).length<=kv.length+2*l.length:=by
 intro ba;induction ba with
 |nil=>
  intro kv;simp
 |cons a r aw=>
  intro kv;have ab:=aw (g6 order cK above heads kv a);have ae:=Jn (order:=order) (cK:=cK) (above:=above) (heads:=heads) (kv:=kv) (name:=a);rw[gM,dJ];walk_at"o"
theorem CX{y:Str}:∀(l:List Str) (kv:List (Str×Int)),(y∈l\/(kv.lookup y).isSome=true)->((l.foldl (g6 order cK above heads) kv).lookup y).isSome=true:=by
 intro ba;induction ba with
 |nil=>
  intro kv h;rcases h with h |h;exact absurd h b8;exact h
 |cons a r aw=>
  intro kv h;rw[gM];refine aw _ ?_;rcases h with h |h
  ·rcases bI.mp h with rfl |h
   ·exact .inr (by rw[C3];simp)
   ·exact .inl h
  ·exact .inr (by rw[C3,h,Bool.or_true])
theorem NZ:∀y q,List.lookup y ([]:Loc)=some q->m.lookup y=some q:=λy q e=>by injection e
theorem wZ{x:Str}{p:ak}(h:bM m x p)(r:∀y q,m'.lookup y=some q->m.lookup y=some q):∀y q,List.lookup y ((x,p)::m')=some q->m.lookup y=some q:=λy q e=>by
 rw[di] at e;replace e:=e;induction av:y==x with
 |true=>rw[av] at e;obtain rfl:=bT e;rw[eq_of_beq av];exact h
 |false=>rw[av] at e;exact r y q e
noncomputable def x6:ak->ak
 | .list (x::_)=>x
 |_=> .none
theorem MV(h:∀l∈ls,0 < l.length):((bF ls).filter λ_=>true).map x6=aB (ls.map λl=>l.getD 0 ""):=by
 rw[filter_all,dX,aB,dX];refine g7 λl ao=>?_;induction l with
 |nil=>exact absurd (h _ ao) (by simp)
 |cons a r=>rfl
theorem pL{kv:List (Str×Int)}{x:Str}(h:(kv.lookup x).isSome=true):dictAt ((gC kv).map (·.1)) ((gC kv).map (·.2)) x=some (.int ((kv.lookup x).getD 0)):=by
 rw[C2,lookup_map2];refine aP (nk.mp h) λv aq=>?_;rw[aq];rfl
theorem Nz{kv:List (Str×Str)}{x:Str}(h:(kv.lookup x).isSome=true):dictAt ((ly kv).map (·.1)) ((ly kv).map (·.2)) x=some (.str ((kv.lookup x).getD "")):=by
 rw[C2,lookup_map2];refine aP (nk.mp h) λv aq=>?_;rw[aq];rfl
theorem Mq(ao:∀l∈c3,l.length<=5)(mT:∀l∈c3,0 < l.length)(tH:c3.length<=5)(aj:order.length<=100)(e9:∀x∈order,PyData.strOk x=true)(Qp:∀l∈c3,∀x∈l,PyData.strOk x=true)
  (wh:∀one∈order,((j8 c3).lookup one).isSome=true) (Cz:∀j name,(order++[("":Str)])[j]? =some name->∀one∈order,((j8 c3).lookup one).getD ""=name->one∈(order++[("":Str)]).take j) (b5:∀x∈order,(cK.lookup x).isSome=true) (yu:("":Str)∉c3.map λl=>l.getD 0 ""):
  d3 prog w 3 261 [.list (aB order),fF cK,.list (bF c3)] (.int (qZ order cK c3)):=by
 refine d3.of (names:=["order","price","ladders"]) (m:=[("order",.list (aB order)),("price",fF cK),("ladders",.list (bF c3))]) (c:=260) (by exact⟨rfl,rfl,rfl,rfl,rfl,rfl,rfl,ej (by kernel_rfl),rfl,rfl,rfl,kinds_of (by kernel_rfl),rfl,rfl,rfl,by dsimp only,by dsimp only,by kernel_rfl⟩) (PW λa b c=>by exact rfl) (by exact rfl) ⟨d9,sI,mi,trivial⟩ (by exact rfl) ?_;intro env a9 ec fE d6;have de:sizeLine=2 ^ 24:=rfl;refine bg.cons (yX (by walk_at"s") (lookup_miss (by kernel_rfl) (lookup_miss (by kernel_rfl) (lookup_miss (by kernel_rfl) rfl))) ?_ rfl)
 let keep:Str->Option ak:=λx=>if x="order" then some (.list (aB order)) else if x="price" then some (fF cK) else if x="ladders" then some (.list (bF c3)) else none
 refine bg.cons (Me (c3:=c3) (keep:=keep) a9 (by kernel_rfl) (by kernel_rfl) (by kernel_rfl) (by kernel_rfl) ao tH (by walk_at"l") a5 ?_ ?_)
 ·intro x p q;simp only[keep] at q;replace q:=q;split at q
  ·rename_i e;subst e;obtain rfl:=bT q;exact⟨by walk_at"l",by decide+kernel,by decide+kernel,by decide+kernel⟩
  ·split at q
   ·rename_i e;subst e;obtain rfl:=bT q;exact⟨by walk_at"l",by decide+kernel,by decide+kernel,by decide+kernel⟩
   ·split at q
    ·rename_i e;subst e;obtain rfl:=bT q;exact⟨by walk_at"l",by decide+kernel,by decide+kernel,by decide+kernel⟩
    ·injection q
 intro m4 Oa nS;have qw:bM m4 "order" (.list (aB order)):=nS _ _ (aQ rfl);have UM:bM m4 "price" (fF cK):=nS _ _ (by show(if _ then _ else _:Option ak)=_;rw[aI (by decide+kernel),aQ rfl]);have vI:bM m4 "ladders" (.list (bF c3)):=nS _ _ (by show(if _ then _ else _:Option ak)=_;rw[aI (by decide+kernel),aI (by decide+kernel),aQ rfl]);generalize BF:(c3.map λl=>l.getD 0 "")=heads at yu;generalize Te:j8 c3=above at*;refine bg.cons (sv (x:="ladder") (c:=false) (q:= .list (bF c3)) (ps:=bF c3) (t:=λ_=>true) (f:=x6) (mf:=[]) a9 (Ev.name vI (by kernel_rfl)) cw.list ⟨λ_ _=>rfl,λ_=>rfl,by kernel_rfl,by kernel_rfl,by decide+kernel,rfl⟩ tO (by rw[bO];exact bH ‹_› rfl) ?_ (λp _ cenv _=>gd.nil) ?_ (.inl (by walk_at"k")) ?_ (qS a9 (by kernel_rfl) rfl (by kernel_rfl)) (λ_=>rfl))
 ·intro p aa _;refine ah (j9 aa) λl l5 aU=>?_;subst aU;induction l with
  |nil=>exact trivial
  |cons a r=>exact trivial
 ·intro p aa _ cenv dR;refine ah (j9 aa) λl l5 a7=>?_;subst a7;have vk:=mT l l5;have dA:=ao l l5;refine Ev.item (k:= .int 0) (Ev.name a5 (by kernel_rfl)) Ev.int Typed.list fN.lookup (cA.item (by decide) ?_ (by rw[cz];exact bH ‹_› rfl)) λ_ _=>rfl;induction l with
  |nil=>exact absurd vk (by simp)
  |cons a r=>rfl
 rw[MV mT,BF];refine bg.sub (m':=[("heads",.list (aB heads)),("above",iY (ly above)),("order",.list (aB order)),("price",fF cK)]) ?_ (wZ a5 (wZ (bS (by kernel_rfl) Oa) (wZ (bS (by kernel_rfl) qw) (wZ (bS (by kernel_rfl) UM) NZ))));refine bg.cons (yX (by walk_at"s") (lookup_miss (by kernel_rfl) (lookup_miss (by kernel_rfl) (lookup_miss (by kernel_rfl) (lookup_miss (by kernel_rfl) rfl)))) ?_ rfl);have UD:(aB order).length<=sizeLine:=by rw[cz];exact bH ‹_› rfl
 have Rg:∀x∈heads,PyData.strOk x=true:=λx ag=>by
  rw[<-BF] at ag;refine ah (bA.mp ag) λl l5 bk=>?_;subst bk;refine Qp l l5 _ ?_;have vk:=mT l l5;rw[List.getD,cm vk];exact getElem_mem vk
 let iN:Nat->Loc->Prop:=λj m'=>bM m' "least" (nZ (((order++[("":Str)]).take j).foldl (g6 order cK above heads) []))/\bM m' "above" (iY (ly above))/\bM m' "order" (.list (aB order))/\bM m' "price" (fF cK)/\bM m' "heads" (.list (aB heads))
 refine bg.cons (uh (q:= .list (aB (order++[("":Str)]))) (ps:=aB (order++[("":Str)])) iN
  (j5 (a:=order) (b:=[("":Str)])▸d8 (q:= .list (aB [""])) (by walk_at"e") (Ev.list (aK.cons Ev.str aK.nil rfl) (show(1:Nat)<=_ by decide)) (ue (by simp;walk_at"o"))) cw.list d9 (λp aa=>by refine ah (hN aa) λx _ bz=>?_;subst bz;exact trivial) (by walk_at"s") ⟨a5,by walk_at"l",by walk_at"l",by walk_at"l",by walk_at"l"⟩ ?_ ?_ (λ_=>rfl))
 ·intro j p m' aa ⟨eD,gH,kU,yv,yE⟩;refine Ml λqb ia=>?_;rw[eb] at aa;replace aa:=aa;refine ah (h7.mp aa) λx xN b7=>?_;subst b7;generalize fT:((order++[("":Str)]).take j).foldl (g6 order cK above heads) []=kv at eD;have F3:kv.length<=300:=by
   rw[<-fT];have:=IZ (order:=order) (cK:=cK) (above:=above) (heads:=heads) ((order++[("":Str)]).take j) [];have ae:((order++[("":Str)]).take j).length<=101:=by rw[length_take,fB];simp;walk_at"o"
   simp only[length_nil] at this;walk_at"o"
  have QU:∀y∈(order++[("":Str)]).take j,(kv.lookup y).isSome=true:=λy av=>by rw[<-fT];exact CX _ _ (.inl av)
  have yh:x≠""->x∈order:=λbY=>by
   have:=eW xN;rcases dk.mp this with h |h
   ·exact h
   ·exact absurd (cQ.mp h) bY
  have Gd:PyData.strOk x=true:=by
   by_cases e:x=""
   ·rw[e];decide+kernel
   ·exact e9 x (yh e)
  generalize Hz:oe order above kv x=hJ;have pT:g6 order cK above heads kv x=if heads.any (· ==x)||(x != ""&&decide ((cK.lookup x).getD 0 < hJ)) then ed (ed kv x hJ) x ((cK.lookup x).getD 0) else ed kv x hJ:=by unfold g6;rw[Hz]
  refine bg.cons (yY (kv:=gC kv) (y:=x) (p:= .int hJ) (by walk_at"l") (by kernel_rfl) ?_ (Ev.name a5 (by kernel_rfl)) trivial (by simp;exact bH ‹_› rfl) ?_ rfl)
  ·have Q4:hJ=(((order.filter λone=>(above.lookup one).getD ""==x).map λone=>(kv.lookup one).getD 0)).sum:=Hz.symm;rw[Q4];refine Ev.call (ps:=[.list (cp ((order.filter λone=>(above.lookup one).getD ""==x).map λone=>(kv.lookup one).getD 0))]) (fA (by walk_at"k") EO (by exact rfl) (by decide+kernel) (by kernel_rfl)) (.inl ⟨"sum",rfl⟩) (aK.cons ?_ aK.nil rfl) (Cl.sum cw.list) rfl rfl;have e:(.list (cp ((order.filter λone=>(above.lookup one).getD ""==x).map λone=>(kv.lookup one).getD 0)):ak)= .list (((aB order).filter (p5 λone=>(above.lookup one).getD ""==x)).map (o7 λone=> .int ((kv.lookup one).getD 0))):=by
    rw[uN];unfold cp;rw[dX];rfl
   rw[e];refine k0 (x:="one") (c:=false) (mf:=[("above",iY (ly above)),("least",nZ kv),("name",.str x)]) a9 (by walk_at"e") cw.list ⟨λ_ _=>rfl,λ_=>rfl,by kernel_rfl,by kernel_rfl,by decide+kernel,rfl⟩ (HO (by walk_at"l") (by kernel_rfl) (by walk_at"l") (by kernel_rfl) (by walk_at"l") (by kernel_rfl)) UD ?_ ?_ ?_ (λ_=>rfl)
   ·intro p aa _;refine ah (hN aa) λy _ cC=>?_;subst cC;exact trivial
   ·intro p aa cenv dR;refine ah (hN aa) λy av c1=>?_;subst c1;exact gd.one (bV.cmp (Ev.item (by walk_at"e") (Ev.name a5 (by kernel_rfl)) Typed.eP mn.lookup (sz (Nz (wh y av))) λ_ _=>rfl) (by walk_at"e") uj (by with_unfolding_all rfl))
   ·intro p aa aM cenv dR;refine ah (hN aa) λy av c2=>?_;subst c2;have Tw:(above.lookup y).getD ""=x:=eq_of_beq aM;exact Ev.item (by walk_at"e") (Ev.name a5 (by kernel_rfl)) Typed.eP mn.lookup (sz (pL (QU y (Cz j x xN y av Tw)))) λ_ _=>rfl
  ·have ax:iY (ed (gC kv) x (.int hJ))=nZ (ed kv x hJ):=by rw[show ed (gC kv) x (.int hJ)=gC (ed kv x hJ) from zy]
   rw[ax];have Ge:((ed kv x hJ).lookup x)=some hJ:=by rw[j3,aQ rfl]
   have nS:((ed kv x hJ).lookup x).isSome=true:=by rw[Ge];rfl
   have VO:(ed kv x hJ).length<=301:=ei uE (by walk_at"o");refine bg.cons (kB (c:=heads.any (· ==x)||(x != ""&&decide ((cK.lookup x).getD 0 < hJ))) (sQ (x:=heads.any (· ==x)) (y:=x != ""&&decide ((cK.lookup x).getD 0 < hJ)) (sM (l:=heads) (x:=x)▸bV.cmp (by walk_at"e") (by walk_at"e") (um (nh Rg) Gd) (by with_unfolding_all rfl)) λ_=>bV.and (x:=x != "") (y:=decide ((cK.lookup x).getD 0 < hJ)) (by exact bV.cmp (by walk_at"e") (by walk_at"e") (by walk_at"op") (by with_unfolding_all rfl)) λbY=>bV.cmp (p:= .int ((cK.lookup x).getD 0)) (q:= .int hJ) (Ev.item (by walk_at"e") (by walk_at"e") Typed.dict mn.lookup (ub (pL (b5 x (yh (by simpa using bY))))) λ_ _=>rfl)
    (Ev.item (by walk_at"e") (by walk_at"e") Typed.eP mn.lookup (sz (by rw[pL nS,Ge];rfl)) λ_ _=>rfl) zj (by with_unfolding_all rfl)) (λh=>?_) λh=>?_)
   ·have RI:x∈order:=by
     rcases Bool.or_eq_true_iff.mp h with h |h
     ·refine ah (g8.mp h) λz hz TL=>?_;have:z=x:=eq_of_beq TL;subst this;exact yh λq=>yu (q▸hz)
     ·exact yh (by have:=(k7.mp h).1;simpa using this)
    subst ia;refine bg.cons (yY (kv:=gC (ed kv x hJ)) (y:=x) (p:= .int ((cK.lookup x).getD 0)) (by walk_at"l") (by kernel_rfl) (Ev.item (by walk_at"e") (by walk_at"e") Typed.dict mn.lookup (ub (pL (b5 x RI))) λ_ _=>rfl) (by walk_at"e") trivial (by simp;exact bH ‹_› rfl) (bg.nil (bg.nil ⟨?_,by walk_at"l",by walk_at"l",by walk_at"l",by walk_at"l"⟩)) rfl);rw[hO,xN,iu,fT];show bM _ _ (nZ (g6 order cK above heads kv x));have aD:iY (ed (gC (ed kv x hJ)) x (.int ((cK.lookup x).getD 0)))=nZ (ed (ed kv x hJ) x ((cK.lookup x).getD 0)):=by rw[show ed (gC (ed kv x hJ)) x (.int ((cK.lookup x).getD 0))=gC (ed (ed kv x hJ) x ((cK.lookup x).getD 0)) from zy]
    rw[pT,aQ h, <-aD];exact a5
   ·subst ia;refine bg.nil (bg.nil ⟨?_,by walk_at"l",by walk_at"l",by walk_at"l",by walk_at"l"⟩);rw[hO,xN,iu,fT];show bM _ _ (nZ (g6 order cK above heads kv x));rw[pT,aI (by rw[h];decide)];exact a5
 ·intro m' ⟨eD,_⟩;rw[cz,take_length] at eD;refine bg.nil (bg.cons (df.ret (p:= .int (qZ order cK c3)) ?_ trivial rfl));have hle:qZ order cK c3=((((order++[("":Str)]).foldl (g6 order cK above heads) [])).lookup ("":Str)).getD 0:=by unfold qZ;rw[Te,BF]
  rw[hle];exact Ev.item (by walk_at"e") Ev.str Typed.eP mn.lookup (sz (pL (CX _ _ (.inl (by simp))))) λ_ _=>rfl
theorem Nu:nsIn (KF w) 3 "min"=some none:=by kernel_rfl
noncomputable def rb(kv:List (Str×Int))(fit:List Str):Int:=bestOf (λa b=>decide (a < b)) (fit.map λx=>(kv.lookup x).getD 0)
noncomputable def nA(kv:List (Str×Int))(fit:List Str):List (Str×Int):=(kv.map (·.1)).map λy=>(y,if fit.any (· ==y) then(kv.lookup y).getD 0 - rb kv fit else(kv.lookup y).getD 0)
theorem yZ{α:Type}{kv:List (Str×α)}{x:Str}(h:x∈kv.map (·.1)):(kv.lookup x).isSome=true:=by
 induction kv with
 |nil=>exact absurd h b8
 |cons z r aw=>
  rw[di];induction e:x==z.1 with
  |true=>rfl
  |false=>
   rcases bI.mp h with h |h
   ·rw[h] at e;simp at e
   ·exact aw h
theorem ON{t:Int}{kv:List (Str×Int)}{fit:List Str}(SF:0 < fit.length)(hf:fit.length<=100)(fT:kv.length<=100)(US:∀x∈fit,(kv.lookup x).isSome=true)(bo:(kv.map (·.1)).Nodup)(e9:∀x∈fit,PyData.strOk x=true)(R2:∀x∈kv.map (·.1),PyData.strOk x=true):
  d3 prog w 3 266 [.list [.int t,fF kv],.list (aB fit)] (.list [.int (t+rb kv fit),fF (nA kv fit)]):=by
 refine d3.of (names:=["state","fit"]) (m:=[("state",.list [.int t,fF kv]),("fit",.list (aB fit))]) (c:=265) (by exact⟨rfl,rfl,rfl,rfl,rfl,rfl,rfl,ej (by kernel_rfl),rfl,rfl,rfl,kinds_of (by kernel_rfl),rfl,rfl,rfl,by dsimp only,by dsimp only,by kernel_rfl⟩) (sZ λa b=>by exact rfl) (by exact rfl) ⟨⟨trivial,sI,trivial⟩,d9,trivial⟩ (by exact rfl) ?_;intro env a9 ec fE d6;have de:sizeLine=2 ^ 24:=rfl;have SM:(aB fit).length<=sizeLine:=by rw[cz];exact bH ‹_› rfl
 have h5:([.int t,fF kv]:List ak).length<=sizeLine:=by show(2:Nat)<=_;decide
 refine bg.cons (jA (p:= .int (rb kv fit)) (Ev.call (ps:=[.list (cp (fit.map λx=>(kv.lookup x).getD 0))]) (fA (by walk_at"k") Nu (by exact rfl) (by decide+kernel) (by kernel_rfl)) (.inl ⟨"min",rfl⟩) (aK.cons ?_ aK.nil rfl) (Lm cw.list (by simpa using SF)) rfl rfl) trivial (by walk_at"s") ?_ rfl)
 ·have e:(.list (cp (fit.map λx=>(kv.lookup x).getD 0)):ak)= .list (((aB fit).filter (p5 λ_=>true)).map (o7 λx=> .int ((kv.lookup x).getD 0))):=by
   rw[uN,filter_all];unfold cp;rw[dX];rfl
  rw[e];refine k0 (x:="name") (c:=false) (mf:=[("state",.list [.int t,fF kv])]) a9 (by walk_at"e") cw.list ⟨λ_ _=>rfl,λ_=>rfl,by kernel_rfl,by kernel_rfl,by decide+kernel,rfl⟩ (nT (by walk_at"l") (by kernel_rfl)) SM ?_ ?_ ?_ (λ_=>rfl)
  ·intro p aa _;refine ah (hN aa) λy _ aU=>?_;subst aU;exact trivial
  ·intro p aa cenv dR;refine ah (hN aa) λy _ a7=>?_;subst a7;exact gd.nil
  ·intro p aa _ cenv dR;refine ah (hN aa) λy av bk=>?_;subst bk;exact Ev.item (Ev.item (k:= .int 1) (by walk_at"e") Ev.int Typed.list fN.lookup (cA.item (by decide) rfl h5) λ_ _=>rfl) (Ev.name a5 (by kernel_rfl)) Typed.dict mn.lookup (ub (pL (US y av))) λ_ _=>rfl
 ·generalize Ub:rb kv fit=most;refine bg.cons (df.ret (p:= .list [.int (t+most),fF (nA kv fit)]) (Ev.list (aK.cons (d8 (p:= .int t) (Ev.item (k:= .int 0) (by walk_at"e") Ev.int Typed.list fN.lookup (cA.item (by decide) rfl h5) λ_ _=>rfl) (by walk_at"e") qP) (aK.cons ?_ aK.nil rfl) rfl) (show(2:Nat)<=_ by decide)) ⟨trivial,sI,trivial⟩ rfl);have e:fF (nA kv fit)=su ((kv.map (·.1)).map λy=>(y,.int (if fit.any (· ==y) then(kv.lookup y).getD 0 - most else(kv.lookup y).getD 0))):=by
   unfold fF gC nA;rw[dX,Ub];rfl
  rw[e];have gk:cw prog w (fF kv) (aB (kv.map (·.1))):=by
   have:=cw.dict (prog:=prog) (w:=w) (ks:=(gC kv).map (·.1)) (l:=(gC kv).map (·.2));have ax:(gC kv).map (·.1)=kv.map (·.1):=by unfold gC;rw[dX];rfl
   unfold fF su;rw[ax] at this ⊢;exact this
  refine Jr (x:="name") (c:=false) (q:=fF kv) (mf:=[("fit",.list (aB fit)),("most",.int most),("state",.list [.int t,fF kv])]) a9 (Ev.item (k:= .int 1) (by walk_at"e") Ev.int Typed.list fN.lookup (cA.item (by decide) rfl h5) λ_ _=>rfl) gk bo (by kernel_rfl) ⟨λ_ _=>rfl,λ_=>rfl,by kernel_rfl,by kernel_rfl,by decide+kernel,rfl⟩ (HO (by walk_at"l") (by kernel_rfl) (by walk_at"l") (by kernel_rfl) (by walk_at"l") (by kernel_rfl)) (by simp;exact bH ‹_› rfl) (λy _=>trivial) ?_ (λ_=>rfl);intro y av cenv dR;have HB:=yZ av;refine Du (c:=fit.any (· ==y)) (sM (l:=fit) (x:=y)▸bV.cmp (by walk_at"e") (by walk_at"e") (um (nh e9) (R2 y av)) (by with_unfolding_all rfl)) (λh=>?_) λh=>?_
  ·rw[aQ h];exact d8 (p:= .int ((kv.lookup y).getD 0)) (Ev.item (Ev.item (k:= .int 1) (by walk_at"e") Ev.int Typed.list fN.lookup (cA.item (by decide) rfl h5) λ_ _=>rfl) (Ev.name a5 (by kernel_rfl)) Typed.dict mn.lookup (ub (pL HB)) λ_ _=>rfl) (by walk_at"e") sD
  ·rw[aI (by rw[h];decide)];exact Ev.item (Ev.item (k:= .int 1) (by walk_at"e") Ev.int Typed.list fN.lookup (cA.item (by decide) rfl h5) λ_ _=>rfl) (Ev.name a5 (by kernel_rfl)) Typed.dict mn.lookup (ub (pL HB)) λ_ _=>rfl
theorem DV{e:Expr}{b:Bool}(he:Ev prog w n env m e (.bool b)):Ev prog w n env m (.UnaryOp .Not e pos) (.bool (!b)):=λW A s Q E ai x h=>by
 refine wpAny_UnaryOp (he W A s _ E ai x λv au aq az aF=>?_);rw[show v= .bool b from aq];unfold unaryOp;refine fY ?_;show wpAny _ _ (do return Value.bool (!(<-truthy (.bool b)))) _ _ _;exact aH (mu (bu (h _ _ rfl az aF)))
theorem DM{a b:Expr}{x y:Bool}(af:Ev prog w n env m a (.bool x))(I:x=true->Ev prog w n env m b (.bool y)):Ev prog w n env m (.BoolOp .And [a,b] pos) (.bool (x&&y)):=λW A s Q E ai st h=>by
 refine PyProof.Rows.BoolOp_and (af W A s _ E ai st λv au aq az aF=>?_);rw[show v= .bool x from aq];refine mu ?_;induction x with
 |false=>exact h _ _ rfl az aF
 |true=>exact PyProof.Rows.BoolOp_one (I rfl W A au Q E ai (st.ext az aF) λv s' aq e g=>h v s' aq (az.trans e) g)
noncomputable def four(name:Str):List (Str×Str):=[(("w":Str)++name,(".":Str)++name),(("w.":Str)++name,name),(("w.":Str)++name++(".7":Str),(".":Str)++name),(("w.":Str)++name++(".70":Str),(".":Str)++name)]
noncomputable def two(name:Str):List (Str×Str):=[(("w.":Str)++name,(".":Str)++name),(("w.":Str)++name++(".x":Str),(".":Str)++name)]
noncomputable def q2(name:Str):Bool:= !Txt.endswith name ".7"&& !Txt.endswith name "."
noncomputable def pQ(kp:Str->Str->Bool)(name:Str):Bool:=
 if(four name).all (λz=> !kp z.1 z.2) then(kp (("w.":Str)++name) ((".":Str)++name)==q2 name)&&(kp (("w.":Str)++name++(".x":Str)) ((".":Str)++name)==q2 name) else false
theorem NJ{name:Str}{kp:Str->Str->Bool}(aA:name.length<=100)(h:∀z∈four name++two name,d3 prog w 2 57 [.str z.1,.str z.2] (.bool (kp z.1 z.2))):d3 prog w 3 241 [.str name] (.bool (pQ kp name)):=by
 refine d3.of (names:=["name"]) (m:=[("name",.str name)]) (c:=240) (by exact⟨rfl,rfl,rfl,rfl,rfl,rfl,rfl,ej (by kernel_rfl),rfl,rfl,rfl,kinds_of (by kernel_rfl),rfl,rfl,rfl,by dsimp only,by dsimp only,by kernel_rfl⟩) (bind1 λa=>by exact rfl) (by exact rfl) ⟨trivial,trivial⟩ (by exact rfl) ?_;intro env a9 ec fE d6;have de:sizeLine=2 ^ 24:=rfl;have dH:((".":Str)).length=1:=by kernel_rfl
 have dh:(("w":Str)).length=1:=by kernel_rfl
 have pa:(("w.":Str)).length=2:=by kernel_rfl
 have jY:((".7":Str)).length=2:=by kernel_rfl
 have iG:((".70":Str)).length=3:=by kernel_rfl
 have WV:((".x":Str)).length=2:=by kernel_rfl
 have eM:∀a b:Str,(a++b).length=a.length+b.length:=λa b=>by show(a.cps++b.cps).size=_;exact Array.size_append ..
 have lw:(("w.":Str)++name).length<=102:=by rw[eM];walk_at"o"
 refine bg.cons (jA (p:= .str ((".":Str)++name)) (d8 Ev.str (by walk_at"e") (lL (by walk_at"o"))) trivial (.inl (by walk_at"k")) ?_ rfl)
 let iN:Nat->Loc->Prop:=λj m'=>bM m' "name" (.str name)/\bM m' "dotted" (.str ((".":Str)++name))/\((four name).take j).all (λz=> !kp z.1 z.2)=true
 refine bg.cons (DH (ps:=(four name).map λz=>(ak.str z.1,ak.str z.2)) iN
  (JB (Ev.tuple (aK.cons (Ev.tuple (aK.cons (d8 Ev.str (by walk_at"e") (lL (by walk_at"o"))) (aK.cons (by walk_at"e") aK.nil rfl) rfl) (show(2:Nat)<=_ by decide)) (aK.cons (Ev.tuple (aK.cons (d8 Ev.str (by walk_at"e") (lL (by walk_at"o"))) (aK.cons (by walk_at"e") aK.nil rfl) rfl) (show(2:Nat)<=_ by decide))
   (aK.cons (Ev.tuple (aK.cons (d8 (d8 Ev.str (by walk_at"e") (lL (by walk_at"o"))) Ev.str (lL (by walk_at"o"))) (aK.cons (by walk_at"e") aK.nil rfl) rfl) (show(2:Nat)<=_ by decide)) (aK.cons (Ev.tuple (aK.cons (d8 (d8 Ev.str (by walk_at"e") (lL (by walk_at"o"))) Ev.str (lL (by walk_at"o"))) (aK.cons (by walk_at"e") aK.nil rfl) rfl) (show(2:Nat)<=_ by decide)) aK.nil rfl) rfl) rfl) rfl) (show(4:Nat)<=_ by decide)))
  (λp aa=>by refine ah (bA.mp aa) λz _ aU=>?_;subst aU;exact⟨trivial,trivial⟩) (.inl (by walk_at"k")) (.inl (by walk_at"k")) ⟨by walk_at"l",a5,rfl⟩ ?_ ?_ (λ_=>rfl))
 ·intro j p q m' r2 ⟨eD,gH,kU⟩;rw[eb] at r2;refine ah (h7.mp r2) λz hz e=>?_;cases e
  have H2:z∈four name:=eW hz;refine bg.cons (kB (c:= !(kp z.1 z.2==false)) (bV.cmp (Ev.call (fL (by walk_at"k") uH (by kernel_rfl)) (.inr (.inr ⟨57,_,_,rfl,rfl,rfl⟩)) (aK.cons (by walk_at"e") (aK.cons (by walk_at"e") aK.nil rfl) rfl) (h z (b6 _ H2)).cl rfl rfl) Ev.bool Dd (by with_unfolding_all rfl)) (λU=>?_) λU=>?_)
  ·refine bg.cons (df.ret (p:= .bool false) Ev.bool trivial ?_);show ak.bool false=_;unfold pQ;rw[aI];intro q;have:=iP.mp q z H2;cases hd:kp z.1 z.2<;>rw[hd] at U this<;>simp at U this
  ·refine bg.nil (bg.nil ⟨by walk_at"l",by walk_at"l",?_⟩);rw[hO,hz,all_append,kU];cases hd:kp z.1 z.2
   ·simp[hd]
   ·rw[hd] at U;simp at U
 ·intro m' ⟨eD,gH,kU⟩;rw[bO,take_length] at kU;refine bg.nil (bg.cons (jA (p:= .bool (q2 name)) (DM (DV (j4 DT (by walk_at"e") Typed.str (aK.cons Ev.str aK.nil rfl) C4 rfl rfl rfl rfl)) λ_=>DV (j4 DT (by walk_at"e") Typed.str (aK.cons Ev.str aK.nil rfl) C4 rfl rfl rfl rfl)) trivial (.inl (by walk_at"k")) ?_ rfl));refine bg.cons (df.ret (p:= .bool (pQ kp name)) ?_ trivial rfl);have e:pQ kp name=((kp (("w.":Str)++name) ((".":Str)++name)==q2 name)&&(kp (("w.":Str)++name++(".x":Str)) ((".":Str)++name)==q2 name)):=by unfold pQ;rw[aQ kU]
  rw[e];have t1:=h (("w.":Str)++name,(".":Str)++name) (b9 _ (by simp[two]));have fa:=h (("w.":Str)++name++(".x":Str),(".":Str)++name) (b9 _ (by simp[two]));refine DM (Ev.cmp (Ev.call (fL (by walk_at"k") uH (by kernel_rfl)) (.inr (.inr ⟨57,_,_,rfl,rfl,rfl⟩)) (aK.cons (d8 Ev.str (by walk_at"e") (lL (by walk_at"o"))) (aK.cons (by walk_at"e") aK.nil rfl) rfl) t1.cl rfl rfl) (by walk_at"e") uu (by with_unfolding_all rfl)) λ_=>Ev.cmp (Ev.call (fL (by walk_at"k") uH (by kernel_rfl)) (.inr (.inr ⟨57,_,_,rfl,rfl,rfl⟩)) (aK.cons (d8 (d8 Ev.str (by walk_at"e") (lL (by walk_at"o"))) Ev.str (lL (by walk_at"o"))) (aK.cons (by walk_at"e") aK.nil rfl) rfl) fa.cl rfl rfl) (by walk_at"e") uu (by with_unfolding_all rfl)
variable {params:Arguments}
section
variable {prog:Program} {w:World} {n:Nat} {env:Env} {m:Loc} {Φ:dp->Loc->Prop}
theorem OS(w:World):nsOkIn (KF w) 3=true:=by kernel_rfl
theorem FX(w:World):nsIn (KF w) 3 "__builtins__"=some (some (.ref 4)):=by kernel_rfl
theorem zd{K:Frag}{N:Addr}{qB:Str->Option Value}{n:Str}{v:Value}(X:K.In h)(H:h.Ns N qB)(e:nsIn K N n=some (some v)):qB n=some v:=by
 refine cg H λo es ep aj hd _ hf=>?_;unfold nsIn at e;split at e
 ·rename_i c d jT il bQ q;have:=X _ _ q;rw[aj] at this;obtain rfl:=bT this
  (injection hd with bB;subst bB)
  split at e
  ·rename_i ck he
   (injection e with bB;injection bB with bB;subst bB)
   rw[<-hf];unfold nsFind findBy;rw[<-Array.find?_toList,he];rfl
  ·split at e<;>cases e
 ·injection e
theorem G.glob(g:G w h):∃qB,h.Ns mainGlobals qB/\qB "__builtins__"=some (.ref 4):=by
 have H:h.Ns mainGlobals (h.nsMap 3):= .of_isNs (isNs_of_in g.K (OS w));exact⟨_,H,zd g.K H (FX w)⟩
def rm(P:Addr)(pos:Pos)(qual:Str):Prop:=(P=217/\pos.line=203/\pos.col=18/\qual="_law_climb.<locals>.<lambda>")\/(P=253/\pos.line=245/\pos.col=29/\qual="_law_order.<locals>.<lambda>")
theorem rm.jr{P:Addr}(x:rm P pos qual):cc P:=by
 rcases x with⟨rfl,_⟩ |⟨rfl,_⟩
 ·exact .inl rfl
 ·exact .inr rfl
theorem G.tab{P:Addr}(g:G w h)(ag:ExtBut P h h')(L:rm P pos qual)(U:h'.get? c'=some cP)(aG:rd cP qual)(b5:h'.get? P=some (tabObj #[rawInt pos.line,rawInt pos.col,.ref c'])):G w h' where
 K:=λb ob e=>ag b ob (λq=>Ga e (q▸L.jr)) (g.K b ob e)
 B:=by
  refine ah g.B λmb x y=>?_;have:builtinsNs≠P:=λq=>by
   refine gA x λo es ep e hd _=>?_;refine ah (g.T P L.jr) λps aO _=>?_;rw[q,aO] at e;obtain rfl:=bT e;injection hd
  exact⟨mb,x.at' λo e=>ag _ _ this e,y⟩
 M:=by
  refine ah g.M λo e r=>?_;exact⟨o,ag _ _ (λq=>by have:=L.jr;rw[<-q] at this;rcases this with z |z<;>exact absurd z (by decide)) e,r⟩
 T:=λb I=>by
  by_cases q:b=P
  ·subst q;refine⟨_,b5,.inr ⟨c',?_⟩⟩;obtain⟨ax,vs,t,aD,a8⟩:=aG;rcases L with⟨e,dH,dh,rfl⟩ |⟨e,dH,dh,rfl⟩
   ·exact .inl ⟨e,by rw[dH,dh];rfl,cP,vs,t,U,ax,aD,a8⟩
   ·exact .inr ⟨e,by rw[dH,dh];rfl,cP,vs,t,U,ax,aD,a8⟩
  ·refine ah (g.T b I) λps e t=>?_;refine⟨ps,ag _ _ q e,t.of λc o U e=>ag _ _ (λq=>?_) e⟩;refine ah (g.T P L.jr) λWC aO _=>?_;rw[q,aO] at e;obtain rfl:=bT e;injection U
theorem EF{M:Model}{name:Str}{body:FuncBody}{c P:Addr} 
  (g:G w s.heap) (ec:env.code= .ref c) (gu:codeHdIn (KF w) c P=true) (L:rm P pos qual)
  (h:∀c' cP s',Ext s s'->G w s'.heap->s'.heap.get? c'=some cP->rd cP qual->Q (.ref c') s'):
  wpAny M A (functionCode env pos firstLine name qual params scope body) Q E s:=by
 have C:=codeHd_of_K g.K gu;refine ah (g.T P L.jr) λps b5 aM=>?_;rcases aM with rfl |⟨c₀,aM⟩
 ·refine wpAny_functionCodeX ec (C.code b5 trivial) (C.tab b5) rfl λc' h' tk ag Wl cu _ Qo Se BR=>?_;refine iD BR λCw _ _ aU _=>?_;refine iC aU λcP vs ax aD a8 _=>?_;refine xt Qo λc₂ Wg en t bN ts hd aq=>?_
  (injection bN with bB;subst bB)
  rw[ax] at ts;obtain rfl:=bT ts;have q:rd cP qual:=⟨aD,en,t,hd,aq⟩
  have gv:G w h':=g.tab ag L ax q (by exact Se.2);exact h c' cP _ ⟨⟨h',tk,rfl⟩,λb o I e=>ag b o (λq=>I (q▸L.jr)) e⟩ gv ax q
 ·have key:ps= #[rawInt pos.line,rawInt pos.col,.ref c₀]/\uI s.heap c₀ qual:=by
   rcases L with⟨e,dH,dh,rfl⟩ |⟨e,dH,dh,rfl⟩<;>rcases aM with⟨aO,aa,U⟩ |⟨aO,aa,U⟩
   ·exact⟨by rw[aa,dH,dh];rfl,U⟩
   ·rw[e] at aO;exact absurd aO (by decide)
   ·rw[e] at aO;exact absurd aO (by decide)
   ·exact⟨by rw[aa,dH,dh];rfl,U⟩
  obtain⟨a7,o,vs,t,ab,ae,aC,bc⟩:=key;subst a7;refine wpAny_functionCode_hit (c':= .ref c₀) ec (C.code b5 trivial) ?_ (h c₀ o s (.refl s) g ab ⟨ae,vs,t,aC,bc⟩);simp[codeAmong,rawInt]
theorem EC{M:Model}{name:Str}{body:Expr}{xA:List (Str×Addr)}{c P:Addr} 
  (g:G w s.heap) (eB:closureFor scope env=pure xA) (vL:env.globals=3) (ec:env.code= .ref c) (gu:codeHdIn (KF w) c P=true) (L:rm P pos qual)
  (h:∀f c' pm ji cP s',Ext s s'->G w s'.heap->s.heap.get? f=none->s'.heap.get? f=some (kla_obj name qual params body scope xA pm c' ji)->s'.heap.get? c'=some cP->rd cP qual->Q (.ref f) s'):
  wpAny M A (makeFunction name qual params (.expr body) scope env [] [] [] pos firstLine) Q E s:=by
 rw[makeFunction_eq];simp only[zip_nil_right,filterMap_nil,isEmpty_nil,if_true,pure_bind];unfold makeTail;rw[eB,vL];refine aH (bu ?_);have fin:∀(ji:Value) (au:Shared) (c':Addr) (cP:Obj) (aL:Shared),Ext s au->Ext au aL->G w aL.heap->aL.heap.get? c'=some cP->rd cP qual->∀pm,Q (.ref aL.heap.objs.size) {aL with heap:=aL.heap.push (kla_obj name qual params body scope xA pm c' ji)}:=λji au c' cP aL az aR aY U aG pm=>by
  refine h _ c' pm ji cP _ ((az.trans aR).trans (.push ..)) (aY.push _) ?_ (dc _ rfl) (dZ _ U) aG;induction e:s.heap.get? aL.heap.objs.size with
  |none=>rfl
  |some o=>
   have:=(az.trans aR).keep _ _ (aY.fC (eA _)) e;rw[eA] at this;injection this
 induction xA with
 |nil=>
  simp only[isEmpty_nil,if_true];refine aH (bu ?_);refine aH (EF g ec gu L λc' cP aL aR aY U aG=>?_);refine ah aY.glob λqB dj I=>?_;refine iD aY.M λo aj ab ae aC=>?_;refine aH (wpAny_builtinsFor dj I (by decide) aj ab ae aC ?_);refine aH (wpAny_nsGet dj ?_);exact aH (bu (iq (fin .none s c' cP aL (.refl s) aR aY U aG _) (by size_fits)))
 |cons q r=>
  simp only[isEmpty_cons,Bool.false_eq_true,if_false];refine aH (wpAny_newTextTuple ?_);refine aH (EF (g.push _) ec gu L λc' cP aL aR aY U aG=>?_);refine ah aY.glob λqB dj I=>?_;refine iD aY.M λo aj ab ae aC=>?_;refine aH (wpAny_builtinsFor dj I (by decide) aj ab ae aC ?_);refine aH (wpAny_nsGet dj ?_);exact aH (bu (iq (fin _ _ c' cP aL (.push ..) aR aY U aG _) (by size_fits)))
theorem Ev.lam{body:Expr}{c P:Addr}(ec:env.code= .ref c)(gu:codeHdIn (KF w) c P=true)(L:rm P pos (env.qual++"<lambda>"))(uU:defaultsOf params env=([],[]))(qd:(scope.names.all λx=>x.2 != .free)=true):
  Ev prog w n env m (.Lambda params body scope pos) (.lam λfd=>∃pm iL ji,fd=kla_fn "<lambda>" (env.qual++"<lambda>") params body scope [] pm iL ji):=λW A s Q E ai x h=>by
 have eB:closureFor scope env=pure []:=by
  rw[zc (λz hz ar=>?_)]
  ·congr 1;have:∀(names:List (Str×NameKind)) (acc:List (Str×Addr)),(names.all λx=>x.2 != .free)=true->fR env.cells names acc=acc:=by
    intro names;induction names with
    |nil=>intro acc _;rfl
    |cons z r aw=>
     intro acc hz;simp only[all_cons,Bool.and_eq_true] at hz;replace hz:=hz;obtain⟨y,k⟩:=z;have ar:(k==NameKind.free)=false:=by have:=hz.1;simpa using this
     unfold fR;rw[ar];exact aw acc hz.2
   exact this _ _ qd
  ·have:=iP.mp qd z hz;rw[ar] at this;(focus (injection this;done))
 refine kla_eval uU (EC x.g eB x.gl ec gu L λf c' pm ji cP s' e g aA hf U aG=>h _ s' ⟨f,_,_,c',cP,rfl,⟨λq=>?_,hf,rfl⟩,⟨λq=>?_,U,aG⟩,rfl,rfl,pm,_,ji,rfl⟩ e g)
 ·exact x.low.not aA q
 ·refine aE ((x.low.kt e.keep) c' q) λbk _=>?_;refine ah bk λo aO cZ=>?_;rw[U] at aO;obtain rfl:=bT aO;obtain⟨dz,vs,t,bN,_⟩:=aG;rcases cZ with cZ |cZ
  ·exact cZ dz
  ·exact cZ _ bN
end
theorem IB:∀{l:List (Str×Value)} {x:Str} {v:Value},(l.map (·.1)).Nodup->(x,v)∈l->l.reverse.lookup x=some v:=by
 intro l x v aA hm;have gS:(l.reverse.map (·.1)).Nodup:=by rw[map_reverse];exact List.pairwise_reverse.mpr (aA.imp Ne.symm)
 exact wq (y:=(x,v)) gS (List.mem_reverse.mpr hm)
theorem qv.lam{P:FuncData->Prop}{p:ak}{body:Expr}(b5:∀fd,P fd->fd.body= .expr body/\fd.scope=scope/\fd.closure=[]/\fd.globals=3/\fd.builtins=0/\∀vs:List Value,vs.length=names.length->bindArgs fd ⟨vs,[]⟩=pure (names.zip vs))
  (hlen:args.length=names.length) (bo:names.Nodup) (Gu:∀x∈names,scope.names.lookup x=some .local) (xh:∀x∈scope.names,x.2≠ .cell) (qd:(scope.names.all λx=>x.2 != .free)=true)
  (jj:scope.kind= .function) (rA:scope.isCoroutine=false) (rz:scope.isGenerator=false) (cN:dB args) (aa:cb p) (h:∀env:Env,c5 env scope->Ev prog w n env (names.zip args) body p):qv prog w (n+1) (.lam P) args p:=by
 intro W A s f vs Q E ai g low hf bb a4;refine P6 hf λa o fd c cP aU a7 bk hd U Uc=>?_;subst aU;refine cB a7 λl9 aj _=>?_;refine cB bk λWz r0 aG=>?_;refine uT (b5 fd Uc) λab ae aC bc dA jt=>?_;obtain⟨_,iL,lG,dD,vv⟩:=aG;have tn:vs.length=names.length:=by rw[<-bb.len,hlen]
 have th:((names.zip vs).map (·.1))=names:=wB tn;refine wpAny_call (kla_callFunE ai.lim aj hd (by rw[ae];exact rA) (by rw[ae];exact rz) ab ⟨c,cP,iL,lG,U,r0,dD,vv⟩ ?_);rw[jt vs tn];refine bu ?_;rw[ae,aC,bc,dA];refine wpAny_newFunctionEnv xh (λx ag=>Gu x.1 ?_) (λh₁ p4 bL=>⟨g.lim.fresh _ bL,?_⟩) jj
 ·have:=fX (f:=(·.1)) ag
  rwa [th] at this
 ·generalize lh:newEnv scope s.heap.objs.size 3 [] (fd.qualname++".<locals>.") (some a) fd.code none 0=env;induction env using jH;rename_i env
  have ax:env.locals=s.heap.objs.size:=by rw[<-lh];rfl
  have aD:env.cells=[]:=by rw[<-lh];rfl
  have a8:env.globals=3:=by rw[<-lh];rfl
  have bW:env.builtins=0:=by rw[<-lh];rfl
  have d7:env.scope=scope:=by rw[<-lh];rfl
  have cI:∀x,env.kindOf x=scope.names.lookup x:=λx=>by rw[<-lh];rfl
  have xo:∀b o,s.heap.get? b=some o->h₁.get? b=some o:=λb o e=>bL.extBut b o (Nat.ne_of_lt (lt_size e)) (dZ _ e);have aF:G w h₁:=g.keeps xo;have uJ:∀y,scope.names.lookup y≠some .free:=λy q=>by
   have:=iP.mp qd _ (mem_of_lookup q)
   (focus (injection this;done))
  have OQ:∀y,scope.names.lookup y≠some .cell:=λy q=>xh _ (mem_of_lookup q) rfl;have a9:c5 env scope:=⟨λy k _ e=>by rw[cI];exact e,λy q=>absurd q (uJ y),λy q=>q.elim (λq=>absurd q (OQ y)) λq=>absurd q (uJ y),by rw[d7];exact jj⟩
  have st:St w env (λb=>W b\/b=s.heap.objs.size) (names.zip args) h₁:=by
   refine⟨by rw[d7];exact jj,a8,bW,aF,λb I=>?_,by rw[ax];exact g.fC (eA _),λnm sg kQ=>(by rw[aD] at kQ;injection kQ),λx q ag=>?_⟩
   ·rcases I with I |rfl
    ·refine aE (low b I) λbz lu=>?_;refine ah bz λob e cF=>?_;exact⟨⟨ob,xo _ _ e,cF⟩,lu⟩
    ·refine ah (nj p4) λob e A3=>?_;exact⟨⟨ob,e,.inr A3⟩,g.fC (eA _)⟩
   ·refine ah (DD bb ag) λv hm aq=>?_;have nO:x∈names:=by
     have:=fX (f:=(·.1)) hm
     rwa [th] at this
    refine⟨v,.inl ⟨by rw[cI];exact Gu x nO,_,ax▸p4,IB (by rw[th];exact bo) hm⟩,?_⟩;refine aq.upd (λb ob I _ e=>⟨xo _ _ e,λq=>?_⟩) (od cN (qM ag));rcases q with q |rfl
    ·exact I q
    ·rw[eA] at e;injection e
  refine kla_codeExpr (h env a9 _ _ {s with heap:=h₁,toks:=s.toks+(names.zip vs).length} _ _ ai.in st λv s' aq e gv=>?_);refine a4 v s' (aq.upd (λb ob I _ e=>⟨e,λq=>I (.inl q)⟩) aa) ((Ext.keeps xo).trans e) gv
theorem Qa(w:World):(KF w).lookup 66=some {cls:= .type "tuple",data:= .seq #[.ref 65]}:=by kernel_rfl
theorem Gl{st:Stmt}{Φ:dp->Loc->Prop}{J:Addr->Prop}{ad:Str->Addr}{Q:Flow->Shared->Prop}(h:df prog w n env m st Φ)(ai:bK n A)(F:b1 w s₀ env W₀ ad J m s)(aG:∀f s',Out w s₀ env W₀ J Φ (b4 env m ad) s f s'->Q f s'):wpAny (model prog w) A (exec st env) Q E s:=dV (h s₀ W₀ J ad A s E ai F) aG λ_ _ e=>e
theorem D8{seq:ak}{l0:List ak}{acc:Nat->ak}(h0:acc 0= .list l0)(aG:EM w q)(B3:cb q)(gk:cw prog w seq ps)(Be:cb seq)(e0:∀p∈ps,cb p)(tD:∀j,j<=ps.length->cb (acc j))(pT:∀j p,ps[j]? =some p->qv prog w (n+1) q [acc j,p] (acc (j+1))):
  d3 prog w (n+2) 73 [q,seq,acc 0] (acc ps.length):=by
 refine d3.nV (args:=[q,seq,acc 0]) (names:=["function","sequence","initial"]) (m:=[("function",q),("sequence",seq),("initial",acc 0)]) (c:=72) (by exact⟨rfl,rfl,rfl,rfl,rfl,rfl,rfl,ej (by kernel_rfl),rfl,rfl,rfl,kinds_of (by kernel_rfl),rfl,rfl,rfl,by dsimp only,by dsimp only,by kernel_rfl⟩) (by exact rfl) ⟨B3,Be,tD 0 (c0 _),trivial⟩ (by exact rfl) ?_ ?_
 ·intro W A s vs cJ c6 g low bb a4;have mC:=bb;refine bj bb λv1 _ ax _ aU=>?_;refine bj aU λv2 _ aD _ dr=>?_;refine bj dr λpw _ a8 _ bW=>?_;subst ax aD a8;rw[show _=[] from bW] at mC ⊢;show wpAny _ _ (seqItems? (.ref 66) >>=_) _ _ _;refine aH (wpAny_seqItems (g.K _ _ (Qa w)) rfl ?_);exact wpAny_of_eq (a:=([("function",v1),("sequence",v2),("initial",pw)]:List (Str×Value))) (by rfl) (a4 [v1,v2,pw] s mC (.refl s) g)
 intro env a9 ec fE d6;intro s₀ W₀ J ad A s E ai F;refine oK λcJ kr=>?_;refine wpAny_execs_cons (wpAny_Assign_Name ?_ rfl);show wpAny _ _ (do callWith _ (<-eval _ env) [] _ _) _ _ _;refine aH ((fA (n:=n+1) (v:= .builtin "iter") (by walk_at"k") Ek (by exact rfl) (by decide+kernel) (by kernel_rfl)) _ A s _ E ai F.st λCA WJ A7 fm ga=>?_);rw[show CA= .builtin "iter" from A7];have Fa:=F.ext fm ga;refine C6 (ps:=[seq]) (es:=[.Name "sequence" _]) ai Fa.st (aK.cons (by walk_at"e") aK.nil rfl) rfl λvs au bb az aF=>?_;have aX:=Fa.ext az aF;refine bj bb λv _ aD aq a8=>?_;subst aD;rw[show _=[] from a8];refine K3 (gk _ A.in1 au v _ E (ai.in1.le (c0 _)) aF aX.st.low aq λbh fp wr P T aL aR aY aW bD fl dQ dD kM b5=>?_);have bp:b1 w s₀ env W₀ ad (λa=>J a\/a∈wr) _ aL:=aX.oF aR aY (λa af=> .inl af) λa af aN=>by
  have af:=af.resolve_left aN;exact⟨fl a af,dD 0 _ bD a af,(dQ a (aW.sub a af)).2⟩
 refine bp.put (p:= .val (.ref bh)) rfl trivial (.inl (by walk_at"k")) λef dv gh=>?_;refine wpAny_execs_cons (Gl (Φ:=λer m'=>match er with | .next=>m'=(("value",acc 0)::("it",.val (.ref bh))::[("function",q),("sequence",seq),("initial",acc 0)]:Loc) |_=>False) (kB (c:=false) (bV.cmp (p:= .list l0) (h0▸Ev.name (bS (by decide+kernel) (by walk_at"l")) (by kernel_rfl)) (fL (by walk_at"k") JL (by kernel_rfl)) IL (by with_unfolding_all rfl)) (λh=>by injection h) (λ_=>bg.cons (jA (p:=acc 0) (by walk_at"e") (tD 0 (c0 _)) (.inl (by walk_at"k")) (bg.nil rfl) rfl))) ai dv λer c9 o=>?_);induction er with
 |next=>
  refine bj o λa3 m' gi mB oS=>?_;have oS:m'=_:=oS;subst oS;have vJ:∀{a3 m' s'},b1 w s₀ env W₀ a3 (λa=>J a\/a∈wr) m' s'->∀b∈wr,¬b4 env m' a3 b:=λaS b I z=>by
   refine eR (aS.eg b (.inr I)) λab ae aC bc=>?_;rcases z with z |⟨nm,z⟩ |⟨y,av,z⟩
   ·exact ae z
   ·exact aC nm b z rfl
   ·exact bc y av z
  have Bi:=gh.trans mB;have r8:T 0 c9.heap:=aW.frame 0 _ _ bD λb I o e=>by
   have aM:=(dQ b I).2;rcases kM b I with z |⟨⟨bZ,aO⟩,z⟩
   ·exact(Bi b o (vJ bp b z) aM e).1
   ·exact(Bi b o (λy=>z Be y.ky) aM e).1
  refine wpAny_execs_cons (wpAny_For ?_ (λ_=>rfl));refine(Ev.name (prog:=prog) (w:=w) (n:=n+1) (m:=(("value",acc 0)::("it",.val (.ref bh))::[("function",q),("sequence",seq),("initial",acc 0)]:Loc)) (p:= .val (.ref bh)) (by walk_at"l") (by kernel_rfl)) _ A c9 _ E ai gi.st λUY gP mI kg jM=>?_;rw[show UY= .ref bh from mI];have iX:=gi.ext kg jM;have rL:T 0 gP.heap:=aW.frame 0 _ _ r8 λb I o e=>kg.keep _ _ (dQ b I).2 e;refine aW.of_in1.self 0 gP _ E rL ?_;refine codeAny_mono (Ed (prog:=prog) (E:=E) (x:="element") (orelse:=[]) (Φ:=λer m'=>match er with | .next=>bM m' "value" (acc ps.length) |_=>False) (λj m'=>bM m' "value" (acc j)/\bM m' "function" q) ai aF (λa af=>aE (aX.st.low a (.dy af)) λRk _=>ah Rk λo e cF=>⟨o,e⟩) iX (((bC.ext aR).trans Bi).trans (.ext kg)) aW.of_in1 rL fl (λb I=>(dQ b I).2) dD (λb I=>(kM b I).imp id λQe=>aE Qe λa c=>⟨a,c Be⟩) b5 e0 (.inl (by walk_at"k")) ⟨a5,by walk_at"l"⟩
   (λj p m' aa QK=>aE QK λeD gH=>bg.cons (jA (p:=acc (j+1)) (Kg (Ev.name (bS (by kernel_rfl) gH) (by kernel_rfl)) aG (aK.cons (Ev.name (bS (by kernel_rfl) eD) (by kernel_rfl)) (aK.cons (Ev.name a5 (by kernel_rfl)) aK.nil rfl) rfl) (pT j p aa) rfl rfl) (tD (j+1) (i8 aa)) (.inl (by walk_at"k")) (bg.nil ⟨a5,bS (by kernel_rfl) (bS (by kernel_rfl) gH)⟩) rfl)) (λm' Ry=>aE Ry λeD _=>bg.nil eD)) λr mD o=>?_
  induction r with
  |error e=>exact o
  |ok f=>
   induction f with
   |next=>
    refine bj o λWD VF yz _ Bw=>?_;have Bw:bM VF "value" (acc ps.length):=Bw;refine wpAny_execs_cons (Gl (Φ:=λer _=>match er with | .ret z=>z=acc ps.length |_=>False) (df.ret (Ev.name Bw (by kernel_rfl)) (tD _ (ea _)) rfl) ai yz λer oA o=>?_);induction er with
    |next=>refine bj o λ_ _ _ _ z=>?_;exact z.elim
    |brk=>refine bj o λ_ _ _ _ z=>?_;exact z.elim
    |cont=>refine bj o λ_ _ _ _ z=>?_;exact z.elim
    |ret v=>exact kr _ _ o
   |brk=>refine bj o λ_ _ _ _ z=>?_;exact z.elim
   |cont=>refine bj o λ_ _ _ _ z=>?_;exact z.elim
   |ret v=>refine nI o λ_ _ _ _ _ z=>?_;exact z.elim
 |brk=>refine bj o λ_ _ _ _ z=>?_;exact z.elim
 |cont=>refine bj o λ_ _ _ _ z=>?_;exact z.elim
 |ret v=>refine nI o λ_ _ _ _ _ z=>?_;exact z.elim
theorem DG:nsIn (KF w) 3 "reduce"=some (some (.ref 73)):=by kernel_rfl
noncomputable def ng(rf:Str->Str)(row:List Str)(turn:Nat):List Str:=if rf (row.getD (row.length - 1) "") != row.getD (row.length - 1) "" then row++[Txt.slice (rf (row.getD turn "")) (some 1) none] else row
noncomputable def dU(rf:Str->Str)(host:Str):Nat->List Str
 |0=>[host]
 |j+1=>ng rf (dU rf host j) j
theorem LQ(rf:Str->Str)(host:Str)(j:Nat):∃r,dU rf host (j+1)=dU rf host j++r:=by
 show∃r,ng rf (dU rf host j) j=_;unfold ng;split
 ·exact⟨_,rfl⟩
 ·exact⟨[],by simp⟩
theorem Kr(rf:Str->Str)(host:Str)(j:Nat):∀d,∃r,dU rf host (j+d)=dU rf host j++r:=by
 intro ba;induction ba with
 |zero=>
  exact⟨[],by simp⟩
 |succ d aw=>
  refine aP aw λr h=>?_;refine aP (LQ rf host (j+d)) λr' h'=>?_;exact⟨r++r',by rw[<-Nat.add_assoc,h',h,h8]⟩
theorem wM(rf:Str->Str)(host:Str):∀j,(dU rf host j).length=j+1\/(0 < (dU rf host j).length/\(dU rf host j).length<=j+1/\(rf ((dU rf host j).getD ((dU rf host j).length - 1) "") != (dU rf host j).getD ((dU rf host j).length - 1) "")=false):=by
 intro ba;induction ba with
 |zero=>
  exact .inl rfl
 |succ j aw=>
  have e:dU rf host (j+1)=ng rf (dU rf host j) j:=rfl;induction I:(rf ((dU rf host j).getD ((dU rf host j).length - 1) "") != (dU rf host j).getD ((dU rf host j).length - 1) "") with
  |true=>
   rcases aw with h |⟨_,_,h⟩
   ·left
    rw[e];unfold ng;rw[aQ I,fB,h];rfl
   ·rw[I] at h;injection h
  |false=>
   have aD:dU rf host (j+1)=dU rf host j:=by rw[e];unfold ng;rw[aI (by rw[I];decide)]
   right
   rw[aD];rcases aw with h |⟨ab,ae,aC⟩
   ·exact⟨by walk_at"o",by walk_at"o",I⟩
   ·exact⟨ab,by walk_at"o",I⟩
theorem L2{rf:Str->Str}(bf:∀y∈dU rf host 5,d3 prog w 2 64 [.str y] (.str (rf y)))(hz:∀y∈dU rf host 5,(rf y).length<=sizeLine):d3 prog w 5 222 [.str host] (.list (aB (dU rf host 5))):=by
 refine d3.of (names:=["host"]) (m:=[("host",.str host)]) (c:=221) (by exact⟨rfl,rfl,rfl,rfl,rfl,rfl,rfl,ej (by kernel_rfl),rfl,rfl,rfl,kinds_of (by kernel_rfl),rfl,rfl,rfl,by dsimp only,by dsimp only,by kernel_rfl⟩) (bind1 λa=>by exact rfl) (by exact rfl) ⟨trivial,trivial⟩ (by exact rfl) ?_;intro env a9 ec fE d6;have aG:env.qual++("<lambda>":Str)="_law_climb.<locals>.<lambda>":=by rw[fE];decide+kernel
 have d7:iV 0 5 1=5:=by kernel_rfl
 have hlen:(f3 0 5 1).length=5:=by unfold f3;rw[bO,length_range,d7]
 have tf:∀j,j<=5->∀y∈dU rf host j,y∈dU rf host 5:=λj aN y av=>by
  refine aP (Kr rf host j (5 - j)) λr h=>?_;rw[show j+(5 - j)=5 by walk_at"o"] at h;rw[h];exact b6 _ av
 have de:sizeLine=2 ^ 24:=rfl;refine bg.cons (df.ret (p:= .list (aB (dU rf host 5))) (Ev.call (ps:=[_,.hj 0 5 1,.list (aB (dU rf host 0))]) (fL (by walk_at"k") DG (by kernel_rfl)) (.inr (.inr ⟨73,_,_,rfl,rfl,rfl⟩))
  (aK.cons (Ev.lam ec (P:=217) (by kernel_rfl) (.inl ⟨rfl,rfl,rfl,aG⟩) rfl (by kernel_rfl)) (aK.cons (Ev.call (fA (by walk_at"k") qQ (by exact rfl) (by decide+kernel) (by kernel_rfl)) (.inr (.inl ⟨"range",rfl⟩)) (aK.cons Ev.int aK.nil rfl) sA rfl rfl) (aK.cons (Ev.list (aK.cons (by walk_at"e") aK.nil rfl) (show(1:Nat)<=_ by decide)) aK.nil rfl) rfl) rfl) ?_ rfl rfl) d9 rfl)
 have key:∀P:FuncData->Prop,(∀j,j < 5->qv prog w 3 (.lam P) [.list (aB (dU rf host j)),.int j] (.list (aB (dU rf host (j+1)))))->Cl prog w 4 (.ref 73) [.lam P,.hj 0 5 1,.list (aB (dU rf host 0))] (.list (aB (dU rf host 5))):=λP b5=>by
  have red:=D8 (prog:=prog) (w:=w) (n:=2) (q:= .lam P) (seq:= .hj 0 5 1) (ps:=f3 0 5 1) (acc:=λj=> .list (aB (dU rf host j))) rfl (.inr ⟨_,rfl⟩) trivial (cw.hj (by kernel_rfl) (by decide+kernel)) trivial (λp aa=>by refine ah (bA.mp aa) λi _ aU=>?_;subst aU;exact trivial) (λj _=>d9) ?_
  ·rw[hlen] at red;exact red.cl
  ·intro j p aa;have Hy:j < 5:=by have:=i8 aa;exact Hd ‹_› rfl
   have gZ:p= .int j:=by
    unfold f3 at aa;rw[eb] at aa;refine ah (h7.mp aa) λi hi a7=>?_;subst a7;rw[getElem?_range (by rw[d7];exact Hy)] at hi;obtain rfl:=bT hi;congr 1;walk_at"o"
   subst gZ;exact b5 j Hy
 refine key _ λj aN=>?_;refine qv.lam (names:=["row","turn"]) (by rintro fd ⟨pm,iL,ji,rfl⟩;exact⟨rfl,rfl,rfl,rfl,rfl,sZ λa b=>by exact rfl⟩) rfl (by decide+kernel) (by decide+kernel) (by decide+kernel) (by kernel_rfl) rfl rfl rfl ⟨d9,trivial,trivial⟩ d9 ?_;intro nE tR;show Ev prog w 2 nE [("row",ak.list (aB (dU rf host j))),("turn",ak.int j)] _ _;have CF:(aB (dU rf host j)).length<=sizeLine:=by rw[cz];rcases wM rf host j with h |⟨_,h,_⟩<;>walk_at"o"
 have u7:0 < (dU rf host j).length:=by rcases wM rf host j with h |⟨h,_,_⟩<;>walk_at"o"
 have fq:=tf j (by exact Nat.le_of_lt ‹_›);generalize lg:dU rf host j=row at*;have AQ:∀i,i < row.length->row.getD i ""∈row/\(aB row)[i]? =some (.str (row.getD i "")):=λi hi=>by
  rw[c7,cm hi];exact⟨getElem_mem hi,by simp[aB,getElem?_map,getElem?_eq_getElem hi]⟩
 have Fh:∀{bX cf fU fG:Pos} {k:Nat},Ev prog w 2 nE [("row",ak.list (aB row)),("turn",ak.int j)] (.Subscript (.Name "row" bX) (.UnaryOp .USub (.Constant (.int 1) k cf) fU) fG) (.str (row.getD (row.length - 1) "")):=by
  intros
  refine Ev.item (k:= .int (-1)) (Ev.name (by exact rfl) (by kernel_rfl)) (lN Ev.int) Typed.list fN.lookup (C5 (by decide) (by rw[cz];walk_at"o") ?_ CF) λ_ _=>rfl;rw[cz,show((-1:Int)+(row.length:Nat)).toNat=row.length - 1 by walk_at"o"];exact(AQ _ (by walk_at"o")).2
 have Fj:∀{e:Expr} {y:Str} {bX pos:Pos} (he:Ev prog w 2 nE [("row",ak.list (aB row)),("turn",ak.int j)] e (.str y)) (hs:starEach [e] nE=[(false,eval e nE)]) (fu:eval (.Call (.Name "reach" bX) [e] [] pos) nE=(do callWith pos (<-eval (.Name "reach" bX) nE) [] (backTo pos (starEach [e] nE)) (backToKw pos (keywordEach [] nE)))),y∈row->Ev prog w 2 nE [("row",ak.list (aB row)),("turn",ak.int j)] (.Call (.Name "reach" bX) [e] [] pos) (.str (rf y)):=by
  intro e y bX pos he hs fu av;exact Ev.call (fL (qT tR (by decide) (by kernel_rfl)) KU (by kernel_rfl)) (.inr (.inr ⟨64,_,_,rfl,rfl,rfl⟩)) (aK.cons he aK.nil (by rw[hs];rfl)) (bf y (fq y av)).cl (by rw[hs];rfl) fu
 have PQ:dU rf host (j+1)=ng rf row j:=by rw[<-lg];rfl
 rw[PQ];unfold ng;refine Du (c:=rf (row.getD (row.length - 1) "") != row.getD (row.length - 1) "") (bV.cmp (Fj Fh rfl rfl (AQ _ (by walk_at"o")).1) Fh Ea (by with_unfolding_all rfl)) (λU=>?_) λU=>?_
 ·rw[aQ U,j5];have qg:j < row.length:=by
   have:=wM rf host j;rw[lg] at this;rcases this with h |⟨_,_,h⟩
   ·walk_at"o"
   ·rw[U] at h;injection h
  have CI:=AQ j qg;refine d8 (Ev.name (by exact rfl) (by kernel_rfl)) (Ev.list (ps:=[.str (Txt.slice (rf (row.getD j "")) (some 1) none)]) (aK.cons (y3 (Fj (Ev.item (k:= .int j) (Ev.name (by exact rfl) (by kernel_rfl)) (Ev.name (by exact rfl) (by kernel_rfl)) Typed.list fN.lookup (cA.item (by exact nq _) (by rw[Int.toNat_natCast];exact CI.2) CF) λ_ _=>rfl) rfl rfl CI.1) Ev.int (hz _ (fq _ CI.1))) aK.nil rfl) (show(1:Nat)<=_ by decide)) (ue (by show _+1<=_;rw[cz] at CF ⊢;rcases wM rf host j with h |⟨_,h,_⟩<;>rw[lg] at h<;>walk_at"o"))
 ·rw[aI (by rw[U];decide)];exact Ev.name (by exact rfl) (by kernel_rfl)
open AutoSeq1 (wpAny_loadPart')
open MeetsSeq MeetsSeq3
noncomputable abbrev dh(x y:Value)(n:Nat):Obj:={cls:= .type "list",data:= .seq #[x,y] n}
noncomputable def lX(x y gx g4:Int):Bool:=decide (x < gx)||(x==gx&&decide (y < g4))
theorem E7{a b:Int}{t:Tok}(h:Q (.bool (decide (a < b))) s):wpAny (model prog w) A (richCompare .Lt (.int a t) (.int b u)) Q E s:=by
 have:=PyProof.Rows.lt_int (prog:=prog) (w:=w) (A:=A) (s:=s) (a:=a) (b:=b) (t:=t) (u:=u) (Q:=Q) (E:=E) h;exact this
section
variable {a b:Addr} {x y gx g4:Int} {t1 fa t3 lH:Tok} {n il:Nat}
theorem Mu:Meets (Builtin.«list.__eq__.loop» ⟨[.ref a,.ref b,rawInt 2,rawInt 0],[]⟩)
  (λ_ R s=>s.heap.get? a=some (dh (.int x t1) (.int y fa) n)/\s.heap.get? b=some (dh (.int gx t3) (.int g4 lH) il)/\R (.ok (.ret (.bool false))) s):=by
 intro prog w A R s h;obtain⟨aa,g,d,tk,os⟩:=s;refine cB h λao I h=>?_
 wp_walk using wpAny_loadPart' ao,wpAny_loadPart' I
 exact h
theorem M3:Meets (Builtin.«list.__eq__.loop» ⟨[.ref a,.ref b,rawInt 1,rawInt 0],[]⟩)
  (λ_ R s=>s.heap.get? a=some (dh (.int x t1) (.int y fa) n)/\s.heap.get? b=some (dh (.int gx t3) (.int g4 lH) il)/\R (.ok (.ret (.bool (decide (y < g4))))) s):=by
 intro prog w A R s h;obtain⟨aa,g,d,tk,os⟩:=s;refine cB h λao I h=>?_
 wp_walk using wpAny_loadPart' ao,wpAny_loadPart' I
 show wpAny _ _ (eqBool (.int y fa) (.int g4 lH)) _ _ _;refine wpAny_eqBool_int ?_;by_cases e:y=g4
 ·subst e;rw[gW]
  wp_walk
  exact⟨plainId_quiet plain_eq_loop _,codeAny_builtin entry_eq_loop (by
   rw[Around.under_plainId plain_eq_loop _];exact Mu prog w A R _ ⟨ao,I,by simpa using h⟩)⟩
 ·rw[eF.mpr e,aI (by decide)];refine aH (listItems_at ao rfl (aH (listItems_at I rfl ?_)));show wpAny _ _ (do let r<-richCompare .Lt (.int y fa) (.int g4 lH);ret r) _ _ _;exact aH (E7 (bu h))
theorem MM:Meets (Builtin.«list.__eq__.loop» ⟨[.ref a,.ref b,rawInt 0,rawInt 0],[]⟩)
  (λ_ R s=>s.heap.get? a=some (dh (.int x t1) (.int y fa) n)/\s.heap.get? b=some (dh (.int gx t3) (.int g4 lH) il)/\R (.ok (.ret (.bool (lX x y gx g4)))) s):=by
 intro prog w A R s h;obtain⟨aa,g,d,tk,os⟩:=s;refine cB h λao I h=>?_;unfold lX at h
 wp_walk using wpAny_loadPart' ao,wpAny_loadPart' I
 show wpAny _ _ (eqBool (.int x t1) (.int gx t3)) _ _ _;refine wpAny_eqBool_int ?_;by_cases e:x=gx
 ·subst e;rw[gW]
  wp_walk
  exact⟨plainId_quiet plain_eq_loop _,codeAny_builtin entry_eq_loop (by
   rw[Around.under_plainId plain_eq_loop _];exact M3 prog w A R _ ⟨ao,I,by simpa using h⟩)⟩
 ·rw[eF.mpr e] at h;rw[eF.mpr e,aI (by decide)];refine aH (listItems_at ao rfl (aH (listItems_at I rfl ?_)));show wpAny _ _ (do let r<-richCompare .Lt (.int x t1) (.int gx t3);ret r) _ _ _;exact aH (E7 (bu (by simpa using h)))
theorem MH:Meets (Builtin.«list.__lt__» ⟨[.ref a,.ref b],[]⟩)
  (λ_ R s=>s.heap.get? a=some (dh (.int x t1) (.int y fa) n)/\s.heap.get? b=some (dh (.int gx t3) (.int g4 lH) il)/\R (.ok (.ret (.bool (lX x y gx g4)))) s):=by
 intro prog w A R s h;obtain⟨aa,g,d,tk,os⟩:=s;refine cB h λao I h=>?_;have t5:=AutoSeq1.sub_list_list
 wp_walk using wpAny_loadPart' ao,wpAny_loadPart' I
 exact⟨plainId_quiet plain_eq_loop _,codeAny_builtin entry_eq_loop (by
  rw[Around.under_plainId plain_eq_loop _];exact MM prog w A R _ ⟨ao,I,h⟩)⟩
theorem Mr{Q:Bool->Shared->Prop}(bE:A.units < cLine)(af:s.heap.get? a=some (dh (.int x t1) (.int y fa) n))(I:s.heap.get? b=some (dh (.int gx t3) (.int g4 lH) il))(h:Q (lX x y gx g4) s):
  wpAny (model prog w) A (oneLt' true (.ref a) (.ref b)) Q E s:=by
 rw[oneLt'_eq];simp only[if_true];refine aH (wpAny_cRoomFor bE ?_);refine aH (wpAny_callSpecialIfBound?_slot (T:="list") ⟨_,af,rfl⟩ PySem.F.slot_list_lt (call_meets PySem.F.slot_list_lt ⟨_,af,rfl⟩ PySem.F.entry_list_lt (PySem.F.args_list_lt_2 _ _) MH ⟨af,I,?_⟩));exact mu h
end
noncomputable def kv(K:Nat->Int)(p:Array Nat)(i:Nat):Int:=K (p.getD i 0)
def jO(K:Nat->Int)(p:Array Nat)(m:Nat):Prop:=∀i j,i < j->j < m->kv K p i < kv K p j
def Au(K:Nat->Int)(p:Array Nat)(m:Nat):Prop:=∀i j,i < j->j < m->kv K p j < kv K p i
structure fO (n:Nat) (p:Array Nat):Prop where
 size:p.size=n
 perm:p.toList.Perm (range n)
section
variable {K:Nat->Int} {n:Nat} {cmp:Nat->Nat->(Bool->Shared->Prop)->Shared->Prop} {s:Shared}
theorem fO.lt{p:Array Nat}(h:fO n p)(hi:i < n):p.getD i 0 < n:=by
 have fv:i < p.size:=by rw[h.size];exact hi
 have e:p.getD i 0=p[i]:=by simp[Array.getD,fv]
 rw[e];exact j6.mp (h.perm.mem_iff.mp (by simp))
theorem fO.inj{p:Array Nat}(h:fO n p){j:Nat}(hi:i < n)(aN:j < n)(e:p.getD i 0=p.getD j 0):i=j:=by
 have fv:i < p.size:=by rw[h.size];exact hi
 have qg:j < p.size:=by rw[h.size];exact aN
 have Cq:p.getD i 0=p[i]:=by simp[Array.getD,fv]
 have CH:p.getD j 0=p[j]:=by simp[Array.getD,qg]
 rw[Cq,CH] at e;have nd:p.toList.Nodup:=h.perm.nodup_iff.mpr nodup_range;exact(getElem_inj (xs:=p.toList) (h₀:=by exact fv) (h₁:=by exact qg) nd).mp (by exact e)
theorem fO.ne(bx:∀i j,i < n->j < n->K i=K j->i=j){p:Array Nat}(h:fO n p){j:Nat}(hi:i < n)(aN:j < n)(e:i≠j):kv K p i≠kv K p j:=λq=>e (h.inj hi aN (bx _ _ (h.lt hi) (h.lt aN) q))
theorem fO.of{p q:Array Nat}(h:fO n p)(aG:q.Perm p):fO n q:=⟨by rw[aG.size_eq,h.size],(Array.perm_iff_toList_perm.mp aG).trans h.perm⟩
theorem wU{p q:Array Nat}{j:Nat}(e:p[i]? =q[j]?):kv K p i=kv K q j:=by
 unfold kv;rw[Array.getD_eq_getD_getElem?,Array.getD_eq_getD_getElem?,e]
variable (bx:∀i j,i < n->j < n->K i=K j->i=j) (U:∀i j C,i < n->j < n->C (decide (K i < K j)) s->cmp i j C s)
include bx U
theorem EY:∀(f:Nat) (p:Array Nat) (m:Nat) {Q:Nat->Shared->Prop},fO n p->jO K p m->1<=m->m+f=n->(∀m',m<=m'->m'<=n->jO K p m'->(m'=n\/(m' < n/\kv K p m' < kv K p (m' - 1)))->Q m' s)->(kas_asc p f m).kasWp cmp Q s:=by
 intro ba;induction ba with
 |zero=>
  intro p m Q aa hi ab hm h;exact h m (ea _) (by walk_at"o") hi (.inl (by walk_at"o"))
 |succ f aw=>
  intro p m Q aa hi ab hm h;show cmp (p.getD m 0) (p.getD (m - 1) 0) (λc s'=>(if c=true then .ret m else kas_asc p f (m+1):KasT Nat).kasWp cmp Q s') s;refine U _ _ _ (aa.lt (by walk_at"o")) (aa.lt (by walk_at"o")) ?_;by_cases cu:kv K p m < kv K p (m - 1)
  ·rw[eu (show K (p.getD m 0) < K (p.getD (m - 1) 0) from cu)];show KasT.kasWp cmp (if true=true then _ else _) Q s;rw[aQ rfl];exact h m (ea _) (by walk_at"o") hi (.inr ⟨by walk_at"o",cu⟩)
  ·rw[decide_eq_false (show¬K (p.getD m 0) < K (p.getD (m - 1) 0) from cu)];show KasT.kasWp cmp (if false=true then _ else _) Q s;rw[aI (by decide)];have bY:=aa.ne bx (i:=m) (j:=m - 1) (by walk_at"o") (by walk_at"o") (by walk_at"o");refine aw p (m+1) aa (λi j nQ aN=>?_) (by exact gc rfl) (by walk_at"o") λm' a b c d=>h m' (by exact lP ‹_›) b c d;by_cases e:j=m
   ·subst e;by_cases aD:i=j - 1
    ·subst aD;walk_at"o"
    ·have:=hi i (j - 1) (by walk_at"o") (by walk_at"o");walk_at"o"
   ·exact hi i j nQ (by walk_at"o")
theorem L0:∀(f:Nat) (p:Array Nat) (m:Nat) {Q:Array Nat×Nat×Nat->Shared->Prop},fO n p->Au K p m->2<=m->m+f=n->(∀m',m<=m'->m'<=n->Au K p m'->Q (p,m',0) s)->(kas_desc f p m 0).kasWp cmp Q s:=by
 intro ba;induction ba with
 |zero=>
  intro p m Q aa hi ab hm h;exact h m (ea _) (by walk_at"o") hi
 |succ f aw=>
  intro p m Q aa hi ab hm h;show cmp (p.getD m 0) (p.getD (m - 1) 0) (λc s'=>(if c=true then(if 0 > 0 then kas_desc f (kas_rev p (m - (0+1)) m) (m+1) 0 else kas_desc f p (m+1) 0)
   else .ask (p.getD (m - 1) 0) (p.getD m 0) λd=>if d=true then .ret (p,m,0) else kas_desc f p (m+1) (0+1):KasT _).kasWp cmp Q s') s
  refine U _ _ _ (aa.lt (by walk_at"o")) (aa.lt (by walk_at"o")) ?_;have bY:=aa.ne bx (i:=m) (j:=m - 1) (by walk_at"o") (by walk_at"o") (by walk_at"o");by_cases cu:kv K p m < kv K p (m - 1)
  ·rw[eu (show K (p.getD m 0) < K (p.getD (m - 1) 0) from cu)];show KasT.kasWp cmp (if true=true then _ else _) Q s;rw[aQ rfl,aI (by decide)];refine aw p (m+1) aa (λi j nQ aN=>?_) (by walk_at"o") (by walk_at"o") λm' a b c=>h m' (by exact lP ‹_›) b c;by_cases e:j=m
   ·subst e;by_cases aD:i=j - 1
    ·subst aD;exact cu
    ·have:=hi i (j - 1) (by walk_at"o") (by walk_at"o");walk_at"o"
   ·exact hi i j nQ (by walk_at"o")
  ·rw[decide_eq_false (show¬K (p.getD m 0) < K (p.getD (m - 1) 0) from cu)];show KasT.kasWp cmp (if false=true then _ else _) Q s;rw[aI (by decide)];refine U _ _ _ (aa.lt (by walk_at"o")) (aa.lt (by walk_at"o")) ?_;rw[eu (show K (p.getD (m - 1) 0) < K (p.getD m 0) by show kv K p (m - 1) < kv K p m;walk_at"o")];show KasT.kasWp cmp (if true=true then _ else _) Q s;rw[aQ rfl];exact h m (ea _) (by walk_at"o") hi
theorem Lc{p:Array Nat}{m:Nat}{Q:Nat×Array Nat->Shared->Prop}(aa:fO n p)(hi:Au K p m)(ab:1<=m)(hm:m<=n)(h:∀m' q,1<=m'->m'<=n->fO n q->jO K q m'->Q (m',q) s):(kas_tail3 m n p).kasWp cmp Q s:=by
 unfold kas_tail3;rw[KasT.kasWp_bind];have aG:fO n (kas_rev p 0 m):=aa.of (mirror_perm _ _ _ _);have rr:jO K (kas_rev p 0 m) m:=λi j nQ aN=>by
  have e:∀k,k < m->kv K (kas_rev p 0 m) k=kv K p (m - 1 - k):=λk ar=>wU (by
   unfold kas_rev;rw[getElem?_mirror_all (by rw[aa.size];exact hm),aQ ⟨c0 _,ar⟩];congr 1;walk_at"o")
  rw[e i (by exact Nat.lt_trans ‹_› ‹_›),e j aN];exact hi _ _ (by walk_at"o") (by walk_at"o")
 exact EY bx U _ _ m aG rr ab (by walk_at"o") λm' a b c d=>h m' _ (by walk_at"o") b aG c
theorem Lk{p:Array Nat}{Q:Nat×Array Nat->Shared->Prop}(aa:fO n p)(ae:2<=n)(h:∀m' q,1<=m'->m'<=n->fO n q->jO K q m'->Q (m',q) s):(kas_count n p).kasWp cmp Q s:=by
 unfold kas_count;rw[KasT.kasWp_bind];refine EY bx U _ p 1 aa (λi j nQ aN=>by walk_at"o") (by exact gc rfl) (by walk_at"o") λm a b hi d=>?_;by_cases e:m=n
 ·rw[aQ (by walk_at"o")];exact h m p a b aa hi
 ·rw[aI (by walk_at"o")];have d:=d.resolve_left e;by_cases g:m > 1
  ·rw[aQ g];refine U _ _ _ (aa.lt (by walk_at"o")) (aa.lt (by walk_at"o")) ?_;rw[eu (show K (p.getD 0 0) < K (p.getD (m - 1) 0) from hi 0 (m - 1) (by walk_at"o") (by walk_at"o"))];show KasT.kasWp cmp (if true=true then _ else _) Q s;rw[aQ rfl];exact h m p a b aa hi
  ·rw[aI g];have hm:m=1:=by walk_at"o"
   subst hm;unfold kas_descPart;rw[KasT.kasWp_bind];refine L0 bx U _ p 2 aa (λi j nQ aN=>?_) (by exact gc rfl) (by walk_at"o") λm' n3 CC hd=>?_
   ·have:i=0:=by walk_at"o"
    have:j=1:=by walk_at"o"
    subst i j;exact d.2
   ·dsimp only;rw[aI (by decide)];exact Lc bx U aa hd (by exact lP ‹_›) CC h
theorem K8{p:Array Nat}{k:Nat}(aa:fO n p)(ar:k < n):∀(f l r:Nat) {Q:Nat->Shared->Prop},l<=r->r<=k->r - l<=f->(∀i,i < l->kv K p i < kv K p k)->(∀i,r<=i->i < k->kv K p k < kv K p i)->jO K p k->(∀l',l'<=k->(∀i,i < l'->kv K p i < kv K p k)->(∀i,l'<=i->i < k->kv K p k < kv K p i)->Q l' s)->(kas_place p k f l r).kasWp cmp Q s:=by
 intro ba;induction ba with
 |zero=>
  intro l r Q SO o3 hf hY jh rr h;exact h l (by walk_at"o") hY λi a b=>jh i (by walk_at"o") b
 |succ f aw=>
  intro l r Q SO o3 hf hY jh rr h;unfold kas_place;by_cases g:l>=r
  ·rw[aQ g];exact h l (by walk_at"o") hY λi a b=>jh i (by walk_at"o") b
  ·rw[aI g];refine U _ _ _ (aa.lt ar) (aa.lt (by walk_at"o")) ?_;have xw:(l+r) / 2 < k:=by walk_at"o"
   have bY:=aa.ne bx (i:=k) (j:=(l+r) / 2) ar (by exact Nat.lt_trans ‹_› ‹_›) (by walk_at"o");by_cases cu:kv K p k < kv K p ((l+r) / 2)
   ·rw[eu (show K (p.getD k 0) < K (p.getD ((l+r) / 2) 0) from cu)];show KasT.kasWp cmp (if true=true then _ else _) Q s;rw[aQ rfl];refine aw l ((l+r) / 2) (by walk_at"o") (by exact Nat.le_of_lt ‹_›) (by walk_at"o") hY (λi a b=>?_) rr h;by_cases e:i=(l+r) / 2
    ·subst e;exact cu
    ·have:=rr ((l+r) / 2) i (by walk_at"o") b;walk_at"o"
   ·rw[decide_eq_false (show¬K (p.getD k 0) < K (p.getD ((l+r) / 2) 0) from cu)];show KasT.kasWp cmp (if false=true then _ else _) Q s;rw[aI (by decide)];refine aw ((l+r) / 2+1) r (by walk_at"o") (by assumption) (by walk_at"o") (λi a=>?_) jh rr h;by_cases e:i=(l+r) / 2
    ·subst e;walk_at"o"
    ·have:=rr i ((l+r) / 2) (by walk_at"o") xw;walk_at"o"
theorem NM:∀(f:Nat) (p:Array Nat) (k:Nat) {Q:Array Nat->Shared->Prop},fO n p->jO K p k->k+f=n->(∀q,fO n q->jO K q n->Q q s)->(kas_bin f p k).kasWp cmp Q s:=by
 intro ba;induction ba with
 |zero=>
  intro p k Q aa hi ar h;exact h p aa (by rw[<-ar];exact hi)
 |succ f aw=>
  intro p k Q aa hi ar h;show((kas_place p k k 0 k).bind λl=>kas_bin f (bubble p k (k - l)) (k+1)).kasWp cmp Q s;rw[KasT.kasWp_bind];refine K8 bx U aa (by walk_at"o") k 0 k (by exact gc rfl) (by walk_at"o") (by walk_at"o") (λi a=>by walk_at"o") (λi a b=>by walk_at"o") hi λl ao hY jh=>?_;refine aw _ (k+1) (aa.of (bubble_perm _ _ _)) (λi j nQ aN=>?_) (by walk_at"o") h;have e:∀i,i<=k->kv K (bubble p k (k - l)) i=if i=l then kv K p k else if l < i then kv K p (i - 1) else kv K p i:=λi hi=>by
   have g:=getElem?_bubble (xs:=p) (src:=k) (by rw[aa.size];walk_at"o") (k - l) (by walk_at"o") i;rw[show k - (k - l)=l by walk_at"o"] at g;replace g:=g;by_cases ab:i=l
   ·rw[aQ ab] at g ⊢;exact wU g
   ·rw[aI ab] at g ⊢;replace g:=g;by_cases ae:l < i
    ·rw[aQ ⟨ae,hi⟩] at g;rw[aQ ae];exact wU g
    ·rw[aI (λq=>ae q.1)] at g;rw[aI ae];exact wU g
  rw[e i (by walk_at"o"),e j (by walk_at"o")];by_cases hK:i=l
  ·rw[aQ hK,aI (by walk_at"o"),aQ (by walk_at"o")];exact jh _ (by walk_at"o") (by walk_at"o")
  ·rw[aI hK];by_cases h2:l < i
   ·rw[aQ h2,aI (by walk_at"o"),aQ (by exact Nat.lt_trans ‹_› ‹_›)];exact hi _ _ (by walk_at"o") (by walk_at"o")
   ·rw[aI h2];by_cases pd:j=l
    ·rw[aQ pd];exact hY _ (by exact Nat.lt_of_lt_of_eq ‹_› ‹_›)
    ·rw[aI pd];by_cases yH:l < j
     ·rw[aQ yH];by_cases CQ:i < j - 1
      ·exact hi _ _ CQ (by walk_at"o")
      ·walk_at"o"
     ·rw[aI yH];exact hi _ _ nQ (by walk_at"o")
theorem ML{Q:Array Nat->Shared->Prop}(ae:2<=n)(h:∀q,fO n q->jO K q n->Q q s):(kas_sort n).kasWp cmp Q s:=by
 unfold kas_sort;rw[KasT.kasWp_bind];have aa:fO n (List.toArray (range n)):=⟨by simp,by simp⟩
 refine Lk bx U aa ae λm q ab hm aG hi=>?_;dsimp only;by_cases g:m < n
 ·rw[aQ g,show max m 1=m by walk_at"o"];exact NM bx U _ q m aG hi (by walk_at"o") h
 ·rw[aI g];have:m=n:=by exact Nat.le_antisymm ‹_› (Nat.not_lt.mp ‹_›)
  subst this;exact h q aG hi
end
section
variable {prog:Program} {w:World}
theorem w7{b:Addr}{o:Obj}(g:G w s.heap)(e:Ext s s')(gv:G w s'.heap)(aA:s.heap.get? b=none)(aj:s'.heap.get? b=some o)(hd:∀vs,o.data≠ .fields vs)(hs:SameBut b s'.heap h'):
  Ext s {s' with heap:=h',toks:=tk}/\G w h':=by
 refine cn e.same λh₁ VZ az=>?_;refine⟨⟨⟨h',tk,by rw[az]⟩,λc cP U q=>?_⟩,g.set gv aA aj hd hs⟩;exact hs.extBut c cP (λz=>by subst z;rw[aA] at q;injection q) (e.keep c cP U q)
structure yC (w:World) (s:Shared) (W:Addr->Prop) (a kS:Addr) (hr ht:Nat->Int) (xs:Array Value) (ax:Nat) (j:Nat) (s':Shared):Prop where
 ext:Ext s s'
 g:G w s'.heap
 na:s.heap.get? a=Option.none
 m8:s.heap.get? kS=Option.none
 ne:a≠kS
 eM:s'.heap.get? a=some (seqObj "list" xs ax)
 lk:∃ks c,s'.heap.get? kS=some (seqObj "list" (List.toArray ks) c)/\ks.length=j/\∀i v,ks[i]? =some v->∃k t1 fa n,v= .ref k/\k≠a/\k≠kS/\s'.heap.get? k=some (dh (.int (hr i) t1) (.int (ht i) fa) n)
theorem sL{c:String} :∀vs,(seqObj c xs n).data≠ .fields vs:=λvs q=>by injection q
def Nj(w:World)(s:Shared)(vs:List Value)(K:Nat->Int)(Q:Value->Shared->Prop):Prop:=
 ∀D out n p s',Ext s s'->G w s'.heap->s.heap.get? D=none->s'.heap.get? D=some (seqObj "list" (List.toArray out) n)->fO vs.length p->jO K p vs.length->out=p.toList.map (λi=>vs.getD i Value.none)->Q (.ref D) s'
variable {s:Shared} {W:Addr->Prop} {hr ht K:Nat->Int} {vs:List Value} {A:Around} {E:Value->Shared->Prop} {Q:Value->Shared->Prop} {a kS:Addr} {ax:Nat}
theorem EZ{st:SortSt}{p:Array Nat}{P:PySem.Fin->Shared->Prop}(g:G w s.heap)(mJ:vs.length < 64)(H:yC w s W a kS hr ht #[] ax vs.length s')(aa:fO vs.length p)(hi:jO K p vs.length)(By:(arrOf st).map (·.2)=List.toArray (p.toList.map λi=>vs.getD i Value.none))(hf:failedOf st=none)
  (h:∀out n s',Ext s s'->G w s'.heap->s'.heap.get? a=some (seqObj "list" (List.toArray out) n)->fO vs.length p->jO K p vs.length->out=p.toList.map (λi=>vs.getD i Value.none)->P (.done (.ret .none)) s'):wpAny (model prog w) A (ksk_tail a false ax (.ref kS) st) P E s':=by
 refine bj H.lk λks c ar ao _=>?_;have s1:=SameBut.update s'.heap kS (Obj.mapSeq λ_=>(#[]:Array Value));have n4:=w7 (tk:=s'.toks) g H.ext H.g H.m8 ar sL s1;have xU:(s'.heap.update kS (Obj.mapSeq λ_=>(#[]:Array Value))).get? a=some (seqObj "list" #[] ax):=(s1.2 a H.ne).trans H.eM;have s2:=SameBut.update (s'.heap.update kS (Obj.mapSeq λ_=>(#[]:Array Value))) a (Obj.mapSeq λ_=>List.toArray (p.toList.map λi=>vs.getD i Value.none));have Iq:=w7 (tk:=s'.toks) g n4.1 n4.2 H.na xU sL s2;have de:sizeLine=2 ^ 24:=rfl;unfold ksk_tail
 try dsimp only
 rw[By];refine aH (listUpdate_at ar rfl ?_ (by rw[mm];walk_at"o") (c0 _));refine aH (wpAny_letGo ?_);refine aH (seqEpoch_at xU rfl ?_);refine aH (listUpdate_at xU rfl ?_ (c0 _) (by simp only[Bool.false_eq_true,if_false,List.size_toArray,length_map,Array.length_toList,aa.size];exact bH (Nat.le_of_lt ‹_›) rfl));rw[hf];simp only[bne_self_eq_false,Bool.false_eq_true,if_false];exact bu (h _ _ _ Iq.1 Iq.2 (get?_update_seq xU _) aa hi rfl)
theorem OK{P:PySem.Fin->Shared->Prop}(g:G w s.heap)(mJ:vs.length < 64)(ai:A.units < cLine){ks:List Value}{c:Nat}(H:yC w s W a kS hr ht #[] ax vs.length s')(ar:s'.heap.get? kS=some (seqObj "list" (List.toArray ks) c))(ao:ks.length=vs.length)(rW:∀i v,ks[i]? =some v->∃k t1 fa n,v= .ref k/\s'.heap.get? k=some (dh (.int (hr i) t1) (.int (ht i) fa) n))
  (bx:∀i j,i < vs.length->j < vs.length->K i=K j->i=j) (mE:∀i j,i < vs.length->j < vs.length->lX (hr i) (ht i) (hr j) (ht j)=decide (K i < K j))
  (h:∀p out n s',Ext s s'->G w s'.heap->s'.heap.get? a=some (seqObj "list" (List.toArray out) n)->fO vs.length p->jO K p vs.length->out=p.toList.map (λi=>vs.getD i Value.none)->P (.done (.ret .none)) s'):wpAny (model prog w) A (ksk_end a false vs.toArray ax (.ref kS) (List.toArray ks)) P E s':=by
 unfold ksk_end
 try dsimp only
 simp only[Bool.false_eq_true,if_false];by_cases ae:vs.toArray.size < 2
 ·rw[aQ ae,aQ ae];refine aH (bu ?_);rw[StateT.run_pure];refine aH (bu ?_)
  try dsimp only
  rw[mm] at ae;have aa:fO vs.length (List.toArray (range vs.length)):=⟨by simp,by simp⟩
  refine EZ g mJ H aa (λi j ab aC=>by walk_at"o") ?_ rfl (h _);have e:=kas_range ((List.toArray ks).zip vs.toArray);rw[show((List.toArray ks).zip vs.toArray).size=vs.length by simp[ao]] at e;exact kat_snds ao (by rw[e])
 ·rw[aI ae,aI ae];rw[mm] at ae;refine aH (kas_kind (T:= .type "list") (by walk_at"o") (λv aq=>?_) (by decide) (by decide) ?_)
  ·refine aP (List.mem_iff_getElem?.mp aq) λi hi=>?_;refine xD (rW i v hi) λk t1 fa n aU Bm=>?_;subst aU;exact(Looks.ld Bm).andThen .now
  refine aH (dV (kat_run (ks:=ks) (vs:=vs) (κ:=oneType') (Q:=λtl b2=>b2=s'/\∃p:Array Nat,fO vs.length p/\jO K p vs.length/\arrOf tl=p.map (kas_item ((List.toArray ks).zip vs.toArray))/\failedOf tl=none) (G:=λp b2=>b2=s'/\fO vs.length p/\jO K p vs.length) ao (by walk_at"o") mJ (λp tl b2 ax aD a8 bW=>⟨bW.1,p,bW.2.1,bW.2.2,aD,a8⟩) ?_) ?_ λ_ _ x=>x)
  ·refine ML bx ?_ (by walk_at"o") λq ab aC=>⟨rfl,ab,aC⟩
   intro i j C hi aN gu;obtain⟨U8,Ws,Wr,WU,Cq,pg⟩:=rW i ks[i] (cm (by walk_at"o"));obtain⟨WM,Wt,Wu,tV,CH,Va⟩:=rW j ks[j] (cm (by walk_at"o"));show wpAny _ _ (keyLt' oneType' (ks.getD i Value.none) (ks.getD j Value.none)) C _ _;rw[c7,c7,cm (by walk_at"o"),cm (show j < ks.length by walk_at"o"),getD_some,getD_some,Cq,CH,keyLt'_oneType];exact Mr ai pg Va (by rw[mE i j hi aN];exact gu)
  ·intro dg b2 e8;obtain⟨dr,tl⟩:=dg;obtain⟨⟩:=dr;obtain⟨e6,p,aa,hi,By,hf⟩:=e8;subst e6
   try dsimp only
   exact EZ g mJ H aa hi (kat_snds ao By) hf (h p)
theorem Nr{f:Value}{P:PySem.Fin->Shared->Prop}(g:G w s.heap)(mJ:vs.length < 64)(ai:A.units < cLine)(H:yC w s W a kS hr ht #[] ax 0 au)
  (bx:∀i j,i < vs.length->j < vs.length->K i=K j->i=j) (mE:∀i j,i < vs.length->j < vs.length->lX (hr i) (ht i) (hr j) (ht j)=decide (K i < K j))
  (turn:∀i v,vs[i]? =some v->∀(X:Addr->Prop) s',(∀b,X b->s.heap.get? b=none)->(∀b,X b->(∃o,s'.heap.get? b=some o/\cx o)/\¬cc b)->Ext s s'->G w s'.heap->∀(cJ:Value->Shared->Prop) (c6:Value->Shared->Prop),(∀u b2,a6 w b2.heap (λb=>W b\/X b) (.list [.int (hr i),.int (ht i)]) u->Ext s' b2->G w b2.heap->cJ u b2)->wpAny (model prog w) A (call f [v]) cJ c6 s')
  (h:∀p out n s',Ext s s'->G w s'.heap->s'.heap.get? a=some (seqObj "list" (List.toArray out) n)->fO vs.length p->jO K p vs.length->out=p.toList.map (λi=>vs.getD i Value.none)->P (.done (.ret .none)) s'):wpAny (model prog w) A (ksk_rest a f false vs.toArray ax (.ref kS)) P E au:=by
 have de:sizeLine=2 ^ 24:=rfl;unfold ksk_rest;refine aH (wpAny_rule ?_)
 first
  |rw[List.forIn_toArray]
  |(rw[<-Array.forIn_toList];simp only[List.toList_toArray])
  |rw[<-Array.forIn_toList]
 refine aH (ksk_fold (λi s'=>yC w s W a kS hr ht #[] ax i s') vs 0 au H ?step ?done)
 case step=>
  intro j x s' ag h1;rw[Nat.zero_add] at h1 ⊢;replace h1:=h1;have aN:j < vs.length:=i8 ag;have xn:∀{b},s.heap.get? b=none->¬cc b:=λI=>g.fC I;refine bj h1.lk λks c ar ao rW=>?_;refine aH (wpAny_attempt (turn j x ag (λb=>b=a\/b=kS) s' (λb I=>I.elim (λe=>e▸h1.na) λe=>e▸h1.m8) (λb I=>?_) h1.ext h1.g _ _ λu b2 bE e B5=>?_))
  ·rcases I with rfl |rfl
   ·exact⟨⟨_,h1.eM,.inr sL⟩,xn h1.na⟩
   ·exact⟨⟨_,ar,.inr sL⟩,xn h1.m8⟩
  ·refine cg bE λk H6 n a7 HY Tt aq=>?_;subst a7;refine bj aq λv1 gT dz bk b7=>?_;refine bj b7 λv2 fb bN bz hI=>?_;refine aP bk λt1 vl=>?_;refine aP bz λfa Ue=>?_;have hI:fb=[]:=hI;subst hI vl Ue bN dz;have cj:=e.keep _ _ (xn h1.m8) ar;have jR:=e.keep _ _ (xn h1.na) h1.eM;have bY:k≠a/\k≠kS:=⟨λq=>HY (.inr (.inl q)),λq=>HY (.inr (.inr q))⟩
   have s1:=SameBut.update b2.heap kS (Obj.mapSeq (·.push (.ref k)));have n4:=w7 (tk:=b2.toks) g (h1.ext.trans e) B5 h1.m8 cj sL s1
   try dsimp only
   refine aH (listUpdate_at cj rfl ?_ (by rw[mm];walk_at"o") (by rw[Array.size_push,mm];walk_at"o"));obtain⟨h2,tv⟩:∃h2,(b2.heap.update kS (Obj.mapSeq (·.push (.ref k)))).get? kS=some (seqObj "list" (List.toArray (ks++[.ref k])) h2):=⟨_,by rw[show List.toArray (ks++[.ref k])=(List.toArray ks).push (.ref k) by simp];exact get?_update_seq cj (·.push (.ref k))⟩
   refine bu ⟨rfl,n4.1,n4.2,h1.na,h1.m8,h1.ne,(s1.2 a h1.ne).trans jR,ks++[.ref k],h2,tv,by simp[ao],λi v mI=>?_⟩
   ·by_cases hi:i < ks.length
    ·rw[getElem?_append_left hi] at mI;refine xt (rW i v mI) λk' Vy U9 il cC ab ae aC=>?_;subst cC;have Bl:=e.keep _ _ (h1.g.gf aC eN) aC;exact⟨k',Vy,U9,il,rfl,ab,ae,(s1.2 k' ae).trans Bl⟩
    ·rw[getElem?_append_right (by walk_at"o")] at mI;replace mI:=mI;have Bc:i - ks.length=0:=by
      induction q:i - ks.length with
      |zero=>rfl
      |succ m=>rw[q] at mI;(focus (injection mI;done))
     rw[Bc] at mI;obtain rfl:=bT mI;have:i=j:=by walk_at"o"
     subst this;exact⟨k,t1,fa,n,rfl,bY.1,bY.2,(s1.2 k bY.2).trans Tt⟩
 case done=>
  intro s' wm;rw[Nat.zero_add] at wm;replace wm:=wm;refine bj wm.lk λks c ar ao rW=>?_
  try dsimp only
  refine aH (listItems_at ar rfl ?_);exact OK g mJ ai wm ar ao (λi v q=>xt (rW i v q) λk t1 fa n si _ _ CN=>⟨k,t1,fa,n,si,CN⟩) bx mE h
theorem KQ{l:Addr}{sh:Nat}{f:Value}(g:G w s.heap)(ao:s.heap.get? l=some {cls:= .type "list",data:= .seq ⟨vs⟩ sh})(mJ:vs.length < 64)(ai:A.in1.in1.units < cLine)
  (aM:∀x,Builtin.«list.sort» ⟨[.ref x],[(Str.ofString "key",f)]⟩=ksk_tree x f false)
  (bx:∀i j,i < vs.length->j < vs.length->K i=K j->i=j) (mE:∀i j,i < vs.length->j < vs.length->lX (hr i) (ht i) (hr j) (ht j)=decide (K i < K j))
  (turn:∀i v,vs[i]? =some v->∀(X:Addr->Prop) s',(∀b,X b->s.heap.get? b=none)->(∀b,X b->(∃o,s'.heap.get? b=some o/\cx o)/\¬cc b)->Ext s s'->G w s'.heap->∀(cJ:Value->Shared->Prop) (c6:Value->Shared->Prop),(∀u b2,a6 w b2.heap (λb=>W b\/X b) (.list [.int (hr i),.int (ht i)]) u->Ext s' b2->G w b2.heap->cJ u b2)->wpAny (model prog w) A.in1.in1 (call f [v]) cJ c6 s')
  (h:Nj w s vs K Q):wpAny (model prog w) A (call (.builtin "sorted") [.ref l] [(Str.ofString "key",f)]) Q E s:=by
 have de:sizeLine=2 ^ 24:=rfl;refine call_function_entry_kw kind_sorted plain_sorted entry_sorted (ksk_s1 _ _) ?_;unfold Builtin.«sorted»;refine aH (m:=checkCount "sorted" 1 1 _) (bu ?_);refine aH (collect_list (vs:=vs) ⟨_,ao,rfl,sh,rfl⟩ ?_ (by exact bH (Nat.le_of_lt ‹_›) rfl));refine aH (wpAny_newList ?_ (by exact bH (Nat.le_of_lt ‹_›) rfl));have hC:((s.heap.push (seqObj "list" #[] 0)).update s.heap.objs.size (Obj.mapSeq (· ++vs.toArray))).objs.size=s.heap.objs.size+1:=by
  rw[size_update,size_push']
 have vO:(((s.heap.push (seqObj "list" #[] 0)).update s.heap.objs.size (Obj.mapSeq (· ++vs.toArray))).push (seqObj "list" vs.toArray 0)).get? (s.heap.objs.size+1)=some (seqObj "list" vs.toArray 0):=by
  rw[<-hC];exact dc _ rfl
 have keep:∀b o,s.heap.get? b=some o->(((s.heap.push (seqObj "list" #[] 0)).update s.heap.objs.size (Obj.mapSeq (· ++vs.toArray))).push (seqObj "list" vs.toArray 0)).get? b=some o:=λb o q=>by
  have cu:b < s.heap.objs.size:=lt_size q;rw[get?_push_ne _ _ _ (by rw[hC];exact Nat.ne_of_lt (Nat.lt_succ_of_lt cu)),get?_update_ne _ _ _ _ (Nat.ne_of_lt cu),get?_push_ne _ _ _ (Nat.ne_of_lt cu)];exact q
 have wi:s.heap.get? (s.heap.objs.size+1)=none:=get?_none_of_le (Nat.le_succ _);show wpAny _ _ _ _ _ {s with heap:=((s.heap.push (seqObj "list" #[] 0)).update s.heap.objs.size (Obj.mapSeq (· ++vs.toArray))).push (seqObj "list" vs.toArray 0)};rw[hC];generalize dt:((s.heap.push (seqObj "list" #[] 0)).update s.heap.objs.size (Obj.mapSeq (· ++vs.toArray))).push (seqObj "list" vs.toArray 0)=h₁ at*;generalize s.heap.objs.size+1=a at*;refine aH (fY (wpAny_call_entry_kw slot_list_sort ⟨_,vO,rfl⟩ entry_list_sort ?body (ksk_l1 _ _)));show wpAny (model prog w) A.in1.in1 (Builtin.«list.sort» ⟨[.ref a],_⟩) _ _ _;rw[aM];have s1:=SameBut.update h₁ a (Obj.mapSeq λ_=>(#[]:Array Value));have Iy:Ext s {s with heap:=h₁}/\G w h₁:=⟨.keeps keep,g.keeps keep⟩
 have n4:=w7 (tk:=s.toks) g Iy.1 Iy.2 wi vO sL s1;have qw:=get?_update_seq vO λ_=>(#[]:Array Value)
 generalize Wc:(if(#[]:Array Value).size==vs.toArray.size then 0 else 0+1)=ax at qw;unfold ksk_tree;refine aH (listItems_at vO rfl ?_);refine aH (listUpdate_at vO rfl ?_ (by rw[mm];exact bH (Nat.le_of_lt ‹_›) rfl) (c0 _));generalize We:h₁.update a (Obj.mapSeq λ_=>(#[]:Array Value))=cX at*;refine aH (seqEpoch_at qw rfl ?_);refine aH (wpAny_newTuple ?_ (by show vs.length<=_;exact bH (Nat.le_of_lt ‹_›) rfl));refine aH (wpAny_newList ?_ (c0 _));refine fY ?_;have gG:∀b o,cX.get? b=some o->((cX.push (seqObj "tuple" vs.toArray 0)).push (seqObj "list" #[] 0)).get? b=some o:=λb o q=>dZ _ (dZ _ q);have m8:cX.get? (cX.push (seqObj "tuple" vs.toArray 0)).objs.size=none:=get?_none_of_le (by rw[size_push];exact Nat.le_succ _);have TC:s.heap.get? (cX.push (seqObj "tuple" vs.toArray 0)).objs.size=none:=by
  induction q:s.heap.get? (cX.push (seqObj "tuple" vs.toArray 0)).objs.size with
  |none=>rfl
  |some o=>
   have:=n4.1.keep _ _ (n4.2.fC m8) q;rw[show({s with heap:=cX,toks:=s.toks}:Shared).heap=cX from rfl,m8] at this;injection this
 refine Nr (W:=W) (kS:=(cX.push (seqObj "tuple" vs.toArray 0)).objs.size) g mJ ai ⟨n4.1.trans (.keeps (tk:=s.toks) gG),n4.2.keeps gG,wi,TC,λq=>?_,gG _ _ qw,[],0,dc _ rfl,rfl,λi v q=>by(focus (injection q;done))⟩ bx mE turn λp out n s' si VE Vr CN U0 VA=>⟨_,rfl,bu ⟨_,rfl,h a out n p s' si VE wi Vr CN U0 VA⟩⟩
 rw[<-q,qw] at m8;injection m8
end
theorem Lr{sc:Scope}{x:Str}(S:i6 scope sc x true)(a9:c5 env sc)(kk:cenv.scope=scope)(hY:cenv.locals=C)(vL:cenv.globals=env.globals)(vx:cenv.builtins=env.builtins)(qq:cenv.cells=(x,C+1)::fR env.cells scope.names [])
  {W W':Addr->Prop} {mf:Loc} {p:ak} {v:Value} {h₁ h:Heap} (c4:St w env W m h₁)
  (gn:∀y p,mf.lookup y=some p->m.lookup y=some p/\scope.names.lookup y=some .free) (keep:gy h₁ h) (g:G w h) (low:eI W' h) (gu:¬cc C) (A6:¬cc (C+1)) (tJ:∀b o,o.cls≠ .none->h₁.get? b=some o->(W b↔W' b)) (ag:h.IsCell (C+1) (some v)) (aa:a6 w h W' p v):
  c5 cenv scope/\St w cenv W' ((x,p)::mf) h:=by
 have fr:=S.frees a9;have lD:c5 cenv scope:=by
  refine⟨λy k ar e=>by show cenv.scope.names.lookup y=_;rw[kk];exact e,λy e=> .inl (by show cenv.scope.names.lookup y=_;rw[kk];exact e),λy q=>?_,by rw[kk];exact S.fn⟩;have e:cenv.cells=cellsFrom (C+1) scope.names (fR env.cells scope.names []):=by rw[qq,S.yx];rfl
  rw[e];refine cellsFrom_some ?_;rcases q with q |q
  ·exact .inr q
  ·left
   rw[wL S.nd q];rfl
 refine⟨lD,by rw[kk];exact S.fn,vL.trans c4.gl,vx.trans c4.bi,g,low,by rw[hY];exact gu,λnm a af=>?_,λy q aG=>?_⟩
 ·rw[qq,di] at af;replace af:=af;induction av:nm==x with
  |true=>rw[av] at af;obtain rfl:=bT af;exact A6
  |false=>
   rw[av] at af;rcases DS af (λz hz ar=>(fr z hz ar).1) with q |q
   ·injection q
   ·exact c4.cZ _ _ q
 ·by_cases e:y=x
  ·subst e;rw[a5] at aG;obtain rfl:=bT aG;refine⟨v,.inr ⟨.inl (lD.kind _ _ (by decide) S.ag),C+1,by rw[qq,di,gW],ag⟩,aa⟩
  ·rw[kz e] at aG;refine aE (gn y q aG) λab ae=>?_;refine ah (c4.has y q ab) λu bE eZ=>?_;refine cB (fr (y,.free) (mem_of_lookup ae) rfl) λf1 f2 t5=>?_;refine⟨u,?_,eZ.chg λb o U ct=>⟨c4.g.m6 keep b o U ct,tJ b o U ct⟩⟩;rcases bE with⟨bR,_⟩ |⟨_,c',fx,o,aj,hd⟩
   ·rcases f2 with f2 |f2<;>(rw[bR] at f2;exact absurd f2 (by decide))
   ·refine .inr ⟨.inr ⟨by show cenv.scope.names.lookup y=_;rw[kk];exact ae,t5⟩,c',?_,o,keep _ _ (c4.cZ _ _ fx) aj,hd⟩;rw[qq,di,eF.mpr e,wL S.nd ae,fx];rfl
theorem Lf{sc:Scope}{x:Str}{p:ak}{body:Expr}{pm ji:Value}{f:Addr}{v:Value} 
  (S:i6 scope sc x true) (a9:c5 env sc) (rA:scope.isCoroutine=false) (rz:scope.isGenerator=false) (ai:bK (n+1) A) (st:St w env W m s.heap)
  (hf:s.heap.get? f=some (kla_obj "<lambda>" qual params body scope (fR env.cells scope.names []) pm c' ji)) (U:s.heap.get? c'=some cP) (aG:rd cP qual) (ke:bindArgs (kla_fn "<lambda>" qual params body scope (fR env.cells scope.names []) pm (.ref c') ji) ⟨[v],[]⟩=pure [(x,v)])
  (gn:∀y p,mf.lookup y=some p->m.lookup y=some p/\scope.names.lookup y=some .free) (aq:a6 w s.heap W p v) (aa:cb p) (B3:cb q) (h:∀cenv,c5 cenv scope->Ev prog w n cenv ((x,p)::mf) body q)
  (a4:∀ip s',a6 w s'.heap W q ip->Ext s s'->G w s'.heap->Q ip s'):wpAny (model prog w) A (call (.ref f) [v]) Q E s:=by
 obtain⟨_,iL,lG,dD,vv⟩:=aG;refine wpAny_call (kla_callFunE (fd:=kla_fn "<lambda>" qual params body scope (fR env.cells scope.names []) pm (.ref c') ji) ai.lim hf rfl rA rz rfl ⟨c',cP,iL,lG,rfl,U,dD,vv⟩ ?_);rw[ke];refine bu ?_;show wpAny _ _ (newFunctionEnv scope 3 (fR env.cells scope.names []) [(x,v)] _ _ _ none 0) _ _ _;simp only[newFunctionEnv,isSome_none,Bool.false_eq_true,if_false];refine aH (wpAny_alloc ?_);refine aH (wpAny_layCells _ (λname kind cells=>by cases B1:kind==NameKind.cell<;>exact rfl) _ _ _ _ ?_);rw[show({s with heap:=s.heap.push {cls:= .type "frame",data:= .dict #[]}}:Shared).heap.objs.size=s.heap.objs.size+1 from size_push ..];rw[S.yx];show wpAny _ _ _ _ _ {s with heap:=pushCells (s.heap.push _) scope.names};rw[S.pc];simp only[if_true];have xh:((s.heap.push {cls:= .type "frame",data:= .dict #[]}).push {cls:= .type "cell",data:= .cell none}).IsCell (s.heap.objs.size+1) none:=by
  have e:=size_push s.heap {cls:= .type "frame",data:= .dict #[]};rw[<-e];exact⟨_,dc _ rfl,rfl⟩
 have bR:∀b o,s.heap.get? b=some o->((s.heap.push {cls:= .type "frame",data:= .dict #[]}).push {cls:= .type "cell",data:= .cell none}).get? b=some o:=λb o e=>dZ _ (dZ _ e);have d6:((s.heap.push {cls:= .type "frame",data:= .dict #[]}).push {cls:= .type "cell",data:= .cell none}).get? s.heap.objs.size=some {cls:= .type "frame",data:= .dict #[]}:=dZ _ (dc _ rfl);generalize ((s.heap.push {cls:= .type "frame",data:= .dict #[]}).push {cls:= .type "cell",data:= .cell none})=h₁ at*;refine aH ?_;rw[forIn_cons];refine aH (aH (wpAny_storeName_cell (c:=s.heap.objs.size+1) S.fn S.ag ?_ xh λcX Ft FA=>?_))
 ·exact di.trans (by rw[gW])
 ·refine bu ?_;show wpAny _ _ (forIn [] _ _) _ _ _;rw[forIn_nil];refine bu (bu ?_);have sh:s.heap.get? s.heap.objs.size=none:=eA _;have kY:s.heap.get? (s.heap.objs.size+1)=none:=get?_none_of_le (Nat.le_succ _);have uK:∀b o,s.heap.get? b=some o->cX.get? b=some o:=λb o e=>FA.extBut b o (λq=>by rw[q,kY] at e;injection e) (bR _ _ e);have aY:G w cX:=st.g.keeps uK;refine⟨aY.lim,?_⟩;obtain⟨cenv,lh⟩:∃cenv:Env,{scope:=scope,locals:=s.heap.objs.size,globals:=3,cells:=(x,s.heap.objs.size+1)::fR env.cells scope.names [],qual:=qual++".<locals>.",func:=some f,code:= .ref c',frame:=some s.heap.objs.size,builtins:=0}=cenv:=⟨_,rfl⟩
  show codeAny _ _ (.expr body {scope:=scope,locals:=s.heap.objs.size,globals:=3,cells:=(x,s.heap.objs.size+1)::fR env.cells scope.names [],qual:=qual++".<locals>.",func:=some f,code:= .ref c',frame:=some s.heap.objs.size,builtins:=0}) _ _;rw[lh];have dO:cenv.scope=scope:=by rw[<-lh]
  have ax:cenv.locals=s.heap.objs.size:=by rw[<-lh]
  have aD:cenv.cells=(x,s.heap.objs.size+1)::fR env.cells scope.names []:=by rw[<-lh]
  have a8:cenv.globals=env.globals:=by rw[<-lh];exact st.gl.symm
  have bW:cenv.builtins=env.builtins:=by rw[<-lh];exact st.bi.symm
  have aW:∀b,(W b\/b=s.heap.objs.size\/b=s.heap.objs.size+1)->(∃o,s.heap.get? b=some o)->W b:=λb I fy=>by
   refine aP fy λo e=>?_;rcases I with I |rfl |rfl
   ·exact I
   ·rw[sh] at e;injection e
   ·rw[kY] at e;injection e
  have OB:eI (λb=>W b\/b=s.heap.objs.size\/b=s.heap.objs.size+1) cX:=λb I=>by
   rcases I with I |rfl |rfl
   ·refine aE (st.low b I) λaU lu=>?_;refine ah aU λob e cF=>?_;exact⟨⟨ob,uK _ _ e,cF⟩,lu⟩
   ·exact⟨⟨_,FA.extBut _ _ (Nat.ne_of_lt (k6 _)) d6,.inr λvs q=>by injection q⟩,st.g.fC sh⟩
   ·refine ah (uc Ft) λo aj hd=>?_;exact⟨⟨o,aj,.inr hd⟩,st.g.fC kY⟩
  obtain⟨lD,xp⟩:=Lr (cenv:=cenv) (W':=λb=>W b\/b=s.heap.objs.size\/b=s.heap.objs.size+1) (p:=p) (v:=v) S a9 dO ax a8 bW aD st gn (.of uK) aY OB (st.g.fC sh) (st.g.fC kY) (λb o _ e=>⟨.inl,λq=>aW b q ⟨o,e⟩⟩) Ft
   (aq.upd (λb ob I _ e=>⟨uK _ _ e,λq=>I (aW b q ⟨ob,e⟩)⟩) aa)
  refine kla_codeExpr (h cenv lD _ _ {s with heap:=cX} _ _ ai.in xp λip s' jW aO gv=>?_);exact a4 ip s' (jW.upd (λb ob I _ e=>⟨e,λq=>I (.inl q)⟩) B3) ((Ext.keeps uK).trans aO) gv
theorem Jc{α:Type}{K:α->Int}:∀{l l':List α},l.Perm l'->l.Pairwise (λa b=>K a < K b)->l'.Pairwise (λa b=>K a < K b)->l=l':=by
 intro ba;induction ba with
 |nil=>
  intro l' p _ _;exact p.nil_eq
 |cons a r aw=>
  intro l' p h h';induction l' with
  |nil=>exact absurd p.length_eq (by exact nofun)
  |cons b r'=>
   have e:a=b:=by
    have af:a∈b::r':=p.mem_iff.mp cM;have I:b∈a::r:=p.mem_iff.mpr cM;rcases bI.mp af with e |af
    ·exact e
    ·rcases bI.mp I with e |I
     ·exact e.symm
     ·have ab:=(k5.mp h).1 b I;have ae:=(k5.mp h').1 a af;omega
   subst e;rw[aw (Perm.cons_inv p) (k5.mp h).2 (k5.mp h').2]
theorem KJ:nsIn (KF w) 3 "sorted"=some none:=by kernel_rfl
theorem bJ.getD{l:List ak}(x:bJ w h W l vs):∀sd:List Nat,(∀j∈sd,j < l.length)->bJ w h W (sd.map λj=>l.getD j .none) (sd.map λj=>vs.getD j Value.none):=by
 intro ba;induction ba with
 |nil=>
  intro _;exact rfl
 |cons j r aw=>
  intro aN;obtain⟨v,aq,aa⟩:=x.at (i:=j) (p:=l[j]'(aN j cM)) (cm _);refine⟨_,_,rfl,?_,aw λk ar=>aN k (ey _ ar)⟩;show a6 w h W (l.getD j ak.none) (vs.getD j Value.none);rw[c7,c7,aq,cm (aN j cM)];exact aa
theorem I3{sc:Scope}{x:Str}{ax body:Expr}{u7 AH:Pos}{hr ht K:Str->Int}{c P:Addr}
  (a9:c5 env sc) (ar:env.kindOf "sorted"=some .globalImplicit) (he:Ev prog w (n+4) env m ax (.list (aB names))) (mJ:names.length < 64) (bo:names.Nodup) (S:i6 scope sc x true) (rA:scope.isCoroutine=false) (rz:scope.isGenerator=false)
  (ec:env.code= .ref c) (gu:codeHdIn (KF w) c P=true) (L:rm P u7 (env.qual++"<lambda>")) (uU:defaultsOf params env=([],[]))
  (ke:∀(qual:Str) (cl:List (Str×Addr)) (pm iL ji v:Value),bindArgs (kla_fn "<lambda>" qual params body scope cl pm iL ji) ⟨[v],[]⟩=pure [(x,v)])
  (gn:∀y p,mf.lookup y=some p->m.lookup y=some p/\scope.names.lookup y=some .free)
  (h:∀y∈names,∀cenv,c5 cenv scope->Ev prog w n cenv ((x,.str y)::mf) body (.list [.int (hr y),.int (ht y)]))
  (bx:∀y∈names,∀z∈names,K y=K z->y=z) (mE:∀y∈names,∀z∈names,lX (hr y) (ht y) (hr z) (ht z)=decide (K y < K z))
  (aa:out.Perm names) (hs:out.Pairwise λa b=>K a < K b) (cv:starEach [ax] env=[(false,eval ax env)])
  (fu:eval (.Call (.Name "sorted" bX) [ax] [⟨some "key",.Lambda params body scope u7,AH⟩] pos) env=(do callWith pos (<-eval (.Name "sorted" bX) env) [] (backTo pos (starEach [ax] env)) (backToKw pos (keywordEach [⟨some "key",.Lambda params body scope u7,AH⟩] env)))):
  Ev prog w (n+4) env m (.Call (.Name "sorted" bX) [ax] [⟨some "key",.Lambda params body scope u7,AH⟩] pos) (.list (aB out)):=λW A s Q E ai hQ a4=>by
 rw[fu];refine aH (fA ar KJ (v:= .builtin "sorted") (by exact rfl) (by decide+kernel) (by kernel_rfl) W A s _ E ai hQ λCA au A7 fm ga=>?_);rw[show CA= .builtin "sorted" from A7];have c4:=hQ.ext fm ga;have I:backTo pos (starEach [ax] env)=(false,eval ax env)::backTo pos (starEach [] env)\/True:= .inr trivial;refine callWith_kw ?_ ?_ ?_ rfl rfl
 rotate_left
 ·rw[cv];rfl
 ·rw[cv];rfl
 refine aK.cons he aK.nil (by rw[cv];rfl) W A au _ E ai c4 λvs aL bb ct kV=>?_;have xE:=c4.ext ct kV;refine kwAll_cons (kla_eval uU ?_);have eB:closureFor scope env=pure (fR env.cells scope.names []):=zc λz hz ar=>(S.frees a9 z hz ar).1;refine EC kV eB xE.gl ec gu L λf c' pm ji cP ef v7 tW aA hf U aG=>?_;refine kwAll_nil ?_;have u4:=xE.ext v7 tW;have OL:=bb.ext kV v7;refine bj OL λv r UC aq aD=>?_;have aD:r=[]:=aD;subst aD UC;refine cg aq λl us sh aU V5 ao ie=>?_;subst aU;show wpAny _ _ (PySem.call (.builtin "sorted") [.ref l] [(Str.ofString "key",.ref f)]) _ _ _;have BI:us.length=names.length:=by have:=ie.len;simpa using this.symm
 have SI:∀i v,us[i]? =some v->i < names.length/\∃t,v= .str (names.getD i "") t:=λi v hi=>by
  have cu:i < names.length:=by rw[<-BI];exact i8 hi
  refine⟨cu,?_⟩;refine ah (ie.at' hi) λp aa kn=>?_;rw[eb,cm cu] at aa;obtain rfl:=bT aa;rw[c7,cm cu];exact kn
 have va:∀i,i < names.length->names.getD i ""∈names:=λi hi=>by
  rw[c7,cm hi];exact getElem_mem hi
 have Rp:A.in1.in1.units < cLine:=((ai.le (Nat.le_add_left 2 (n+2))).in1.in1).line;refine KQ (W:=W) (hr:=λi=>hr (names.getD i "")) (ht:=λi=>ht (names.getD i "")) (K:=λi=>K (names.getD i "")) tW ao (by omega) Rp (λa=>ksk_t1 f a) (λi j hi aN e=>?_) (λi j hi aN=>mE _ (va i (by exact Nat.lt_of_lt_of_eq ‹_› ‹_›)) _ (va j (by exact Nat.lt_of_lt_of_eq ‹_› ‹_›))) ?_ ?_
 ·rw[BI] at hi aN;replace hi:=hi;replace aN:=aN;have:=bx _ (va i hi) _ (va j aN) e;rw[c7,cm hi,c7,cm aN] at this;exact(getElem_inj bo).mp this
 ·intro i v hi X s' xX UO aO gv cJ c6 SP;obtain⟨cu,t,a7⟩:=SI i v hi;subst a7;have vy:∀b o,o.cls≠Value.none->ef.heap.get? b=some o->(W b↔(W b\/X b)):=λb o _ e=>⟨.inl,λq=>q.elim id λq=>by rw[xX b q] at e;injection e⟩
  have tl:St w env (λb=>W b\/X b) m s'.heap:=by
   have y:=u4.ext aO gv;refine⟨y.fn,y.gl,y.bi,gv,λb I=>I.elim (λq=>y.low b q) λq=>UO b q,y.nl,y.cZ,λz q hz=>?_⟩;refine ah (u4.has z q hz) λu bE eZ=>?_;exact⟨u,bE.kt aO.keep u4.nl u4.cZ,eZ.chg λb o U ct=>⟨tW.m6 aO.keep b o U ct,vy b o U ct⟩⟩
  have hg:=aO.keep _ _ (tW.gf hf eN) hf;have fx:=aO.keep _ _ (tW.gf U (by rw[aG.1];exact eN)) U;exact Lf (n:=n) (W:=λb=>W b\/X b) (p:= .str (names.getD i "")) (q:= .list [.int (hr (names.getD i "")),.int (ht (names.getD i ""))]) S a9 rA rz ((ai.le (show n+1+1+1<=n+4 by omega)).in1.in1) tl hg fx aG (ke ..) gn ⟨t,rfl⟩ trivial ⟨trivial,trivial,trivial⟩ (h _ (va i cu)) SP
 ·intro D res kY p s' aO gv gq Bg BY Sp Ql;refine a4 _ s' ⟨D,res,kY,rfl,λq=>?_,Bg,?_⟩ (((fm.trans ct).trans v7).trans aO) gv
  ·exact(u4.low.not gq) q
  ·have qu:∀j∈p.toList,j < names.length:=λj aN=>by have:=j6.mp (BY.perm.mem_iff.mp aN);exact Nat.lt_of_lt_of_eq ‹_› ‹_›
   have e:aB out=p.toList.map λj=>(aB names).getD j .none:=by
    have ab:out=p.toList.map λj=>names.getD j "":=by
     refine Jc (K:=K) ?_ hs ?_
     ·refine aa.trans ?_;have ae:(p.toList.map λj=>names.getD j "").Perm ((range names.length).map λj=>names.getD j ""):=(by rw[<-BI];exact BY.perm.map _)
      refine Perm.trans (Perm.of_eq ?_) ae.symm;refine ext_getElem (by simp) λi ab ae=>?_;simp;rw[cm ab];rfl
     ·rw[pairwise_map,pairwise_iff_getElem];intro i j hi aN nQ;have hC:p.toList.length=us.length:=by rw[Array.length_toList];exact BY.size
      have dt:=Sp i j nQ (by exact Nat.lt_of_lt_of_eq ‹_› ‹_›);have yl:∀k (ar:k < p.toList.length),p.getD k 0=p.toList[k]:=λk ar=>by
       have cj:k < p.size:=by exact ar
       simp[Array.getD,cj]
      unfold kv at dt;rw[yl i hi,yl j aN] at dt;exact dt
    rw[ab,aB,dX];refine g7 λj aN=>?_;have:=qu j aN;rw[c7,eb,cm this];show ak.str (names.getD j "")=_;rw[c7,cm this];rfl
   rw[e,Ql];have xF:=ie.ext tW aO;exact xF.getD _ λj aN=>by rw[bO];exact qu j aN
theorem EP:nsIn (KF w) 3 "max"=some none:=by kernel_rfl
noncomputable def xI(d:Int->Bool):ak->Bool
 | .int x=>d x
 |_=>false
theorem uP{l:List Int}{d:Int->Bool}{g:Int->ak}:((cp l).filter (xI d)).map (o4 g)=(l.filter d).map g:=FJ (λ_=>rfl) λ_=>rfl
theorem ml{l:List Int}{p:ak}(h:p∈cp l):∃x∈l,p= .int x:=by
 refine ah (bA.mp h) λx ag aU=>?_;subst aU;exact⟨x,ag,rfl⟩
noncomputable def tG(d:List Str->Bool):ak->Bool
 | .list l=>d (l.map λp=>match p with | .str x=>x |_=>"")
 |_=>false
theorem E6{d:List Str->Bool}{l:List Str}:tG d (.list (aB l))=d l:=by
 show d ((aB l).map _)=d l;congr 1;rw[aB,dX];exact(g7 (g:=id) λ_ _=>rfl).trans (List.map_id _)
theorem FI{l:List (List Str)}{d:List Str->Bool}:((bF l).filter (tG d)).map id=bF (l.filter d):=by
 have:=FJ (φ:=λx:List Str=>ak.list (aB x)) (l:=l) (t:=tG d) (f:=id) (d:=d) (g:=λx=> .list (aB x)) (λ_=>E6) λ_=>rfl;exact this
theorem wO:∀{a b:List Str},PyData.eqvAll (d0 (aB a)) (d0 (aB b))=(a==b):=by
 intro a;induction a with
 |nil=>intro b;rcases b with _ |⟨y,b⟩<;>rfl
 |cons x a aw=>
  intro b;rcases b with _ |⟨y,b⟩
  ·rfl
  show(x==y&&PyData.eqvAll (d0 (aB a)) (d0 (aB b)))=_;rw[aw];rfl
theorem D9:∀{a b:List (List Str)},PyData.eqvAll (d0 (bF a)) (d0 (bF b))=(a==b):=by
 intro a;induction a with
 |nil=>intro b;rcases b with _ |⟨y,b⟩<;>rfl
 |cons x a aw=>
  intro b;rcases b with _ |⟨y,b⟩
  ·rfl
  show(PyData.eqvAll (d0 (aB x)) (d0 (aB y))&&PyData.eqvAll (d0 (bF a)) (d0 (bF b)))=_;rw[wO,aw];rfl
theorem w0{l:List (List Str)}(h:∀x∈l,∀y∈x,PyData.strOk y=true):gX (bF l):=by
 induction l with
 |nil=>trivial
 |cons a r aw=>exact⟨nh (h a cM),aw λx ag=>h x (ey _ ag)⟩
theorem D3{l:List Str}:(fc (.list (aB l))).depth<=64:=by
 have:∀l:List Str,PyData.depthAll (d0 (aB l))=0:=λl=>by
  induction l with
  |nil=>rfl
  |cons a r aw=>show max _ (PyData.depthAll (d0 (aB r)))=0;rw[aw];rfl
 show PyData.depthAll (d0 (aB l))+1<=64;rw[this];decide
noncomputable def nK:List Int:=[0,1,2,3,4]
theorem Qm:f3 0 5 1=cp nK:=by
 unfold f3;rw[show iV 0 5 1=5 by kernel_rfl];rfl
theorem NX{α:Type}{l:List α}(h:l.length<=5):(cL l (some 1) none none).length<=5:=by
 have key:∀n:Nat,n<=5->(sliceRange (sliceBounds (some 1) none none n).1 (sliceBounds (some 1) none none n).2.1 (sliceBounds (some 1) none none n).2.2).length<=5:=by decide+kernel
 exact ei (OW _ _ _ _) (key _ h)
noncomputable def ri(ls:List (List Str))(k:Int):Nat:=ls.findIdx (· ==ls.getD k.toNat [])
noncomputable def pO(ls:List (List Str)):List Int:=nK.filter λk=>(ri ls k:Int)==k
noncomputable def sX(ls:List (List Str))(k:Int):Bool:=(ls.filter λone=>(cL one (some 1) none none).any (· ==(ls.getD k.toNat []).getD 0 ""))==[]
noncomputable def pM(ls:List (List Str)):List Int:=(pO ls).filter (sX ls)
noncomputable def oi(ls:List (List Str))(name:Str):List Int:=(pM ls).filter λk=>(ls.getD k.toNat []).any (· ==name)
noncomputable def gQ(ls:List (List Str))(name:Str):Int:=bestOf (λa b=>decide (b < a)) (oi ls name)
noncomputable def lY(name:Str):Int:= -(Txt.count name ".")
noncomputable def keyOf(ls:List (List Str))(name:Str):Int:=10*gQ ls name+lY name
theorem zW{k:Int}(ab:k.toNat < ls.length):(bF ls)[k.toNat]? =some (.list (aB (ls.getD k.toNat []))):=by
 rw[eb,c7,cm ab];rfl
theorem za{v:Expr}{lo st:Option Expr}{l:List Str}{a b c:Option Int}(aq:Ev prog w n env m v (.list (aB l)))(hY:jX prog w n env m lo a)(jh:jX prog w n env m hi b)(cv:jX prog w n env m st c)(h0:c≠some 0)(hz:l.length<=sizeLine):
  Ev prog w n env m (.Subscript v (.Slice lo hi st sp) pos) (.list (aB (cL l a b c))):=by
 have:=ug (sp:=sp) (pos:=pos) aq hY jh cv h0 (by rw[cz];exact hz)
 rwa [aB,sH] at this
theorem M0(dA:ls.length=5)(ao:∀l∈ls,l.length<=5)(mT:∀l∈ls,0 < l.length)(e9:∀l∈ls,∀x∈l,PyData.strOk x=true)(QW:∀x∈names,PyData.strOk x=true)(mJ:names.length < 64)(bo:names.Nodup)
  (dt:∀x∈names,0 < (oi ls x).length) (bx:∀y∈names,∀z∈names,keyOf ls y=keyOf ls z->y=z) (mE:∀y∈names,∀z∈names,lX (gQ ls y) (lY y) (gQ ls z) (lY z)=decide (keyOf ls y < keyOf ls z)) (aa:out.Perm names) (hs:out.Pairwise λa b=>keyOf ls a < keyOf ls b):
  d3 prog w 6 256 [.list (bF ls),.list (aB names)] (.list (aB out)):=by
 refine d3.of (names:=["ladders","names"]) (m:=[("ladders",.list (bF ls)),("names",.list (aB names))]) (c:=255) (by exact⟨rfl,rfl,rfl,rfl,rfl,rfl,rfl,ej (by kernel_rfl),rfl,rfl,rfl,kinds_of (by kernel_rfl),rfl,rfl,rfl,by dsimp only,by dsimp only,by kernel_rfl⟩) (sZ λa b=>by exact rfl) (by exact rfl) ⟨mi,d9,trivial⟩ (by exact rfl) ?_;intro env a9 ec fE d6;have de:sizeLine=2 ^ 24:=rfl;have gm:(bF ls).length<=sizeLine:=by rw[bO];exact bH (Nat.le_of_eq ‹_›) rfl
 have tf:∀k∈nK,0<=k/\k.toNat < 5:=by decide
 have Bz:∀k∈nK,ls.getD k.toNat []∈ls:=λk ar=>by
  have:=(tf k ar).2;rw[c7,cm (by walk_at"o")];exact getElem_mem _
 refine bg.cons (jA (p:= .list (((cp nK).filter (xI λk=>(ri ls k:Int)==k)).map (o4 .int)))
  (k0 (x:="k") (c:=false) (q:= .hj 0 5 1) (ps:=cp nK) (mf:=[("ladders",.list (bF ls))]) a9 (Ev.call (fA (by walk_at"k") qQ (by exact rfl) (by decide+kernel) (by kernel_rfl)) (.inr (.inl ⟨"range",rfl⟩)) (aK.cons Ev.int aK.nil rfl) sA rfl rfl) (Qm▸cw.hj (by kernel_rfl) (by decide+kernel)) ⟨λ_ _=>rfl,λ_=>rfl,by kernel_rfl,by kernel_rfl,by decide+kernel,rfl⟩ (nT (by walk_at"l") (by kernel_rfl)) (by decide) (λp aa _=>?_) (λp aa cenv dR=>?_) (λp aa _ cenv dR=>?_) (λ_=>rfl))
  ?_ (by walk_at"s") ?_ (Eu a9 (by kernel_rfl)))
 ·refine ah (ml aa) λx _ a7=>?_;subst a7;exact trivial
 ·refine ah (ml aa) λk ar bk=>?_;subst bk;refine aE (tf k ar) λrO HF=>?_;have BB:k.toNat < ls.length:=by walk_at"o"
  have hm:=Bz k ar;have nR:ri ls k < ls.length:=findIdx_lt_length_of_exists ⟨_,hm,by walk_at"o"⟩;refine gd.one (bV.cmp (p:= .int (ri ls k)) (q:= .int k) (j4 Oh (Ev.name (bS (by kernel_rfl) a5) (by kernel_rfl)) Typed.list (aK.cons (Ev.item (k:= .int k) (Ev.name (bS (by kernel_rfl) a5) (by kernel_rfl)) (Ev.name a5 (by kernel_rfl)) Typed.list fN.lookup (cA.item rO (zW BB) gm) λ_ _=>rfl) aK.nil rfl)
   (J9 (j:=ri ls k) (w0 e9) (nh (e9 _ hm)) D3 gm (by rw[bO];exact nR) ?_ ?_) rfl rfl rfl rfl) (Ev.name a5 (by kernel_rfl)) sF (by with_unfolding_all rfl))
  ·rw[getElem_map];show PyData.eqvAll (d0 (aB _)) (d0 (aB _))=true;rw[wO];exact findIdx_getElem (p:=(· ==ls.getD k.toNat [])) (w:=nR)
  ·intro j aN cu;rw[getElem_map];show PyData.eqvAll (d0 (aB _)) (d0 (aB _))=false;rw[wO];have:=not_of_lt_findIdx (p:=(· ==ls.getD k.toNat [])) cu;exact this
 ·refine ah (ml aa) λx _ bz=>?_;subst bz;exact Ev.name a5 (by kernel_rfl)
 ·rw[uP];exact qY
 rw[uP];show bg prog w 5 env (("lasts",.list (cp (pO ls)))::_) _ _;have Hf:∀k∈pO ls,k∈nK:=λk ar=>(ew.mp ar).1;have l1z:(pO ls).length<=5:=length_filter_le _ _;refine bg.cons (jA (p:= .list (((cp (pO ls)).filter (xI (sX ls))).map (o4 .int)))
  (k0 (x:="k") (c:=true) (q:= .list (cp (pO ls))) (ps:=cp (pO ls)) (mf:=[("ladders",.list (bF ls))]) a9 (by walk_at"e") cw.list ⟨λ_ _=>rfl,λ_=>rfl,by kernel_rfl,by kernel_rfl,by decide+kernel,rfl⟩ (nT (by walk_at"l") (by kernel_rfl)) (by rw[bO];exact bH ‹_› rfl) (λp aa _=>?_) (λp aa cenv dR=>?_) (λp aa _ cenv dR=>?_) (λ_=>rfl))
  ?_ (by walk_at"s") ?_ (Eu a9 (by kernel_rfl)))
 ·refine ah (ml aa) λx _ b7=>?_;subst b7;exact trivial
 ·refine ah (ml aa) λk ar cC=>?_;subst cC;have ar:=Hf k ar;refine aE (tf k ar) λrO HF=>?_;have BB:k.toNat < ls.length:=by walk_at"o"
  have hm:=Bz k ar;refine gd.one (bV.cmp (p:= .list (((bF ls).filter (tG λone=>(cL one (some 1) none none).any (· ==(ls.getD k.toNat []).getD 0 ""))).map id)) (q:= .list [])
   (k0 (x:="one") (c:=false) (mf:=[("k",.int k),("ladders",.list (bF ls))]) dR (Ev.name (bS (by kernel_rfl) a5) (by kernel_rfl)) cw.list ⟨λ_ _=>rfl,λ_=>rfl,by kernel_rfl,by kernel_rfl,by decide+kernel,rfl⟩ (x4 a5 (by kernel_rfl) (bS (by kernel_rfl) a5) (by kernel_rfl)) gm (λp aa _=>?_) (λp aa z8 A5=>?_) (λp aa _ z8 A5=>?_) (λ_=>rfl))
   (Ev.list aK.nil (c0 _)) (by
    have:=DL (prog:=prog) (w:=w) (p:= .list (((bF ls).filter (tG λone=>(cL one (some 1) none none).any (· ==(ls.getD k.toNat []).getD 0 ""))).map id)) (q:= .list []) (by rw[FI];exact w0 λx ag=>e9 x (ew.mp ag).1) trivial (ei (Nat.min_le_right _ _) (by decide));show cA _ _ _ _ _ (.bool (sX ls k));rw[show sX ls k=PyData.eqv (fc (.list (((bF ls).filter (tG λone=>(cL one (some 1) none none).any (· ==(ls.getD k.toNat []).getD 0 ""))).map id))) (fc (.list [])) by rw[FI];exact(D9 (b:=[])).symm];exact this) (by with_unfolding_all rfl))
  ·refine ah (j9 aa) λl _ c1=>?_;subst c1;exact d9
  ·refine ah (j9 aa) λone GW c2=>?_;subst c2;have ab:=ao one GW;have ae:=ao _ hm;have aC:=mT _ hm;have V7:=NX ab;have lC:∀x∈cL one (some 1) none none,x∈one:=λx ag=>by
    refine ah (List.mem_filterMap.mp ag) λj _ aN=>?_;exact eW aN
   have BL:(ls.getD k.toNat []).getD 0 ""∈ls.getD k.toNat []:=by
    rw[c7 (l:=ls.getD k.toNat []),cm aC];exact getElem_mem aC
   rw[E6, <-sM];refine gd.one (bV.cmp (p:= .str ((ls.getD k.toNat []).getD 0 "")) (q:= .list (aB (cL one (some 1) none none))) (Ev.item (k:= .int 0) (Ev.item (k:= .int k) (Ev.name (bS (by kernel_rfl) (bS (by kernel_rfl) a5)) (by kernel_rfl)) (Ev.name (bS (by kernel_rfl) a5) (by kernel_rfl)) Typed.list fN.lookup (cA.item rO (zW BB) gm) λ_ _=>rfl) Ev.int Typed.list fN.lookup (cA.item (by decide) ?_ (by rw[cz];exact bH ‹_› rfl)) λ_ _=>rfl)
    ?_ (um (nh λx ag=>e9 _ GW x (lC x ag)) (e9 _ hm _ BL)) (by with_unfolding_all rfl))
   ·show(aB _)[0]? =_;rw[eb,c7 (l:=ls.getD k.toNat []),cm aC];rfl
   ·exact za (a:=some 1) (b:=none) (c:=none) (Ev.name a5 (by kernel_rfl)) Ev.int trivial trivial (by decide) (by exact bH ‹_› rfl)
  ·refine ah (j9 aa) λl _ eS=>?_;subst eS;exact Ev.name a5 (by kernel_rfl)
 ·refine ah (ml aa) λx _ eQ=>?_;subst eQ;exact Ev.name a5 (by kernel_rfl)
 ·rw[uP];exact qY
 rw[uP];show bg prog w 5 env (("lasts",.list (cp (pM ls)))::_) _ _;have UP:∀k∈pM ls,k∈nK:=λk ar=>Hf k (ew.mp ar).1;have l2z:(pM ls).length<=5:=ei (length_filter_le _ _) l1z;have aG:env.qual++("<lambda>":Str)="_law_order.<locals>.<lambda>":=by rw[fE];decide+kernel
 refine bg.cons (df.ret (p:= .list (aB out)) (I3 (n:=1) (x:="name") (mf:=[("ladders",.list (bF ls)),("lasts",.list (cp (pM ls)))]) (names:=names) (hr:=gQ ls) (ht:=lY) (K:=keyOf ls) (P:=253) a9 (by walk_at"k") (by walk_at"e") mJ bo ⟨λ_ _=>rfl,λ_=>rfl,by kernel_rfl,by kernel_rfl,by decide+kernel,rfl⟩ rfl rfl ec (by kernel_rfl) (.inr ⟨rfl,rfl,rfl,aG⟩) rfl (λ_ _ _ _ _ _=>by exact rfl) (x4 (by walk_at"l") (by kernel_rfl) (by walk_at"l") (by kernel_rfl)) ?_ bx mE aa hs rfl rfl) d9 rfl);intro y av cenv dR;refine Ev.list (ps:=[.int (gQ ls y),.int (lY y)]) (aK.cons ?_ (aK.cons (lN (j4 OI (Ev.name a5 (by kernel_rfl)) Typed.str (aK.cons Ev.str aK.nil rfl) KH rfl rfl rfl rfl)) aK.nil rfl) rfl) (show(2:Nat)<=_ by decide);refine Ev.call (ps:=[.list (((cp (pM ls)).filter (xI λk=>(ls.getD k.toNat []).any (· ==y))).map (o4 .int))]) (fA (qT dR (by decide) (by kernel_rfl)) EP (by exact rfl) (by decide+kernel) (by kernel_rfl)) (.inl ⟨"max",rfl⟩) (aK.cons
  (k0 (x:="k") (c:=false) (mf:=[("ladders",.list (bF ls)),("name",.str y)]) dR (Ev.name (bS (by kernel_rfl) (bS (by kernel_rfl) a5)) (by kernel_rfl)) cw.list ⟨λ_ _=>rfl,λ_=>rfl,by kernel_rfl,by kernel_rfl,by decide+kernel,rfl⟩ (x4 (bS (by kernel_rfl) a5) (by kernel_rfl) a5 (by kernel_rfl)) (by rw[bO];exact bH ‹_› rfl) (λp aa _=>?_) (λp aa z8 A5=>?_) (λp aa _ z8 A5=>?_) (λ_=>rfl)) aK.nil rfl) ?_ rfl rfl
 ·refine ah (ml aa) λx _ ft=>?_;subst ft;exact trivial
 ·refine ah (ml aa) λk ar fS=>?_;subst fS;have ar:=UP k ar;refine aE (tf k ar) λrO HF=>?_;have hm:=Bz k ar;show gd _ _ _ _ _ _ ((ls.getD k.toNat []).any (· ==y));rw[<-sM];exact gd.one (bV.cmp (Ev.name (bS (by kernel_rfl) (bS (by kernel_rfl) a5)) (by kernel_rfl)) (Ev.item (k:= .int k) (Ev.name (bS (by kernel_rfl) a5) (by kernel_rfl)) (Ev.name a5 (by kernel_rfl)) Typed.list fN.lookup (cA.item rO (zW (by walk_at"o")) gm) λ_ _=>rfl) (um (nh (e9 _ hm)) (QW y av)) (by with_unfolding_all rfl))
 ·refine ah (ml aa) λx _ gg=>?_;subst gg;exact Ev.name a5 (by kernel_rfl)
 ·rw[uP];exact K5 (l:=oi ls y) cw.list (dt y av)
structure Rs where
 J:Addr->Prop
 P:Heap->Prop
 st:∀h h',(∀b o,J b->h.get? b=some o->h'.get? b=some o)->P h->P h'
structure bP (w:World) (s₀:Shared) (env:Env) (W₀ aJ:Addr->Prop) (ad:Str->Addr) (m:Loc) (r:Rs) (s:Shared):Prop where
 F:b1 w s₀ env W₀ ad (λa=>aJ a\/r.J a) m s
 fV:∀a,aJ a->¬r.J a
 p:r.P s.heap
def cD(env:Env)(m:Loc)(ad:Str->Addr)(r:Rs)(a:Addr):Prop:=b4 env m ad a\/r.J a
def jL(w:World)(s₀:Shared)(env:Env)(W₀ aJ:Addr->Prop)(Φ:dp->Loc->Rs->Prop)(W:Addr->Prop)(s:Shared)(f:Flow)(s':Shared):Prop:=match f with
 | .next=>∃a3 m' r',bP w s₀ env W₀ aJ a3 m' r' s'/\bC W (cD env m' a3 r') s s'/\Φ .next m' r'
 | .brk=>∃a3 m' r',bP w s₀ env W₀ aJ a3 m' r' s'/\bC W (cD env m' a3 r') s s'/\Φ .brk m' r'
 | .cont=>∃a3 m' r',bP w s₀ env W₀ aJ a3 m' r' s'/\bC W (cD env m' a3 r') s s'/\Φ .cont m' r'
 | .ret v=>∃p r',a6 w s'.heap (λa=>W₀ a\/(aJ a\/r'.J a)) p v/\cb p/\Ext s₀ s'/\G w s'.heap/\r'.P s'.heap/\(∀a,r'.J a->s₀.heap.get? a=none/\(∃o,s'.heap.get? a=some o/\cx o)/\¬cc a)/\bC W r'.J s s'/\Φ (.ret p) [] r'
def bt(prog:Program)(w:World)(K:Around->Prop)(env:Env)(m:Loc)(r:Rs)(ss:List Stmt)(Φ:dp->Loc->Rs->Prop):Prop:=
 ∀(s₀:Shared) (W₀ aJ:Addr->Prop) (ad:Str->Addr) (A:Around) (s:Shared) (E:Value->Shared->Prop),K A->bP w s₀ env W₀ aJ ad m r s->wpAny (model prog w) A (execs ss env) (jL w s₀ env W₀ aJ Φ (cD env m ad r) s) E s
def dC(prog:Program)(w:World)(K:Around->Prop)(env:Env)(m:Loc)(r:Rs)(st:Stmt)(Φ:dp->Loc->Rs->Prop):Prop:=
 ∀(s₀:Shared) (W₀ aJ:Addr->Prop) (ad:Str->Addr) (A:Around) (s:Shared) (E:Value->Shared->Prop),K A->bP w s₀ env W₀ aJ ad m r s->wpAny (model prog w) A (exec st env) (jL w s₀ env W₀ aJ Φ (cD env m ad r) s) E s
abbrev aZ(prog:Program)(w:World)(n:Nat)(env:Env)(m:Loc)(r:Rs)(ss:List Stmt)(Φ:dp->Loc->Rs->Prop):Prop:=bt prog w (bK n) env m r ss Φ
abbrev ek(prog:Program)(w:World)(n:Nat)(env:Env)(m:Loc)(r:Rs)(st:Stmt)(Φ:dp->Loc->Rs->Prop):Prop:=dC prog w (bK n) env m r st Φ
abbrev qt(n:Nat)(fr:List Env):Around->Prop:=λA=>bK n A/\A.frames=some fr
abbrev HL(prog:Program)(w:World)(K:Around->Prop)(env:Env)(rest:List Stmt)(Φ:dp->Loc->Rs->Prop):dp->Loc->Rs->Prop:=λf m' r'=>match f with | .next=>bt prog w K env m' r' rest Φ |f=>Φ f m' r'
abbrev ql(bh:Loc->Rs->Prop)(Φ:dp->Loc->Rs->Prop):dp->Loc->Rs->Prop:=λer dF eY=>match er with | .next=>bh dF eY | .cont=>bh dF eY | .brk=>Φ .next dF eY | .ret z=>Φ (.ret z) dF eY
abbrev Ht(Ψ:ak->Rs->Prop):dp->Loc->Rs->Prop:=λer _ r'=>match er with | .ret p=>Ψ p r' | .next=>Ψ .none r' |_=>False
def aV(prog:Program)(w:World)(n:Nat)(env:Env)(m:Loc)(r:Rs)(e:Expr)(p:ak):Prop:=
 ∀(W:Addr->Prop) (A:Around) (s:Shared) (Q:Value->Shared->Prop) (E:Value->Shared->Prop),bK n A->St w env W m s.heap->(∀a,r.J a->W a)->r.P s.heap->
  (∀v s',a6 w s'.heap W p v->Ext s s'->G w s'.heap->Q v s')->wpAny (model prog w) A (eval e env) Q E s
def gE(prog:Program)(w:World)(n:Nat)(env:Env)(m:Loc)(r:Rs)(e:Expr)(b:Bool):Prop:=
 ∀(W:Addr->Prop) (A:Around) (s:Shared) (Q:Bool->Shared->Prop) (E:Value->Shared->Prop),bK n A->St w env W m s.heap->(∀a,r.J a->W a)->r.P s.heap->
  (∀s',Ext s s'->G w s'.heap->Q b s')->wpAny (model prog w) A (isTrue e env (eval e env)) Q E s
variable {Φ xP:dp->Loc->Rs->Prop} {r' eY:Rs}
section
variable {prog:Program} {w:World} {n:Nat} {env:Env} {m:Loc} {r:Rs} {Φ:dp->Loc->Rs->Prop}
theorem Ev.R{e:Expr}{p:ak}(h:Ev prog w n env m e p):aV prog w n env m r e p:=λW A s Q E ai x _ _ a4=>h W A s Q E ai x a4
theorem bV.R{e:Expr}{b:Bool}(h:bV prog w n env m e b):gE prog w n env m r e b:=λW A s Q E ai x _ _ a4=>h W A s Q E ai x a4
theorem Rs.ext{r:Rs}(a0:∀a,r.J a->W a)(low:eI W s.heap)(e:Ext s s')(h:r.P s.heap):r.P s'.heap:=r.st _ _ (λb o I q=>e.keep b o (low b (a0 b I)).2 q) h
theorem bP.dq{ad:Str->Addr}(x:bP w s₀ env W₀ aJ ad m r s):∀a,r.J a->bU W₀ env m ad (λa=>aJ a\/r.J a) a:=λa af=> .dy (.inr af)
theorem bP.ext{ad:Str->Addr}(x:bP w s₀ env W₀ aJ ad m r s)(e:Ext s s')(g:G w s'.heap):bP w s₀ env W₀ aJ ad m r s':=⟨x.F.ext e g,x.fV,Rs.ext x.dq x.F.st.low e x.p⟩
theorem jL.mono{f:Flow}(h:∀f m r,Φ f m r->xP f m r)(x:jL w s₀ env W₀ aJ Φ W s f s'):jL w s₀ env W₀ aJ xP W s f s':=by
 induction f with
 |next=>refine gA x λad m' r' a k b=>?_;exact⟨ad,m',r',a,k,h _ _ _ b⟩
 |brk=>refine gA x λad m' r' a k b=>?_;exact⟨ad,m',r',a,k,h _ _ _ b⟩
 |cont=>refine gA x λad m' r' a k b=>?_;exact⟨ad,m',r',a,k,h _ _ _ b⟩
 |ret v=>refine AE x λp r' a b c d e f g i=>?_;exact⟨p,r',a,b,c,d,e,f,g,h _ _ _ i⟩
theorem jL.pre{f:Flow}(k:bC W W' s au)(x:jL w s₀ env W₀ aJ Φ W' au f s'):jL w s₀ env W₀ aJ Φ W s f s':=by
 induction f with
 |next=>refine gA x λad m' r' a k' b=>?_;exact⟨ad,m',r',a,k.trans k',b⟩
 |brk=>refine gA x λad m' r' a k' b=>?_;exact⟨ad,m',r',a,k.trans k',b⟩
 |cont=>refine gA x λad m' r' a k' b=>?_;exact⟨ad,m',r',a,k.trans k',b⟩
 |ret v=>refine AE x λp r' a b c d e f g i=>?_;exact⟨p,r',a,b,c,d,e,f,k.trans g,i⟩
theorem dC.mono{K:Around->Prop}{st:Stmt}(x:dC prog w K env m r st Φ)(h:∀f m r,Φ f m r->xP f m r):dC prog w K env m r st xP:=λs₀ W₀ aJ ad A s E ai F=>dV (x s₀ W₀ aJ ad A s E ai F) (λf s' o=>o.mono h) λ_ _ e=>e
theorem bt.nil{K:Around->Prop}(h:Φ .next m r):bt prog w K env m r [] Φ:=λs₀ W₀ aJ ad A s E ai F=>wpAny_execs_nil ⟨ad,m,r,F,.refl _ s,h⟩
theorem bt.cons{K:Around->Prop}{st:Stmt}(h:dC prog w K env m r st (HL prog w K env rest Φ)):bt prog w K env m r (st::rest) Φ:=λs₀ W₀ aJ ad A s E ai F=>by
 refine wpAny_execs_cons (dV (h s₀ W₀ aJ ad A s E ai F) (λf s' o=>?_) λ_ _ e=>e);induction f with
 |next=>refine gA o λa3 m' r' a k b=>?_;exact dV (b s₀ W₀ aJ a3 A s' E ai a) (λf b2 o=>o.pre k) λ_ _ e=>e
 |brk=>exact o
 |cont=>exact o
 |ret v=>exact o
theorem bt.weak{K:Around->Prop}(h:bt prog w K env m r' ss Φ)(a0:∀a,r.J a↔r'.J a)(b5:∀h,r.P h->r'.P h):bt prog w K env m r ss Φ:=λs₀ W₀ aJ ad A s E ai F=>by
 have t4:r.J=r'.J:=funext λa=>propext (a0 a);have aS:bP w s₀ env W₀ aJ ad m r' s:=⟨t4▸F.F,t4▸F.fV,b5 _ F.p⟩
 refine dV (h s₀ W₀ aJ ad A s E ai aS) (λf s' o=>?_) λ_ _ e=>e;have:cD env m ad r=cD env m ad r':=by unfold cD;rw[t4]
 rw[this];exact o
theorem bC.lift{ad:Str->Addr}(F:b1 w s₀ env W₀ ad (λa=>aJ a\/r.J a) m s)(k:bC (b4 env m ad) (b4 env m' a3) s s'):bC (cD env m ad r) (cD env m' a3 r) s s':=λb o I aM e=>
 ⟨(k b o (λq=>I (.inl q)) aM e).1,λq=>q.elim (k b o (λq=>I (.inl q)) aM e).2 λq=>I (.inr q)⟩
theorem b1.xm{J:Addr->Prop}{ad:Str->Addr}(F:b1 w s₀ env W₀ ad J m s){a:Addr}(af:J a):¬b4 env m ad a:=λq=>by
 refine eR (F.eg a af) λab ae aC bc=>?_;rcases q with q |⟨nm,q⟩ |⟨y,av,q⟩
 ·exact ae q
 ·exact aC nm a q rfl
 ·exact bc y av q
theorem bP.turn{ad:Str->Addr}(F:bP w s₀ env W₀ aJ ad m r s)(aS:b1 w s₀ env W₀ a3 (λa=>aJ a\/r.J a) m' s')(k:bC (b4 env m ad) (b4 env m' a3) s s'):bP w s₀ env W₀ aJ a3 m' r s'/\bC (cD env m ad r) (cD env m' a3 r) s s':=by
 refine⟨⟨aS,F.fV,r.st _ _ (λb o I e=>?_) F.p⟩,k.lift F.F⟩;exact(k b o (F.F.xm (.inr I)) (F.F.st.low b (.dy (.inr I))).2 e).1
theorem df.R{st:Stmt}{z5:dp->Loc->Prop}(h:df prog w n env m st z5)(bf:∀p m,¬z5 (.ret p) m)(hT:∀f m',z5 f m'->Φ f m' r):ek prog w n env m r st Φ:=λs₀ W₀ aJ ad A s E ai F=>by
 refine dV (h s₀ W₀ _ ad A s E ai F.F) (λf s' o=>?_) λ_ _ e=>e;induction f with
 |next=>refine bj o λa3 m' aS k b=>?_;refine aE (F.turn aS k) λab ae=>?_;exact⟨a3,m',r,ab,ae,hT _ _ b⟩
 |brk=>refine bj o λa3 m' aS k b=>?_;refine aE (F.turn aS k) λab ae=>?_;exact⟨a3,m',r,ab,ae,hT _ _ b⟩
 |cont=>refine bj o λa3 m' aS k b=>?_;refine aE (F.turn aS k) λab ae=>?_;exact⟨a3,m',r,ab,ae,hT _ _ b⟩
 |ret v=>refine nI o λp _ _ _ _ b=>?_;exact absurd b (bf p [])
theorem mg{x:Str}{e:Expr}{p:ak}(he:aV prog w n env m r e p)(aa:cb p)(ar:env.kindOf x=some .local\/(env.kindOf x=some .cell/\(env.cells.lookup x).isSome=true))(h:Φ .next ((x,p)::m) r)
  (hs:swapsWith e (some (.Name x px)) pos.line env=pure false):ek prog w n env m r (.Assign [.Name x px] e pos) Φ:=λs₀ W₀ aJ ad A s E ai F=>by
 refine wpAny_Assign_Name (he _ A s _ E ai F.F.st F.dq F.p λv au aq az aF=>?_) hs;have aX:=F.ext az aF;exact aX.F.put aq aa ar λs' aS k=>aE (aX.turn aS k) λab ae=>⟨ad,_,r,ab,(bC.ext az).trans ae,h⟩
theorem n9{K:Around->Prop}(bx:∀A,K A->bK n A){t:Expr}{a b:List Stmt}{c:Bool}(aM:gE prog w n env m r t c)(af:c=true->bt prog w K env m r a Φ)(I:c=false->bt prog w K env m r b Φ):dC prog w K env m r (.If t a b pos) Φ:=λs₀ W₀ aJ ad A s E ai F=>by
 refine wpAny_If (aM _ A s _ E (bx A ai) F.F.st F.dq F.p λau az aF=>?_);induction c with
 |true=>exact dV (af rfl s₀ W₀ aJ ad A au E ai (F.ext az aF)) (λf s' o=>o.pre (.ext az)) λ_ _ e=>e
 |false=>exact dV (I rfl s₀ W₀ aJ ad A au E ai (F.ext az aF)) (λf s' o=>o.pre (.ext az)) λ_ _ e=>e
theorem bP.pW{ad:Str->Addr}(F:bP w s₀ env W₀ aJ ad m r s):∀a,r.J a->s₀.heap.get? a=none/\(∃o,s.heap.get? a=some o/\cx o)/\¬cc a:=λa af=>⟨(F.F.eg a (.inr af)).1,F.F.st.low a (.dy (.inr af))⟩
theorem ek.ret{e:Expr}{p:ak}(he:aV prog w n env m r e p)(aa:cb p)(h:Φ (.ret p) [] r):ek prog w n env m r (.Return (some e) pos) Φ:=λs₀ W₀ aJ ad A s E ai F=>by
 refine wpAny_Return_some (he _ A s _ E ai F.F.st F.dq F.p λv au aq az aF=>?_);have aX:=F.ext az aF;refine⟨p,r,?_,aa,F.F.sW.trans az,aF,aX.p,aX.pW,λb o I aM q=>⟨az.keep b o aM q,λz=>I (.inr z)⟩,h⟩;exact aq.upd (λb o I _ e=>⟨e,λq=>I (q.elim .inl λq=> .dy q)⟩) aa
theorem dC.brk{K:Around->Prop}(h:Φ .brk m r):dC prog w K env m r (.Break pos) Φ:=λs₀ W₀ aJ ad A s E ai F=>wpAny_Break ⟨ad,m,r,F,.refl _ s,h⟩
theorem dC.cont{K:Around->Prop}(h:Φ .cont m r):dC prog w K env m r (.Continue pos) Φ:=λs₀ W₀ aJ ad A s E ai F=>wpAny_Continue ⟨ad,m,r,F,.refl _ s,h⟩
theorem dC.of{K:Around->Prop}(bx:∀A,K A->bK n A){st:Stmt}(h:ek prog w n env m r st Φ):dC prog w K env m r st Φ:=λs₀ W₀ aJ ad A s E ai F=>h s₀ W₀ aJ ad A s E (bx A ai) F
theorem bt.of{K:Around->Prop}(bx:∀A,K A->bK n A)(h:aZ prog w n env m r ss Φ):bt prog w K env m r ss Φ:=λs₀ W₀ aJ ad A s E ai F=>h s₀ W₀ aJ ad A s E (bx A ai) F
theorem aZ.nil(h:Φ .next m r):aZ prog w n env m r [] Φ:=bt.nil h
theorem aZ.cons{st:Stmt}(h:ek prog w n env m r st (HL prog w (bK n) env rest Φ)):aZ prog w n env m r (st::rest) Φ:=bt.cons h
theorem aZ.weak(h:aZ prog w n env m r' ss Φ)(a0:∀a,r.J a↔r'.J a)(b5:∀h,r.P h->r'.P h):aZ prog w n env m r ss Φ:=bt.weak h a0 b5
theorem mh{t:Expr}{a b:List Stmt}{c:Bool}(aM:gE prog w n env m r t c)(af:c=true->aZ prog w n env m r a Φ)(I:c=false->aZ prog w n env m r b Φ):ek prog w n env m r (.If t a b pos) Φ:=n9 (λ_ h=>h) aM af I
theorem ek.brk(h:Φ .brk m r):ek prog w n env m r (.Break pos) Φ:=dC.brk h
end
section
variable {prog:Program} {w:World} {n:Nat} {env:Env} {m:Loc} {r:Rs} {Φ:dp->Loc->Rs->Prop}
theorem DK{x:Str}{ad:Str->Addr}{r₁:Rs}{P:Nat->Value->Prop}{T:Nat->Heap->Prop}{K:Around->Prop}(inv:Nat->Loc->Rs->Prop)(ai:K A)
  (aF:G w au.heap) (dq:∀a,aJ a->∃o,au.heap.get? a=some o) (bp:bP w s₀ env W₀ (λa=>aJ a\/a∈wr) ad m r aL) (zY:bC (cD env m₁ jF r₁) (cD env m ad r) au aL) (aW:Walks prog w A bh fp wr ps.length P T) (bD:T 0 aL.heap) (fl:∀b∈wr,au.heap.get? b=none) (dQ:∀b∈fp,¬cc b) (dD:∀i h,T i h->∀b∈wr,∃o,h.get? b=some o/\cx o)
  (kM:∀b∈fp,b∈wr\/((∃o,au.heap.get? b=some o)/\¬bU W₀ env m₁ jF (λa=>aJ a\/r₁.J a) b)\/∃o,∀j m' r' h,inv j m' r'->r'.P h->h.get? b=some o) (b5:∀i u,P i u->∃q,ps[i]? =some q/\a6 w au.heap (bU W₀ env m₁ jF (λa=>aJ a\/r₁.J a)) q u) (cN:∀p∈ps,cb p)
  (ar:env.kindOf x=some .local\/(env.kindOf x=some .cell/\(env.cells.lookup x).isSome=true)) (h0:inv 0 m r)
  (turn:∀j p m' r',ps[j]? =some p->inv j m' r'->bt prog w K env ((x,p)::m') r' body (ql (inv (j+1)) Φ))
  (done:∀m' r',inv ps.length m' r'->bt prog w K env m' r' orelse Φ):
  codeAny (model prog w) A (.forLoop (.Name x px) (.ref bh) body orelse env) (λz s'=>match z with | .ok f=>jL w s₀ env W₀ aJ Φ (cD env m₁ jF r₁) au f s' | .error e=>cameBackBy (model prog w) A env E e s') aL:=by
 let dN:Addr->Prop:=λa=>aJ a\/a∈wr
 let qK:Nat->Shared->Prop:=λj s'=>∃a3 m' r',bP w s₀ env W₀ dN a3 m' r' s'/\inv j m' r'/\T j s'.heap/\bC (cD env m₁ jF r₁) (cD env m' a3 r') au s'
 have back:∀{a3 m' r' s'},bP w s₀ env W₀ dN a3 m' r' s'->bP w s₀ env W₀ aJ a3 m' r' s':=λaS=>⟨aS.F.uF λa af=>af.imp .inl id,λa af=>aS.fV a (.inl af),aS.p⟩
 have vq:∀{a3 m' r' s'},bP w s₀ env W₀ dN a3 m' r' s'->∀b∈wr,¬cD env m' a3 r' b:=λaS b I q=>q.elim (aS.F.xm (.inl (.inr I))) (aS.fV b (.inr I));have ov:∀{a3:Str->Addr} {m':Loc} {r':Rs} {s' b2:Shared} {j h4:Nat} {cH Hw:Loc} {pV:Str->Addr} {eY:Rs},bC (cD env m₁ jF r₁) (cD env m' a3 r') au s'->(∀b∈wr,¬cD env m' a3 r' b)->inv j cH r'->r'.P s'.heap->(eY.P b2.heap)->inv h4 Hw eY->∀{dF},bC (cD env m' a3 r') (cD env dF pV eY) s' b2->∀b∈fp,∀o,s'.heap.get? b=some o->b2.heap.get? b=some o:=by
  intro a3 m' r' s' b2 j h4 cH Hw pV eY bR vf eD bX cf gH dF cI b I o e;have aM:=dQ b I;rcases kM b I with q |⟨⟨bZ,aO⟩,q⟩ |⟨bZ,q⟩
  ·exact(cI b o (vf b q) aM e).1
  ·exact(cI b o (bR b bZ (λz=>z.elim (λz=>q z.ky) λz=>q (.dy (.inr z))) aM aO).2 aM e).1
  ·rw[q _ _ _ _ eD bX] at e;obtain rfl:=bT e;exact q _ _ _ _ gH cf
 have lj:∀b o,au.heap.get? b=some o->b∉wr:=λb o e q=>by rw[fl b q] at e;injection e
 refine codeAny_forLoop (λk s'=>∃j,k=ps.length+1 - j/\j<=ps.length/\qK j s') ?_ (ps.length+1) ⟨0,by walk_at"o",c0 _,ad,m,r,bp,h0,bD,zY⟩;intro k s' dg;refine tu λc6=>oK λcJ kr=>?_;refine dK dg λj dr aN e6=>?_;refine cg e6 λa3 m' r' aS hinv jV kO=>?_;subst dr;have uC:∀(h':Heap) (tk:Nat),(∀b o,b∉wr->s'.heap.get? b=some o->h'.get? b=some o)->(∀b∈wr,∃o,h'.get? b=some o/\cx o)->bP w s₀ env W₀ dN a3 m' r' {s' with heap:=h',toks:=tk}:=λh' tk cj hex=>by
  refine⟨aS.F.ro (λa af=>af) ⟨h',tk,rfl⟩ (λb o I _ e=>cj b o (λq=>I (.inl (.inr q))) e) ?_ λa af=>?_,aS.fV,r'.st _ _ (λb o I e=>cj b o (λq=>aS.fV b (.inr q) I) e) aS.p⟩
  ·exact aS.F.dM.chg (X:=λa=>a∈wr) aS.F.st.g (λa af=>⟨(aS.F.eg a (.inl (.inr af))).1,dD j _ jV a af⟩) λb o I e=>cj b o I e
  ·by_cases q:a∈wr
   ·exact hex a q
   ·refine aE (aS.F.st.low a (.dy af)) λaU _=>?_;refine ah aU λo e cF=>?_;exact⟨o,cj a o q e,cF⟩
 have pK:∀(h':Heap) (tk:Nat),(∀b o,b∉wr->s'.heap.get? b=some o->h'.get? b=some o)->bC (cD env m₁ jF r₁) (cD env m' a3 r') au {s' with heap:=h',toks:=tk}:=λh' tk cj b o I aM e=>⟨cj b o (lj b o e) (kO b o I aM e).1,(kO b o I aM e).2⟩
 by_cases cu:j < ps.length
 ·refine aW.item j s' _ _ cu jV λv h' tk o1 nH cj=>?_;refine ah (b5 j v o1) λp aa kn=>?_;have lC:p∈ps:=eW aa;have hF:=uC h' tk cj λb I=>dD (j+1) _ nH b I;have ox:=pK h' tk cj;have Bq:a6 w h' (bU W₀ env m' a3 λa=>dN a\/r'.J a) p v:=by
   refine kn.upd (λb o I U e=>?_) (cN p lC);have aM:=aF.gf e U;refine aE (ox b o (λq=>q.elim (λq=>I q.ky) λq=>I (.dy (.inr q))) aM e) λku h5=>?_;refine⟨ku,λq=>?_⟩;rcases q.split with q |((q |q) |q) |q
   ·exact I (.nV q)
   ·exact I (.dy (.inl q))
   ·exact lj b o e q
   ·exact h5 (.inr q)
   ·exact h5 (.inl q)
  refine kr _ _ (tu λCx=>oK λVx B6=>?_);refine wpAny_assign_Name (hF.F.put Bq (cN p lC) ar λc9 qI pb=>?_);refine aE (hF.turn qI pb) λx1 HS=>?_;have l2:=ox.trans HS;have r8:T (j+1) c9.heap:=aW.frame _ _ _ nH (ov ox (vq hF) hinv hF.p x1.p hinv HS);refine B6 _ _ (dV (turn j p m' r' aa hinv s₀ W₀ dN a3 A c9 _ ai x1) (λf gP o=>?_) λ_ _ e=>e);have n1:∀gp fq kq,bP w s₀ env W₀ dN gp fq kq gP->bC (cD env ((x,p)::m') a3 r') (cD env fq gp kq) c9 gP->inv (j+1) fq kq->∃k,k < ps.length+1 - j/\∃h4,k=ps.length+1 - h4/\h4<=ps.length/\qK h4 gP:=λgp fq kq gV fW hi=>
   ⟨ps.length+1 - (j+1),by exact Nat.sub_lt_sub_left (Nat.lt_succ_of_lt ‹_›) (k6 _),j+1,rfl,cu,gp,fq,kq,gV,hi,aW.frame _ _ _ r8 (ov l2 (vq x1) hinv x1.p gV.p hi fW),l2.trans fW⟩
  induction f with
  |next=>refine gA o λgp fq kq gV fW hi=>?_;exact n1 gp fq kq gV fW hi
  |cont=>refine gA o λgp fq kq gV fW hi=>?_;exact n1 gp fq kq gV fW hi
  |brk=>refine gA o λgp fq kq gV fW hi=>?_;exact⟨gp,fq,kq,back gV,l2.trans fW,hi⟩
  |ret v=>
   refine jL.pre l2 (f:= .ret v) ?_;refine bj o λp r' a b c=>?_;exact⟨p,r',a.upd (λb o I _ e=>⟨e,λq=>I (q.imp id λq=>q.imp .inl id)⟩) b,b,c⟩
 ·have rV:j=ps.length:=by exact Nat.le_antisymm ‹_› (Nat.not_lt.mp ‹_›)
  subst rV;refine aW.done s' _ _ jV λh' tk cj=>?_;have vY:bP w s₀ env W₀ aJ a3 m' r' {s' with heap:=h',toks:=tk}:=by
   refine⟨aS.F.ro (λa af=>af.imp .inl id) ⟨h',tk,rfl⟩ (λb o I _ e=>cj b o (λq=>I (.inl (.inr q))) e) ?_ λa af=>?_,λa af=>aS.fV a (.inl af),r'.st _ _ (λb o I e=>cj b o (λq=>aS.fV b (.inr q) I) e) aS.p⟩
   ·exact aS.F.dM.chg (X:=λa=>a∈wr) aS.F.st.g (λa af=>⟨(aS.F.eg a (.inl (.inr af))).1,dD _ _ jV a af⟩) λb o I e=>cj b o I e
   ·have aA:a∉wr:=λq=>af.elim (λz=>by refine aP (dq a z) λo e=>?_;exact lj a o e q) λz=>aS.fV a (.inr q) z;refine fh λfz cE=>?_;refine aE (aS.F.st.low a (.dy (af.imp .inl id))) λa7 _=>?_;refine ah a7 λo e cF=>?_;refine cE ?_;exact⟨o,cj a o aA e,cF⟩
  exact kr _ _ (dV (done m' r' hinv s₀ W₀ aJ a3 A _ _ ai vY) (λf b2 o=>o.pre (pK h' tk cj)) λ_ _ e=>e)
theorem bP.oF{ad:Str->Addr}(F:bP w s₀ env W₀ aJ ad m r s)(e:Ext s s')(g:G w s'.heap)(aA:∀a∈wr,s.heap.get? a=none/\(∃o,s'.heap.get? a=some o/\cx o)/\¬cc a):bP w s₀ env W₀ (λa=>aJ a\/a∈wr) ad m r s':=by
 refine⟨F.F.oF e g (λa af=>af.imp .inl id) λa af aN=>?_,λa af=>?_,(F.ext e g).p⟩
 ·rcases af with(af |af) |af
  ·exact absurd (.inl af) aN
  ·exact aA a af
  ·exact absurd (.inr af) aN
 ·rcases af with af |af
  ·exact F.fV a af
  ·intro q;refine aE (F.F.st.low a (.dy (.inr q))) λbk _=>?_;refine ah bk λo aO _=>?_;rw[(aA a af).1] at aO;injection aO
theorem JN{K:Around->Prop}(bx:∀A,K A->bK n A){x:Str}{iter:Expr}(inv:Nat->Loc->Rs->Prop)(hit:aV prog w n env m r iter q)(gk:cw prog w q ps)(aG:cb q)(cN:∀p∈ps,cb p)
  (ar:env.kindOf x=some .local\/(env.kindOf x=some .cell/\(env.cells.lookup x).isSome=true)) (h0:inv 0 m r)
  (turn:∀j p m' r',ps[j]? =some p->inv j m' r'->bt prog w K env ((x,p)::m') r' body (ql (inv (j+1)) Φ))
  (done:∀m' r',inv ps.length m' r'->bt prog w K env m' r' orelse Φ) (hs:∀v,foldedSetIterable iter env v=pure v):dC prog w K env m r (.For (.Name x px) iter body orelse pos) Φ:=λs₀ W₀ aJ ad A s E ai F=>by
 refine wpAny_For (hit _ A s _ E (bx A ai) F.F.st F.dq F.p λjx au aq az aF=>?_) hs;have aX:=F.ext az aF;refine gk _ A au jx _ E ((bx A ai).le (c0 _)) aF aX.F.st.low aq λbh fp wr P T aL aR aY aW bD fl dQ dD kM b5=>?_;have bp:=aX.oF aR aY (wr:=wr) λa af=>⟨fl a af,dD 0 _ bD a af,(dQ a (aW.sub a af)).2⟩
 refine codeAny_mono (DK (E:=E) (m₁:=m) (jF:=ad) (r₁:=r) inv ai aF (λa af=>aE (aX.F.st.low a (.dy (.inl af))) λRW _=>ah RW λo e _=>⟨o,e⟩) bp (.ext aR) aW bD fl (λb I=>(dQ b I).2) dD (λb I=>(kM b I).imp id λQ1=>aE Q1 λa c=> .inl ⟨a,c aG⟩) b5 cN ar h0 turn done) λz s' o=>?_;induction z with
 |error e=>exact o
 |ok f=>exact jL.pre (.ext az) o
theorem n7{x:Str}{iter:Expr}(inv:Nat->Loc->Rs->Prop)(hit:aV prog w n env m r iter q)(gk:cw prog w q ps)(aG:cb q)(cN:∀p∈ps,cb p)
  (ar:env.kindOf x=some .local\/(env.kindOf x=some .cell/\(env.cells.lookup x).isSome=true)) (h0:inv 0 m r)
  (turn:∀j p m' r',ps[j]? =some p->inv j m' r'->aZ prog w n env ((x,p)::m') r' body (ql (inv (j+1)) Φ))
  (done:∀m' r',inv ps.length m' r'->aZ prog w n env m' r' orelse Φ) (hs:∀v,foldedSetIterable iter env v=pure v):ek prog w n env m r (.For (.Name x px) iter body orelse pos) Φ:=JN (λ_ h=>h) inv hit gk aG cN ar h0 turn done hs
end
section
variable {prog:Program} {w:World} {n:Nat} {env:Env} {m:Loc} {r:Rs} {Φ:dp->Loc->Rs->Prop}
theorem y0{K:Around->Prop}(bx:∀A,K A->bK n A)(inv:Nat->Loc->Rs->Prop)(k:Nat)(h0:inv k m r)
  (turn:∀k m' r',inv k m' r'->∃b,gE prog w n env m' r' test b/\(b=true->bt prog w K env m' r' body (ql (λdF eY=>∃k',k' < k/\inv k' dF eY) Φ))/\(b=false->bt prog w K env m' r' orelse Φ)):
  dC prog w K env m r (.While test body orelse pos) Φ:=λs₀ W₀ aJ ad A s E ai F=>by
 refine wpAny_While (codeAny_whileLoop (λk s'=>∃a3 m' r',bP w s₀ env W₀ aJ a3 m' r' s'/\inv k m' r'/\bC (cD env m ad r) (cD env m' a3 r') s s') ?_ k ⟨ad,m,r,F,h0,.refl _ s⟩);intro k s' dg;refine tu λc6=>oK λcJ kr=>?_;refine gA dg λa3 m' r' aS hi kO=>?_;refine dK (turn k m' r' hi) λb aM I aA=>?_;refine aM _ A s' _ _ (bx A ai) aS.F.st aS.dq aS.p λaL aR aY=>?_;have bp:=aS.ext aR aY;refine kr _ _ ?_;induction b with
 |true=>
  simp only[if_true];refine dV (I rfl s₀ W₀ aJ a3 A aL _ ai bp) (λf ef o=>?_) λ_ _ e=>e;have oo:=kO.trans (bC.ext aR);induction f with
  |next=>refine gA o λmV js jw hF gG aU=>?_;refine ah aU λk' cj jQ=>?_;exact⟨k',cj,mV,js,jw,hF,jQ,oo.trans gG⟩
  |cont=>refine gA o λmV js jw hF gG a7=>?_;refine ah a7 λk' cj jQ=>?_;exact⟨k',cj,mV,js,jw,hF,jQ,oo.trans gG⟩
  |brk=>refine gA o λmV js jw hF gG jQ=>?_;exact⟨mV,js,jw,hF,oo.trans gG,jQ⟩
  |ret v=>exact jL.pre oo (f:= .ret v) o
 |false=>
  simp only[Bool.false_eq_true,if_false];refine dV (aA rfl s₀ W₀ aJ a3 A aL _ ai bp) (λf ef o=>?_) λ_ _ e=>e;exact jL.pre (kO.trans (bC.ext aR)) o
theorem Ja(inv:Nat->Loc->Rs->Prop)(k:Nat)(h0:inv k m r)
  (turn:∀k m' r',inv k m' r'->∃b,gE prog w n env m' r' test b/\(b=true->aZ prog w n env m' r' body (ql (λdF eY=>∃k',k' < k/\inv k' dF eY) Φ))/\(b=false->aZ prog w n env m' r' orelse Φ)):
  ek prog w n env m r (.While test body orelse pos) Φ:=y0 (λ_ h=>h) inv k h0 turn
end
section
variable {prog:Program} {w:World} {n:Nat} {env:Env} {m:Loc} {r:Rs} {Φ:dp->Loc->Rs->Prop}
theorem b1.z9{J:Addr->Prop}{ad:Str->Addr}(F:b1 w s₀ env W₀ ad J m s)(a0:∀a,dN a->(J a\/(s.heap.get? a=none/\¬cc a))/\∃o,s'.heap.get? a=some o/\cx o)(jE:∃h tk,s'={s with heap:=h,toks:=tk})
  (k:∀b o,¬J b->b≠env.locals->¬cc b->s.heap.get? b=some o->s'.heap.get? b=some o) (tR:∀o,s.heap.get? env.locals=some o->∃bQ,s'.heap.get? env.locals=some {o with slots:=bQ}) (g:G w s'.heap):b1 w s₀ env W₀ ad dN m s':=by
 have tV:∀b o,s₀.heap.get? b=some o->¬J b:=λb o e q=>by rw[(F.eg b q).1] at e;injection e
 have nl:¬J env.locals:=λq=>(F.eg _ q).2.1 rfl;have cZ:∀nm c,env.cells.lookup nm=some c->¬J c:=λnm c U q=>(F.eg _ q).2.2.1 nm c U rfl;have no:∀y,dn m y->¬J (ad y):=λy av q=>(F.eg _ q).2.2.2 y av rfl;have Hk:∀{cH},s.heap.Ns env.locals cH->s'.heap.Ns env.locals cH:=λ⟨o,es,ep,e,q⟩=>aP (tR o e) λbQ aO=>⟨_,es,ep,aO,q⟩
 have dt:∀y v,hA env s.heap y v->hA env s'.heap y v:=λy v q=>by
  rcases q with⟨bR,cH,aA,aq⟩ |⟨bR,c,U,o,aj,hd⟩
  ·exact .inl ⟨bR,cH,Hk aA,aq⟩
  ·exact .inr ⟨bR,c,U,o,k _ _ (cZ _ _ U) (F.iT _ _ U).2 (F.st.cZ _ _ U) aj,hd⟩
 refine cn F.same λh₁ sY az=>?_;refine cn jE λcX Ao aR=>?_;have kK:∀b,bU W₀ env m ad dN b->bU W₀ env m ad J b\/(dN b/\s.heap.get? b=none):=λb I=>by
  rcases I with I |I |I |I |I
  ·exact .inl (.inl I)
  ·exact .inl (.inr (.inl I))
  ·exact .inl (.inr (.inr (.inl I)))
  ·exact .inl (.inr (.inr (.inr (.inl I))))
  ·rcases(a0 b I).1 with q |q
   ·exact .inl (.inr (.inr (.inr (.inr q))))
   ·exact .inr ⟨I,q.1⟩
 have gr:∀b o,¬bU W₀ env m ad J b->o.cls≠ .none->s.heap.get? b=some o->s'.heap.get? b=some o/\¬bU W₀ env m ad dN b:=λb o I U e=>⟨k b o (λq=>I (.inr (.inr (.inr (.inr q))))) (λq=>I (.inr (.inl q))) (F.st.g.gf e U) e,λq=>(kK b q).elim I λz=>by rw[z.2] at e;injection e⟩
 have old:∀a,s.heap.get? a=none->¬cc a->s₀.heap.get? a=none:=λa af aM=>by
  induction e:s₀.heap.get? a with
  |none=>rfl
  |some o=>rw[F.keep _ _ aM e] at af;injection af
 refine⟨⟨cX,Ao,by rw[aR,az]⟩,λb o I e=>k b o (tV b o e) (λq=>by rw[q,F.new] at e;injection e) I (F.keep b o I e),F.dM,⟨F.st.fn,F.st.gl,F.st.bi,g,λb I=>?_,F.st.nl,F.st.cZ,λy q aG=>?_⟩,F.inj,λy av=>⟨dt _ _ (F.own y av).1,(F.own y av).2⟩,λa af=>?_,F.new,F.iT,F.apart,F.fg,
  let⟨cH,aA⟩:=F.ns;⟨cH,Hk aA⟩,λnm c U=>dP (F.cl nm c U) λv o aj hd=>⟨v,o,k _ _ (cZ nm c U) (F.iT nm c U).2 (F.st.cZ nm c U) aj,hd⟩,F.hh⟩
 ·rcases kK b I with lu |lu
  ·refine aE (F.st.low b lu) λaU aM=>?_;refine ah aU λo e cF=>?_;refine⟨?_,aM⟩;rcases I with I |rfl |⟨nm,I⟩ |⟨y,av,rfl⟩ |I
   ·exact⟨o,k b o (λq=>by refine aE (F.fg b I) λa7 _=>?_;refine ah a7 λbZ aO _=>?_;exact tV b bZ aO q) (λq=>by refine aE (F.fg b I) λbk _=>?_;refine ah bk λbZ aO _=>?_;rw[q,F.new] at aO;injection aO) aM e,cF⟩
   ·exact aP (tR o e) λbQ aO=>⟨_,aO,cF⟩
   ·exact⟨o,k b o (cZ nm b I) (F.iT nm b I).2 aM e,cF⟩
   ·exact⟨o,k _ o (no y av) (F.own y av).2.2.1 aM e,cF⟩
   ·exact(a0 b I).2
  ·refine⟨(a0 b lu.1).2,?_⟩;rcases(a0 b lu.1).1 with q |q
   ·exact(F.st.low b (.dy q)).2
   ·exact q.2
 ·refine ah (F.st.has y q aG) λu bE eZ=>?_;refine⟨u,dt _ _ bE,?_⟩;have et:=F.hh y q aG;cases q with
  |bw l=>
   refine cg eZ λb vs n ax aD a8 bW=>?_;have dE:dn m y:= .inl ⟨l,aG⟩;have eo:=bE.fun (F.own y dE).1;rw[ax] at eo;(injection eo with bB;subst bB);exact⟨_,vs,n,ax,.inr (.inr (.inr (.inl ⟨y,dE,rfl⟩))),k _ _ (no y dE) (F.own y dE).2.2.1 (F.st.g.gf a8 eN) a8,bW.upd gr et⟩
  |eP ks l=>
   refine iS eZ λb vs n ax aD a8 bW d7=>?_;have dE:dn m y:= .inr ⟨ks,l,aG⟩;have eo:=bE.fun (F.own y dE).1;rw[ax] at eo;(injection eo with bB;subst bB);exact⟨_,vs,n,ax,.inr (.inr (.inr (.inl ⟨y,dE,rfl⟩))),k _ _ (no y dE) (F.own y dE).2.2.1 (F.st.g.gf a8 eN) a8,bW,d7.upd gr et⟩
  |_=>exact eZ.upd gr et
 ·rcases(a0 a af).1 with q |⟨q,aM⟩
  ·exact F.eg a q
  ·refine⟨old a q aM,λz=>?_,λnm c U z=>?_,λy av z=>?_⟩
   ·refine aP F.ns λcH aA=>?_;refine ah (nj aA) λo e _=>?_;rw[<-z,q] at e;injection e
   ·refine dP (F.cl nm c U) λv o e _=>?_;rw[<-z,q] at e;injection e
   ·refine aE (F.st.low (ad y) (.inr (.inr (.inr (.inl ⟨y,av,rfl⟩))))) λbz _=>?_;refine ah bz λo e _=>?_;rw[z,q] at e;injection e
theorem b1.O0{J:Addr->Prop}{ad:Str->Addr}(F:b1 w s₀ env W₀ ad J m s)(a0:∀a,dN a->(J a\/(s.heap.get? a=none/\¬cc a))/\∃o,s'.heap.get? a=some o/\cx o)(jE:∃h tk,s'={s with heap:=h,toks:=tk})
  (k:∀b o,¬J b->¬cc b->s.heap.get? b=some o->s'.heap.get? b=some o) (g:G w s'.heap):b1 w s₀ env W₀ ad dN m s':=F.z9 a0 jE (λb o ab _ aC e=>k b o ab aC e) (λo e=>⟨o.slots,k _ o (λq=>(F.eg _ q).2.1 rfl) F.st.nl e⟩) g
theorem bP.ground{ad:Str->Addr}(F:bP w s₀ env W₀ aJ ad m r s)(k:∀b o,¬r.J b->s.heap.get? b=some o->h'.get? b=some o):G w h':=
 F.F.dM.chg (X:=r.J) F.F.st.g (λa af=>cB (F.pW a af) λab ae aC=>⟨ab,ae⟩) k
theorem bP.grow{ad:Str->Addr}(F:bP w s₀ env W₀ aJ ad m r s)(jE:∃h tk,s'={s with heap:=h,toks:=tk})(k:∀b o,¬r.J b->¬cc b->s.heap.get? b=some o->s'.heap.get? b=some o)(g:G w s'.heap)
  (a0:∀a,r'.J a->(r.J a\/(s.heap.get? a=none/\¬cc a))/\∃o,s'.heap.get? a=some o/\cx o) (p:r'.P s'.heap):bP w s₀ env W₀ aJ ad m r' s'/\bC (cD env m ad r) (cD env m ad r') s s':=by
 refine⟨⟨F.F.O0 (λa af=>?_) jE (λb o I aM e=>k b o (λq=>I (.inr q)) aM e) g,λa af q=>?_,p⟩,λb o I aM e=>⟨k b o (λq=>I (.inr q)) aM e,λq=>?_⟩⟩
 ·rcases af with af |af
  ·refine aE (F.F.st.low a (.dy (.inl af))) λb7 aM=>?_;refine ah b7 λo e cF=>?_;exact⟨.inl (.inl af),o,k a o (F.fV a af) aM e,cF⟩
  ·refine aE (a0 a af) λab ae=>?_;exact⟨ab.elim (λq=> .inl (.inr q)) .inr,ae⟩
 ·rcases(a0 a q).1 with z |z
  ·exact F.fV a af z
  ·refine aE (F.F.st.low a (.dy (.inl af))) λcC _=>?_;refine ah cC λo e _=>?_;rw[z.1] at e;injection e
 ·rcases q with q |q
  ·exact I (.inl q)
  ·rcases(a0 b q).1 with z |z
   ·exact I (.inr z)
   ·rw[z.1] at e;injection e
end
def je(l:List Str)(vs:List Value):Prop:=∃ls:List (Str×Tok),strValues ls=vs/\ls.map (·.1)=l
theorem je.of{l:List Str}(x:bJ w h W (aB l) vs):je l vs:=Ex x
theorem je.vQ{w:World}{h:Heap}{W:Addr->Prop}:∀{l:List Str} {vs:List Value},je l vs->bJ w h W (aB l) vs
 |l,vs,⟨ls,ab,ae⟩=>by
  subst ab ae;induction ls with
  |nil=>exact rfl
  |cons z r aw=>exact⟨.str z.1 z.2,_,rfl,⟨z.2,rfl⟩,aw⟩
theorem je.len{l:List Str}(x:je l vs):vs.length=l.length:=by
 refine ah x λls aU a7=>?_;subst aU;subst a7;simp[strValues]
def rh(h:Heap)(a:Addr)(l:List Str):Prop:=∃vs n,h.get? a=some {cls:= .type "list",data:= .seq ⟨vs⟩ n}/\je l vs
theorem rh.keep{a:Addr}{l:List Str}(x:rh h a l)(k:∀o,h.get? a=some o->h'.get? a=some o):rh h' a l:=dP x λvs n e s=>⟨vs,n,k _ e,s⟩
theorem rh.some{a:Addr}{l:List Str}(x:rh h a l):∃o,h.get? a=some o/\cx o:=dP x λvs n e s=>⟨_,e,.inr λ_ q=>by injection q⟩
noncomputable abbrev br{α:Type}(L:List (Addr×α)):List Addr:=L.map λz=>z.1
noncomputable def fP(L:List (Addr×List Str)):Rs where
 J:=λa=>a∈br L
 P:=λh=>(br L).Nodup/\∀z∈L,rh h z.1 z.2
 st:=λh h' k p=>⟨p.1,λz hz=>(p.2 z hz).keep λo e=>k _ o (fX hz) e⟩
def jJ(prog:Program)(w:World)(K:Around->Prop)(env:Env)(m:Loc)(r:Rs)(e:Expr)(Ψ:ak->Rs->Prop):Prop:=
 ∀(s₀:Shared) (W₀ aJ:Addr->Prop) (ad:Str->Addr) (A:Around) (s:Shared) (Q:Value->Shared->Prop) (E:Value->Shared->Prop),K A->bP w s₀ env W₀ aJ ad m r s->
  (∀p r' v s',bP w s₀ env W₀ aJ ad m r' s'->bC (cD env m ad r) (cD env m ad r') s s'->a6 w s'.heap (bU W₀ env m ad λa=>aJ a\/r'.J a) p v->cb p->Ψ p r'->Q v s')->wpAny (model prog w) A (eval e env) Q E s
abbrev fi(prog:Program)(w:World)(n:Nat)(env:Env)(m:Loc)(r:Rs)(e:Expr)(Ψ:ak->Rs->Prop):Prop:=jJ prog w (bK n) env m r e Ψ
variable {Ψ kl:ak->Rs->Prop} {L fH:List (Addr×List Str)}
section
variable {prog:Program} {w:World} {n:Nat} {env:Env} {m:Loc} {r:Rs} {Φ:dp->Loc->Rs->Prop}
theorem jJ.mono{K:Around->Prop}{e:Expr}(h:jJ prog w K env m r e Ψ)(k:∀p r',Ψ p r'->kl p r'):jJ prog w K env m r e kl:=λs₀ W₀ aJ ad A s Q E ai F a4=>
 h s₀ W₀ aJ ad A s Q E ai F λp r' v s' aS dT aq aa cU=>a4 p r' v s' aS dT aq aa (k _ _ cU)
theorem fi.mono{e:Expr}(h:fi prog w n env m r e Ψ)(k:∀p r',Ψ p r'->kl p r'):fi prog w n env m r e kl:=jJ.mono h k
theorem jJ.of{K:Around->Prop}(bx:∀A,K A->bK n A){e:Expr}(h:fi prog w n env m r e Ψ):jJ prog w K env m r e Ψ:=λs₀ W₀ aJ ad A s Q E ai F a4=>h s₀ W₀ aJ ad A s Q E (bx A ai) F a4
theorem sJ{M:Model}{e:Expr}{Q:List Value->Shared->Prop}(hs:starEach [e] env=[(false,eval e env)])(h:wpAny M A (eval e env) (λv s'=>Q [v] s') E s):wpAny M A (spliced (backTo pos (starEach [e] env))) Q E s:=by
 rw[hs];exact Calls.spliced_cons (dV h (λv au aq=>lS aq) λ_ _ e=>e)
theorem CT{K:Around->Prop}(bx:∀A,K A->bK n A){x:Str}{name:Str}{e:Expr}{T id:String}{p':ak->ak}(mt:Meth T name id)(ag:m.lookup x=some q)(aG:kR q)(bD:Typed w q T)(he:jJ prog w K env m r e Ψ)(f6:∀p r',Ψ p r'->cb p->pU (p' p)/\kR (p' p)/\i0 prog w id q [p] (p' p)/\Φ .next ((x,p' p)::m) r')
  (cv:starEach [e] env=[(false,eval e env)]) (hd:(x==("__debug__":Str))=false)
  (ha:attributeBase (.Name x px) name env (eval (.Name x px) env)=eval (.Name x px) env)
  (jf:((backTo pos (starEach [e] env)).all (λx=> !x.1)&&(backToKw pos (keywordEach [] env)).all (λx=>x.1.isSome)&&decide ([e].length+([]:List Keyword).length+(if([]:List Keyword).isEmpty then 0 else 1) < 30))=true)
  (gO:(apos.endLine==pos.line)=true) (hi:interactive env=false) (hs:swapsWith (.Call (.Attribute (.Name x px) name apos) [e] [] pos) none f5.line env=pure false):
  dC prog w K env m r (.Expr (.Call (.Attribute (.Name x px) name apos) [e] [] pos) f5) Φ:=λs₀ W₀ aJ ad A s E ai F=>by
 refine wpAny_Expr_any ?_ hi hs;have iF:=aG.owned ag;refine mv ha jf gO mt.hG mt.slot mt.ty (wpAny_Name ((F.F.own x iF).1.load F.F.st.fn ?_) hd);refine aE (bD _ s _ F.F.st.g (F.F.ot ag aG)) λab ae=>?_;refine⟨ab,ae,?_⟩;have I:=jz (pos:=pos) (l:=starEach [e] env) (by rw[cv];rfl);refine lb (kA I) (hu I (sJ cv (he s₀ W₀ aJ ad A s _ E ai F λp r' v aL bp k₂ aq aa cU=>?_)));refine eR (f6 p r' cU aa) λa1 a2 dG fo=>?_;refine dG _ A aL (ad x) [v] _ E ((bx A ai).le (c0 _)) bp.F.st.g (F.F.hh x q ag) ⟨aa,trivial⟩ (bp.F.ot ag aG) (.one aq) λu h' tk bL kn=>?_;refine ah (aG.data (bp.F.ot ag aG)) λn6 ig dw=>?_;refine aE (bp.F.mut (tk:=tk) iF a1 (a2.owned a5) ig dw bL kn) λdv gh=>?_;refine aE (bp.turn dv gh) λgi mB=>?_;exact⟨ad,_,r',gi,k₂.trans mB,fo⟩
theorem wt{x:Str}{name:Str}{e:Expr}{T id:String}{p':ak->ak}(mt:Meth T name id)(ag:m.lookup x=some q)(aG:kR q)(bD:Typed w q T)(he:fi prog w n env m r e Ψ)(f6:∀p r',Ψ p r'->cb p->pU (p' p)/\kR (p' p)/\i0 prog w id q [p] (p' p)/\Φ .next ((x,p' p)::m) r')
  (cv:starEach [e] env=[(false,eval e env)]) (hd:(x==("__debug__":Str))=false)
  (ha:attributeBase (.Name x px) name env (eval (.Name x px) env)=eval (.Name x px) env)
  (jf:((backTo pos (starEach [e] env)).all (λx=> !x.1)&&(backToKw pos (keywordEach [] env)).all (λx=>x.1.isSome)&&decide ([e].length+([]:List Keyword).length+(if([]:List Keyword).isEmpty then 0 else 1) < 30))=true)
  (gO:(apos.endLine==pos.line)=true) (hi:interactive env=false) (hs:swapsWith (.Call (.Attribute (.Name x px) name apos) [e] [] pos) none f5.line env=pure false):
  ek prog w n env m r (.Expr (.Call (.Attribute (.Name x px) name apos) [e] [] pos) f5) Φ:=CT (λ_ h=>h) mt ag aG bD he f6 cv hd ha jf gO hi hs
theorem IQ{v:Expr}{lo st:Option Expr}{l:List Str}{a b c:Option Int}(aq:Ev prog w n env m v (.list (aB l)))(hY:jX prog w n env m lo a)(jh:jX prog w n env m hi b)(cv:jX prog w n env m st c)(h0:c≠some 0)(hz:l.length<=sizeLine):
  fi prog w n env m (fP L) (.Subscript v (.Slice lo hi st sp) pos) (λp r'=>∃D,p= .val (.ref D)/\r'=fP (L++[(D,cL l a b c)])):=λs₀ W₀ aJ ad A s Q E ai F a4=>by
 have key:Ev prog w n env m (.Subscript v (.Slice lo hi st sp) pos) (.list (pick (aB l) a b c)):=ug aq hY jh cv h0 (by rw[cz];exact hz);refine PyProof.Rows.Subscript_ (aq _ A s _ E ai F.F.st λo au aj az aF=>?_);show wpAny _ _ (do
  let l<-valueOrNone (evalOpt lo env)
  let u<-holding [l] (valueOrNone (evalOpt hi env))
  let t<-holding [l,u] (valueOrNone (evalOpt st env))
  newFields "slice" [l,u,t]) _ _ _
 have x:=F.F.st;have c4:=x.ext az aF;refine aH (oh hY ai c4 λg0 aL e1 aR aY=>aH (fY (oh jh ai (c4.ext aR aY) λg5 ef pu ee e4=>aH (fY (oh cv ai ((c4.ext aR aY).ext ee e4) λi3 c9 pt jI nC=>?_)))));refine iq ?_ (by show(3:Nat)<=_;decide);have kg:Ext c9 {c9 with heap:=c9.heap.push {cls:= .type "slice",data:= .fields [g0,g5,i3].toArray}}:= .push ..;have jM:=nC.push {cls:= .type "slice",data:= .fields [g0,g5,i3].toArray};have rU:=(((aj.ext aF aR).ext aY ee).ext e4 jI).ext nC kg;have de:(c9.heap.push {cls:= .type "slice",data:= .fields [g0,g5,i3].toArray}).IsSliceOf c9.heap.objs.size g0 g5 i3:= .new ..;have d7:=(((az.trans aR).trans ee).trans jI).trans kg;refine cg rU λadr us k bk aW iW ie=>?_;subst bk;have fin:wpAny (model prog w) A (getItem (.ref adr) (.ref c9.heap.objs.size)) Q E {c9 with heap:=c9.heap.push {cls:= .type "slice",data:= .fields [g0,g5,i3].toArray}}:=by
  refine wpAny_getItem_list_slice (items:=⟨us⟩) ⟨_,iW,rfl,k,rfl⟩ de e1 pu pt h0 ?_ (by show us.length<=_;rw[<-ie.len,cz];exact hz);generalize (c9.heap.push {cls:= .type "slice",data:= .fields [g0,g5,i3].toArray})=hR at*;have iX:=F.ext d7 jM;have WN:Ext s {c9 with heap:=hR.push {cls:= .type "list",data:= .seq (slicePick ⟨us⟩ a b c)}}:=d7.trans (.push ..);have pk:hR.get? hR.objs.size=none:=eA _;have G1:s.heap.get? hR.objs.size=none:=by
   induction q:s.heap.get? hR.objs.size with
   |none=>rfl
   |some o=>have:=d7.keep _ _ (jM.fC pk) q;rw[show({c9 with heap:=hR}:Shared).heap=hR from rfl,pk] at this;injection this
  have row:rh (hR.push {cls:= .type "list",data:= .seq (slicePick ⟨us⟩ a b c)}) hR.objs.size (cL l a b c):=by
   refine⟨(slicePick ⟨us⟩ a b c).toList,0,dc _ rfl,?_⟩;have yl:(slicePick (⟨us⟩:Array Value) a b c).toList=(let t:=sliceBounds a b c us.length;(sliceRange t.1 t.2.1 t.2.2).filterMap (us[·]?)):=by
    unfold slicePick;simp
   rw[yl];have ae:=yS ie (sliceRange (sliceBounds a b c us.length).1 (sliceBounds a b c us.length).2.1 (sliceBounds a b c us.length).2.2);have aC:(sliceRange (sliceBounds a b c us.length).1 (sliceBounds a b c us.length).2.1 (sliceBounds a b c us.length).2.2).filterMap ((aB l)[·]?)=aB (cL l a b c):=by
    rw[<-ie.len];exact sH ak.str l a b c
   rw[aC] at ae;exact je.of ae
  have hK:∀z,(fP (L++[(hR.objs.size,cL l a b c)])).J z->((fP L).J z\/(hR.get? z=none/\¬cc z))/\∃o,(hR.push {cls:= .type "list",data:= .seq (slicePick ⟨us⟩ a b c)}).get? z=some o/\cx o:=λz hz=>by
   have hz:z∈(L++[(hR.objs.size,cL l a b c)]).map (λz=>z.1):=hz;rw[dY,dk] at hz;replace hz:=hz;rcases hz with hz |hz
   ·refine aE (iX.F.st.low z (.dy (.inr hz))) λbz _=>?_;refine ah bz λo e cF=>?_;exact⟨.inl hz,o,dZ _ e,cF⟩
   ·obtain rfl:=cQ.mp hz;exact⟨.inr ⟨pk,jM.fC pk⟩,row.some⟩
  have h2:(fP (L++[(hR.objs.size,cL l a b c)])).P (hR.push {cls:= .type "list",data:= .seq (slicePick ⟨us⟩ a b c)}):=by
   refine aE iX.p λdz bN=>?_;refine⟨?_,λz hz=>?_⟩
   ·rw[br,dY,gL];refine⟨dz,by simp,λy av z hz e=>?_⟩;obtain rfl:=cQ.mp hz;subst e;refine aE (iX.F.st.low _ (.dy (.inr av))) λb7 _=>?_;refine ah b7 λo e _=>?_;have e:hR.get? hR.objs.size=some o:=e;rw[pk] at e;injection e
   ·rcases dk.mp hz with hz |hz
    ·exact(bN z hz).keep λo e=>dZ _ e
    ·obtain rfl:=cQ.mp hz;exact row
  obtain⟨aS,k'⟩:=iX.grow (r':=fP (L++[(hR.objs.size,cL l a b c)])) (s':={c9 with heap:=hR.push {cls:= .type "list",data:= .seq (slicePick ⟨us⟩ a b c)}}) ⟨_,_,rfl⟩ (λb o _ _ e=>dZ _ e) (jM.push _) hK h2;exact a4 (.val (.ref hR.objs.size)) _ _ _ aS ((bC.ext d7).trans k') rfl trivial ⟨_,rfl,rfl⟩
 induction st with
 |none=>exact PyProof.Rows.tail_any (T:="list") ⟨_,iW,rfl⟩ fN.lookup fin rfl
 |some st=>exact PyProof.Rows.tail_any (T:="list") ⟨_,iW,rfl⟩ fN.lookup fin rfl
end
variable {fr:List Env}
section
variable {prog:Program} {w:World} {n:Nat} {env:Env} {m:Loc} {r:Rs}
structure nB (w:World) (s₀:Shared) (W₀:Addr->Prop) (r r':Rs) (s s':Shared):Prop where
 ext:Ext s₀ s'
 g:G w s'.heap
 p:r'.P s'.heap
 j:∀a,r'.J a->s₀.heap.get? a=Option.none/\(∃o,s'.heap.get? a=some o/\cx o)/\¬cc a
 k:bC r.J r'.J s s'
theorem xd{f c:Addr}{o:Obj}{sc:Scope}{t7:Env->Around->Prop}
  (ai:bK (n+1) A) (UU:∀env:Env,t7 env (A.deeper env)) (F:tx w f c names o cP fd body iL lG sc kT) (hlen:args.length=names.length) (cN:dB args)
  (same:∃h tk,s={s₀ with heap:=h,toks:=tk}) (mq:gy s₀.heap s.heap) (dM:G w s₀.heap) (g:G w s.heap) (fg:eI W₀ s₀.heap) (a0:∀a,aJ a\/r.J a->s₀.heap.get? a=none/\(∃o,s.heap.get? a=some o/\cx o)/\¬cc a) (fV:∀a,aJ a->¬r.J a) (aa:r.P s.heap)
  (ke:∀(cJ:List (Str×Value)->Shared->Prop) (c6:Value->Shared->Prop),(∀en au,bJ w au.heap (λa=>W₀ a\/(aJ a\/r.J a)) args en->Ext s au->G w au.heap->cJ (names.zip en) au)->wpAny (model prog w) A.in1 (bindArgs fd ⟨vs,[]⟩) cJ c6 s)
  (h:∀env:Env,c5 env sc->env.code= .ref c->env.qual=kT++".<locals>."->env.frame=some env.locals->bt prog w (t7 env) env (names.zip args) r body Φ)
  (GC:∀m' r',¬Φ .brk m' r'/\¬Φ .cont m' r')
  (R0:∀p v r' s',Φ (.ret p) [] r'->a6 w s'.heap (λa=>W₀ a\/(aJ a\/r'.J a)) p v->cb p->nB w s₀ W₀ r r' s s'->Q v s')
  (Po:∀m' r' s',Φ .next m' r'->nB w s₀ W₀ r r' s s'->Q .none s'):codeAny (model prog w) A (.call (.ref f) ⟨vs,[]⟩) (o8 Q E) s:=by
 refine D2 (J:=λa=>aJ a\/r.J a) ai.lim F hlen cN same mq dM g fg a0 ke ?_;intro env au a9 ec fE d6 F e tw xJ;have dq:∀a,r.J a->¬cc a:=λa af=>(a0 a (.inr af)).2.2;have aX:bP w s₀ env W₀ aJ (λ_=>0) (names.zip args) r au:=⟨F,fV,r.st _ _ (λb o I q=>e.keep b o (dq b I) q) aa⟩
 have Hv:∀b o,s.heap.get? b=some o->¬b4 env (names.zip args) (λ_=>0) b:=λb o q z=>by
  rcases z with z |⟨nm,z⟩ |⟨y,av,z⟩
  ·rw[z,tw] at q;injection q
  ·rw[xJ nm b z] at q;injection q
  ·rcases av with⟨l,av⟩ |⟨ks,l,av⟩
   ·exact od cN (qM av)
   ·exact od cN (qM av)
 refine dV (h env a9 ec fE d6 s₀ W₀ aJ _ _ au _ (UU env) aX) (λer s' o=>?_) λ_ _ x=>x;induction er with
 |next=>
  refine gA o λa3 m' r' aS k hT=>?_;exact Po m' r' s' hT ⟨aS.F.sW,aS.F.st.g,aS.p,aS.pW,λb o I aM q=>let z:=k b o (λz=>z.elim (Hv b o q) I) aM (e.keep b o aM q);⟨z.1,λy=>z.2 (.inr y)⟩⟩
 |brk=>refine gA o λa3 m' r' aS k hT=>?_;exact absurd hT (GC _ _).1
 |cont=>refine gA o λa3 m' r' aS k hT=>?_;exact absurd hT (GC _ _).2
 |ret v=>
  refine AE o λp r' aq e0 aO gv p' h4 k hT=>?_;exact R0 p v r' s' hT aq e0 ⟨aO,gv,p',h4,λb o I aM q=>k b o (λz=>z.elim (Hv b o q) I) aM (e.keep b o aM q)⟩
theorem bP.back{ad:Str->Addr}(F:bP w s₀ env W₀ aJ ad m r s)(B:nB w s₀ W₀ r r' s s'):bP w s₀ env W₀ aJ ad m r' s'/\bC (cD env m ad r) (cD env m ad r') s s':=by
 refine F.grow ?_ (λb o I aM e=>(B.k b o I aM e).1) B.g (λa af=>⟨?_,(B.j a af).2.1⟩) B.p
 ·refine cn B.ext.same λh tk e=>?_;refine cn F.F.same λh' oQ aO=>?_;exact⟨h,tk,by rw[e,aO]⟩
 ·by_cases bf:r.J a
  ·exact .inl bf
  ·refine .inr ⟨?_,(B.j a af).2.2⟩;induction e:s.heap.get? a with
   |none=>rfl
   |some o=>exact absurd af (B.k a o bf (B.j a af).2.2 e).2
theorem bP.callee{ad:Str->Addr}(F:bP w s₀ env W₀ aJ ad m r s):(∀a,(aJ a\/b4 env m ad a)\/r.J a->s₀.heap.get? a=none/\(∃o,s.heap.get? a=some o/\cx o)/\¬cc a)/\∀a,(aJ a\/b4 env m ad a)->¬r.J a:=by
 refine⟨λa af=>?_,λa af q=>?_⟩
 ·rcases af with(af |af) |af
  ·exact⟨(F.F.eg a (.inl af)).1,F.F.st.low a (.dy (.inl af))⟩
  ·refine⟨?_,F.F.st.low a af.ky⟩;rcases af with rfl |⟨nm,af⟩ |⟨x,ag,rfl⟩
   ·exact F.F.new
   ·exact(F.F.iT nm a af).1
   ·exact(F.F.own x ag).2.1
  ·exact F.pW a af
 ·rcases af with af |af
  ·exact F.fV a af q
  ·exact F.F.xm (.inr q) af
theorem C1{x:Str}{l:List ak}(ag:m.lookup x=some (.bw l))(hd:(x==("__debug__":Str))=false)(h:Φ (.ret (.list l)) [] r):ek prog w n env m r (.Return (some (.Name x px)) pos) Φ:=λs₀ W₀ aJ ad A s E ai F=>by
 have aG:kR (.bw l):= .inl ⟨l,rfl⟩;refine wpAny_Return_some (wpAny_Name ((F.F.own x (aG.owned ag)).1.load F.F.st.fn ?_) hd);refine cg (F.F.ot ag aG) λa us k e aW aj hs=>?_
 (injection e with bB;subst bB)
 refine⟨.list l,r,⟨ad x,us,k,rfl,λq=>?_,aj,hs.upd (λb o I _ e=>⟨e,λq=>I (q.elim .inl λq=> .dy q)⟩) (F.F.hh x _ ag)⟩,F.F.hh x _ ag,F.F.sW,F.F.st.g,F.p,F.pW,λb o I aM q=>⟨q,λz=>I (.inr z)⟩,h⟩;rcases q with q |q
 ·refine aE (F.F.fg _ q) λaU _=>?_;refine ah aU λo e cF=>?_;rw[(F.F.own x (aG.owned ag)).2.1] at e;injection e
 ·exact F.F.xm q (.inr (.inr ⟨x,aG.owned ag,rfl⟩))
theorem a6.less{p:ak}{v:Value}(x:a6 w h W p v)(aa:cb p)(aW:∀a,W' a->W a):a6 w h W' p v:=x.upd (λb o I _ e=>⟨e,λq=>I (aW b q)⟩) aa
theorem bJ.less{p:List ak}{v:List Value}(x:bJ w h W p v)(aa:dB p)(aW:∀a,W' a->W a):bJ w h W' p v:=x.upd (λb o I _ e=>⟨e,λq=>I (aW b q)⟩) aa
def eX(prog:Program)(w:World)(n:Nat)(f:Addr)(args:List ak)(r:Rs)(Ψ:ak->Rs->Prop):Prop:=
 ∀(s₀ s:Shared) (W₀ aJ:Addr->Prop) (A:Around) (vs:List Value) (Q:Value->Shared->Prop) (E:Value->Shared->Prop),bK n A->(∃h tk,s={s₀ with heap:=h,toks:=tk})->gy s₀.heap s.heap->G w s₀.heap->G w s.heap->eI W₀ s₀.heap->
  (∀a,aJ a\/r.J a->s₀.heap.get? a=none/\(∃o,s.heap.get? a=some o/\cx o)/\¬cc a)->(∀a,aJ a->¬r.J a)->r.P s.heap->bJ w s.heap (λa=>W₀ a\/(aJ a\/r.J a)) args vs->
  (∀p v r' s',Ψ p r'->a6 w s'.heap (λa=>W₀ a\/(aJ a\/r'.J a)) p v->cb p->nB w s₀ W₀ r r' s s'->Q v s')->codeAny (model prog w) A (.call (.ref f) ⟨vs,[]⟩) (o8 Q E) s
theorem eX.of{f c:Addr}{o:Obj}{sc:Scope} 
  (F:tx w f c names o cP fd body iL lG sc kT) (hlen:args.length=names.length) (cN:dB args)
  (ke:∀(W:Addr->Prop) (A:Around) (s:Shared) (vs:List Value) (cJ:List (Str×Value)->Shared->Prop) (c6:Value->Shared->Prop),G w s.heap->eI W s.heap->bJ w s.heap W sN vs->(∀en au,bJ w au.heap W args en->Ext s au->G w au.heap->cJ (names.zip en) au)->wpAny (model prog w) A (bindArgs fd ⟨vs,[]⟩) cJ c6 s)
  (h:∀env:Env,c5 env sc->env.code= .ref c->env.qual=kT++".<locals>."->env.frame=some env.locals->aZ prog w n env (names.zip args) r body (Ht Ψ)):eX prog w (n+1) f sN r Ψ:=λs₀ s W₀ aJ A vs Q E ai same mq dM g fg a0 fV aa bb a4=>by
 refine xd (t7:=λ_=>bK n) ai (λ_=>ai.in) F hlen cN same mq dM g fg a0 fV aa (λcJ c6 h'=>ke _ _ _ vs _ _ g ?_ bb h') h (λ_ _=>⟨id,id⟩) (λp v r' s' cU aq e0 B=>a4 p v r' s' cU aq e0 B) (λm' r' s' cU B=>a4 .none .none r' s' cU rfl trivial B);intro a af;rcases af with af |af
 ·exact(fg.kt mq) a af
 ·exact(a0 a af).2
def iw(prog:Program)(w:World)(n:Nat)(fr:List Env)(f:Addr)(args:List ak)(r:Rs)(Ψ:ak->Rs->Prop):Prop:=
 ∀(s₀ s:Shared) (W₀ aJ:Addr->Prop) (A:Around) (vs:List Value) (Q:Value->Shared->Prop) (E:Value->Shared->Prop),bK n A->A.frames=some fr->(∃h tk,s={s₀ with heap:=h,toks:=tk})->gy s₀.heap s.heap->G w s₀.heap->G w s.heap->eI W₀ s₀.heap->
  (∀a,aJ a\/r.J a->s₀.heap.get? a=none/\(∃o,s.heap.get? a=some o/\cx o)/\¬cc a)->(∀a,aJ a->¬r.J a)->r.P s.heap->bJ w s.heap (λa=>W₀ a\/(aJ a\/r.J a)) args vs->
  (∀p v r' s',Ψ p r'->a6 w s'.heap (λa=>W₀ a\/(aJ a\/r'.J a)) p v->cb p->nB w s₀ W₀ r r' s s'->Q v s')->codeAny (model prog w) A (.call (.ref f) ⟨vs,[]⟩) (o8 Q E) s
theorem iw.of{f c:Addr}{o:Obj}{sc:Scope} 
  (F:tx w f c names o cP fd body iL lG sc kT) (hlen:args.length=names.length) (cN:dB args)
  (ke:∀(W:Addr->Prop) (A:Around) (s:Shared) (vs:List Value) (cJ:List (Str×Value)->Shared->Prop) (c6:Value->Shared->Prop),G w s.heap->eI W s.heap->bJ w s.heap W sN vs->(∀en au,bJ w au.heap W args en->Ext s au->G w au.heap->cJ (names.zip en) au)->wpAny (model prog w) A (bindArgs fd ⟨vs,[]⟩) cJ c6 s)
  (h:∀env:Env,c5 env sc->env.code= .ref c->env.qual=kT++".<locals>."->env.frame=some env.locals->bt prog w (qt n (env::fr)) env (names.zip args) r body (Ht Ψ)):iw prog w (n+1) fr f sN r Ψ:=λs₀ s W₀ aJ A vs Q E ai d6 same mq dM g fg a0 fV aa bb a4=>by
 refine xd (t7:=λenv A=>bK n A/\A.frames=some (env::fr)) ai (λenv=>⟨ai.in,by show A.frames.map (env::·)=_;rw[d6];rfl⟩) F hlen cN same mq dM g fg a0 fV aa (λcJ c6 h'=>ke _ _ _ vs _ _ g ?_ bb h') h (λ_ _=>⟨id,id⟩) (λp v r' s' cU aq e0 B=>a4 p v r' s' cU aq e0 B) (λm' r' s' cU B=>a4 .none .none r' s' cU rfl trivial B);intro a af;rcases af with af |af
 ·exact(fg.kt mq) a af
 ·exact(a0 a af).2
end
theorem hL{K:Around->Prop}{r:Rs}(h:∀Ψ,Φ=Ψ->bt prog w K env m r ss Ψ):bt prog w K env m r ss Φ:=h Φ rfl
noncomputable def lQ(st:List (List Str)×List Str)(lT:List Str):List (List Str)×List Str:=
 let new:=lT.filter λx=> !st.2.any (· ==x)
 (st.1++[cL lT none (some (new.length+1)) none],st.2++new)
noncomputable def cutAt(ls:List (List Str))(j:Nat):List (List Str)×List Str:=(ls.take j).foldl lQ ([],[])
noncomputable def jd(ls:List (List Str)):List (List Str):=(ls.foldl lQ ([],[])).1
theorem JG(ls:List (List Str))(ao:∀l∈ls,l.length<=5):∀(oH:List (List Str)) (st:List (List Str)×List Str),(∀l∈oH,l∈ls)->(oH.foldl lQ st).2.length<=st.2.length+5*oH.length/\∀x∈(oH.foldl lQ st).2,x∈st.2\/∃l∈ls,x∈l:=by
 intro ba;induction ba with
 |nil=>
  intro st _;exact⟨by simp,λx ag=> .inl ag⟩
 |cons l r aw=>
  intro st h;refine aE (aw (lQ st l) λz hz=>h z (ey _ hz)) λab ae=>?_;have l5:=h l cM;have dA:=ao l l5;have aC:(lQ st l).2=st.2++l.filter λx=> !st.2.any (· ==x):=rfl;have bc:=length_filter_le (λx=> !st.2.any (· ==x)) l;refine⟨?_,λx ag=>?_⟩
  ·rw[gM,dJ];rw[aC,fB] at ab;walk_at"o"
  ·rcases ae x ag with q |q
   ·rw[aC,dk] at q;replace q:=q;rcases q with q |q
    ·exact .inl q
    ·exact .inr ⟨l,l5,(ew.mp q).1⟩
   ·exact .inr q
abbrev mY(m:Loc):dp->Loc->Prop:=λer m'=>er= .next/\m'=m
noncomputable abbrev eG(L:List (Addr×List Str)):List ak:=L.map λz=> .val (.ref z.1)
theorem ui:cb (.list (eG L)):=kF λp aa=>by
 refine ah (bA.mp aa) λz _ aU=>?_;subst aU;exact trivial
def OU(ls:List (List Str))(j:Nat)(m:Loc)(r:Rs):Prop:=
 ∃L,r=fP L/\L.map (·.2)=(cutAt ls j).1/\bM m "rows" (.bw (eG L))/\bM m "known" (.bw (aB (cutAt ls j).2))
theorem Ol(ao:∀l∈ls,l.length<=5)(tH:ls.length<=5)(e9:∀l∈ls,∀x∈l,PyData.strOk x=true) 
  (ai:bK 3 A) (g:G w s.heap) (low:eI W s.heap) (bb:bJ w s.heap W [.list (bF ls)] vs)
  (a4:∀v s' L,a6 w s'.heap W (.list (eG L)) v->L.map (·.2)=jd ls->nB w s W (fP []) (fP L) s s'->Q v s'):wpAny (model prog w) A (call (.ref 251) vs) Q E s:=by
 have de:sizeLine=2 ^ 24:=rfl;refine bj bb λv pj ax aq aD=>?_;have aD:pj=[]:=aD;subst aD ax;refine wpAny_call (xd (t7:=λ_=>bK 2) (n:=2) (args:=[.list (bF ls)]) (names:=["ladders"]) (c:=250) (s₀:=s) (W₀:=W) (aJ:=λ_=>False) (r:=fP [])
  (Φ:=λer _ r'=>match er with | .ret p=>∃L,r'=fP L/\p= .list (eG L)/\L.map (·.2)=jd ls |_=>False)
  ai (λ_=>ai.in) (by exact⟨rfl,rfl,rfl,rfl,rfl,rfl,rfl,ej (by kernel_rfl),rfl,rfl,rfl,kinds_of (by kernel_rfl),rfl,rfl,rfl,by dsimp only,by dsimp only,by kernel_rfl⟩) (by exact rfl) ⟨mi,trivial⟩
  ⟨s.heap,s.toks,rfl⟩ (.refl _) g g low (λa af=>af.elim False.elim λq=>absurd q b8) (λa af=>af.elim) ⟨nodup_nil,λz hz=>absurd hz b8⟩ ?_ ?_ (λ_ _=>⟨id,id⟩) ?_ (λ_ _ _ h _=>h.elim))
 ·intro cJ c6 h';refine wpAny_of_eq (a:=[(("ladders":Str),v)]) (by rfl) (h' [v] s (.one (aq.upd (λb o I _ e=>⟨e,λq=>q.elim I λq=>q.elim False.elim λq=>absurd q b8⟩) mi)) (.refl s) g)
 ·intro env a9 ec fE d6;show aZ prog w 2 env [("ladders",.list (bF ls))] _ _ _;refine aZ.cons (df.R (t9 (Φ:=mY (("rows",.bw [])::[("ladders",.list (bF ls))])) (.inl (by walk_at"k")) (lookup_miss (by kernel_rfl) rfl) ⟨rfl,rfl⟩ rfl) (λp m h=>by injection (h.1)) ?_);intro _ _ dg;refine aE dg λdr e6=>?_;subst dr;subst e6;refine aZ.cons (df.R (t9 (Φ:=mY (("known",.bw [])::("rows",.bw [])::[("ladders",.list (bF ls))])) (by walk_at"s") (lookup_miss (by kernel_rfl) (lookup_miss (by kernel_rfl) rfl)) ⟨rfl,rfl⟩ rfl) (λp m h=>by injection (h.1)) ?_);intro _ _ e8;refine aE e8 λhV jm=>?_;subst hV;subst jm;refine aZ.cons (n7 (q:= .list (bF ls)) (ps:=bF ls) (OU ls) (Ev.R (by walk_at"e")) cw.list mi (λp aa=>by refine ah (j9 aa) λl _ a7=>?_;subst a7;exact d9) (.inl (by walk_at"k")) ⟨[],rfl,rfl,bS (by kernel_rfl) a5,a5⟩ ?_ ?_ (λ_=>rfl))
  ·intro j p m' r' aa gR;refine hL λqb ia=>?_;refine iD gR λL kj i5 eD gH=>?_;subst kj;rw[eb] at aa;replace aa:=aa;refine ah (h7.mp aa) λl tA bk=>?_;subst bk;have l5:l∈ls:=eW tA;have lE:j < ls.length:=i8 tA;have dA:=ao l l5;refine aE (JG ls ao (ls.take j) ([],[]) λz hz=>mem_of_mem_take hz) λbR cI=>?_;have u0:cutAt ls (j+1)=lQ (cutAt ls j) l:=by unfold cutAt;rw[hO,tA,iu];rfl
   change (cutAt ls j).2.length<=_ at bR;change ∀x∈(cutAt ls j).2,_ at cI;have Wm:L.length=(cutAt ls j).1.length:=by rw[<-i5,bO]
   have SW:∀(oH:List (List Str)) (st:List (List Str)×List Str),(oH.foldl lQ st).1.length=st.1.length+oH.length:=λoH=>by
    induction oH with
    |nil=>intro st;rfl
    |cons a r aw=>intro st;rw[gM,aw,dJ];show(st.1++[_]).length+_=_;rw[fB];simp;walk_at"o"
   have V9:(cutAt ls j).1.length<=5:=by unfold cutAt;rw[SW,length_take];simp;walk_at"o"
   generalize cv:cutAt ls j=st at*;have ar:st.2.length<=25:=by rw[length_take] at bR;simp only[length_nil] at bR;walk_at"o"
   have gm:(aB l).length<=sizeLine:=by rw[cz];exact bH ‹_› rfl
   have kL:=length_filter_le (λx=> !st.2.any (· ==x)) l;refine aZ.cons (df.R (sv (Φ:=mY (("new",.list (((aB l).filter (p5 λx=> !st.2.any (· ==x))).map (o7 .str)))::("ladder",.list (aB l))::m')) (x:="name") (c:=false) (q:= .list (aB l)) (ps:=aB l) (t:=p5 λx=> !st.2.any (· ==x)) (f:=o7 .str) (mf:=[("known",.bw (aB st.2))]) a9 (by walk_at"e") cw.list ⟨λ_ _=>rfl,λ_=>rfl,by kernel_rfl,by kernel_rfl,by decide+kernel,rfl⟩ (nT (bS (by kernel_rfl) gH) (by kernel_rfl)) gm
    (λp aa _=>?_) (λp aa cenv dR=>?_) (λp aa _ cenv dR=>?_) (.inl (by walk_at"k")) ⟨rfl,rfl⟩ (qS a9 (by kernel_rfl) rfl (by kernel_rfl)) (λ_=>rfl)) (λp m h=>by injection (h.1)) ?_)
   ·refine ah (hN aa) λx _ bz=>?_;subst bz;exact trivial
   ·refine ah (hN aa) λx tF b7=>?_;subst b7;show gd _ _ _ _ _ _ (!st.2.any (· ==x));rw[<-sM];refine gd.one (bV.cmp (Ev.name a5 (by kernel_rfl)) (Ev.name (bS (by kernel_rfl) a5) (by kernel_rfl)) (Jb (nh λy av=>?_) (e9 l l5 x tF)) (by with_unfolding_all rfl));rcases cI y av with q |⟨l',e7,hZ⟩
    ·exact absurd q b8
    ·exact e9 l' e7 y hZ
   ·refine ah (hN aa) λx _ cC=>?_;subst cC;exact Ev.name a5 (by kernel_rfl)
   intro _ _ iE;refine aE iE λmH oV=>?_;subst mH;subst oV;rw[uN];generalize Ss:(l.filter λx=> !st.2.any (· ==x))=new at*;have vu:lQ st l=(st.1++[cL l none (some ((new.length:Int)+1)) none],st.2++new):=by rw[<-Ss];rfl
   show aZ prog w 2 env (("new",.list (aB new))::("ladder",.list (aB l))::m') _ _ _;refine aZ.cons (wt (q:= .bw (eG L)) (p':=λp=> .bw (eG L++[p])) (T:="list") (id:="list.append") lR (by walk_at"l") (.inl ⟨_,rfl⟩) Typed.bw
    (IQ (a:=none) (b:=some ((new.length:Int)+1)) (c:=none) (by walk_at"e") trivial (d8 (p:= .int new.length) (Ev.call (fA (by walk_at"k") og (by exact rfl) (by decide+kernel) (by kernel_rfl)) (.inl ⟨"len",rfl⟩) (aK.cons (by walk_at"e") aK.nil rfl) (cz (a:=new)▸Cl.len (by rw[cz];walk_at"o")) rfl rfl) Ev.int qP) trivial (by decide) (by exact bH ‹_› rfl)) ?_ rfl (by kernel_rfl) rfl rfl rfl (jB a9) rfl)
   intro p r' oZ _;refine ah oZ λD oG rY=>?_;subst oG;subst rY;refine⟨kF λp aa=>?_,.inl ⟨_,rfl⟩,i0.append (by rw[bO];walk_at"o"),?_⟩
   ·rcases dk.mp aa with aa |aa
    ·refine ah (bA.mp aa) λz _ c1=>?_;subst c1;exact trivial
    ·rw[cQ.mp aa];exact trivial
   ·refine aZ.cons (df.R (yW (Φ:=mY (("known",.bw (aB st.2++aB new))::("rows",.bw (eG L++[.val (.ref D)]))::("new",.list (aB new))::("ladder",.list (aB l))::m')) (q:= .bw (aB st.2)) (ps:=[.list (aB new)]) (p':= .bw (aB st.2++aB new)) (T:="list") (id:="list.extend") w2 (by walk_at"l") (.inl ⟨_,rfl⟩) Typed.bw (aK.cons (by walk_at"e") aK.nil rfl) ⟨d9,trivial⟩ (by rw[<-j5];exact d9 (l:=st.2++new)) (.inl ⟨_,rfl⟩) (JC (by rw[cz,cz];walk_at"o")) ⟨rfl,rfl⟩ rfl (by kernel_rfl) rfl rfl rfl (jB a9) rfl) (λp m h=>by injection (h.1)) ?_);intro _ _ r6;refine aE r6 λrx rC=>?_;subst rx;subst rC;subst ia;refine aZ.nil ⟨L++[(D,cL l none (some ((new.length:Int)+1)) none)],rfl,?_,?_,?_⟩
    ·rw[u0,vu,dY,i5];rfl
    ·rw[show eG (L++[(D,cL l none (some ((new.length:Int)+1)) none)])=eG L++[.val (.ref D)] from dY];exact bS (by kernel_rfl) a5
    ·rw[u0,vu,j5];exact a5
  ·intro m' r' rZ;refine iD rZ λL rq i5 eD gH=>?_;subst rq;refine aZ.nil (aZ.cons (C1 eD (by kernel_rfl) ⟨L,rfl,rfl,?_⟩));rw[i5];unfold cutAt jd;rw[bO,take_length]
 ·intro p v r' s' rT aq aa B;refine dK rT λL vb vc i5=>?_;subst vb;subst vc;exact a4 v s' L (aq.less aa λa af=> .inl af) i5 B
section
variable {prog:Program} {w:World} {n:Nat} {env:Env} {m:Loc} {r:Rs} {Φ:dp->Loc->Rs->Prop}
def Conv(w:World)(m m':Loc)(r:Rs):Prop:=∀(W:Addr->Prop) (h:Heap),(∀a,r.J a->W a)->r.P h->∀x q,m'.lookup x=some q->∃q',m.lookup x=some q'/\∀v,a6 w h W q' v->a6 w h W q v
theorem Conv.st(c:Conv w m m' r)(a0:∀a,r.J a->W a)(aa:r.P h)(x:St w env W m h):St w env W m' h:=⟨x.fn,x.gl,x.bi,x.g,x.low,x.nl,x.cZ,λy q aG=>by
 refine ah (c W h a0 aa y q aG) λq' ab ae=>?_;refine ah (x.has y q' ab) λv aC bc=>?_;exact⟨v,aC,ae v bc⟩⟩
theorem Kh{e:Expr}{p:ak}(h:Ev prog w n env m' e p)(c:Conv w m m' r):aV prog w n env m r e p:=λW A s Q E ai x a0 aa a4=>h W A s Q E ai (c.st a0 aa x) a4
theorem zh{e:Expr}{b:Bool}(h:bV prog w n env m' e b)(c:Conv w m m' r):gE prog w n env m r e b:=λW A s Q E ai x a0 aa a4=>h W A s Q E ai (c.st a0 aa x) a4
theorem Conv.nil:Conv w m [] r:=λW h _ _ x q e=>by injection e
theorem Conv.cons{x:Str}(ag:m.lookup x=some q')(aq:∀(W:Addr->Prop) h,(∀a,r.J a->W a)->r.P h->∀v,a6 w h W q' v->a6 w h W q v)(c:Conv w m m' r):Conv w m ((x,q)::m') r:=λW h a0 aa y p e=>by
 rw[di] at e;replace e:=e;induction av:y==x with
 |true=>rw[av] at e;obtain rfl:=bT e;rw[eq_of_beq av];exact⟨q',ag,aq W h a0 aa⟩
 |false=>rw[av] at e;exact c W h a0 aa y p e
theorem Conv.same{x:Str}(ag:m.lookup x=some q)(c:Conv w m m' r):Conv w m ((x,q)::m') r:=Conv.cons ag (λ_ _ _ _ _ h=>h) c
theorem Conv.row{x:Str}{a:Addr}{l:List Str}(hz:(a,l)∈L)(ag:m.lookup x=some (.val (.ref a)))(c:Conv w m m' (fP L)):Conv w m ((x,.bw (aB l))::m') (fP L):=
 Conv.cons ag (λW h a0 aa v aq=>by
  rw[show v= .ref a from aq];refine dP (aa.2 _ hz) λvs k e s=>?_;exact⟨a,vs,k,rfl,a0 a (fX (f:=λz=>z.1) hz),e,s.vQ⟩) c
theorem hb.bw{l:List ak}(hz:l.length<=sizeLine):hb prog w (.bw l) (!l.isEmpty):=λW A s _ Q E r g fy h=>by
 refine cg fy λa vs k e aW aj hs=>?_;subst e;refine wpAny_truthy_list (items:=⟨vs⟩) ⟨_,aj,rfl,k,rfl⟩ (fits63 hs.len hz) ?_;have:(!(⟨vs⟩:Array Value).isEmpty)= !l.isEmpty:=by
  have:=hs.len
  (induction l)<;>(induction vs)<;>simp_all
 rw[this];exact h _ (.tok s _) g
theorem JU{v:Expr}{lo st:Option Expr}{l:List ak}{a b c:Option Int}(aq:Ev prog w n env m v (.bw l))(hY:jX prog w n env m lo a)(jh:jX prog w n env m hi b)(cv:jX prog w n env m st c)(h0:c≠some 0)(hz:l.length<=sizeLine):
  Ev prog w n env m (.Subscript v (.Slice lo hi st sp) pos) (.list (pick l a b c)):=by
 refine yU aq hY jh cv Typed.bw fN.lookup ?_;intro W A s o bQ g0 g5 vs Q E ai g low aj de e1 pu pt h;refine cg aj λad us n aU aW iW hs=>?_;subst aU;refine wpAny_getItem_list_slice (items:=⟨us⟩) ⟨_,iW,rfl,n,rfl⟩ de e1 pu pt h0 ?_ (by show us.length<=_;rw[<-hs.len];exact hz);refine h _ _ ⟨_,(slicePick ⟨us⟩ a b c).toList,0,rfl,low.fresh,dc _ rfl,?_⟩ (.push ..) (g.push _);have e:(slicePick (⟨us⟩:Array Value) a b c).toList=(let t:=sliceBounds a b c us.length;(sliceRange t.1 t.2.1 t.2.2).filterMap (us[·]?)):=by
  unfold slicePick;simp
 rw[e];unfold pick;rw[hs.len];exact(yS hs _).mono λb o U e=>dZ _ e
theorem Kx{x:Str}:cA prog w (compareOp .Is) (.str x) .none (.bool false):=λW A s _ _ Q E r g _ hX aO h=>by
 refine aP hX λt e=>?_;rw[e,show _=Value.none from aO];exact wpAny_is_other rfl (by intro q;injection q) (h _ _ rfl (.refl s) g)
theorem om.one{e:Expr}{b:Bool}(h:gE prog w n env m r e b):om prog w n env m r.J r.P [e] b:=λW A s Q E ai x a0 aa a4=>wpAny_tests_one (h W A s Q E ai x a0 aa a4)
theorem aZ.drop(h:aZ prog w n env m r' ss Φ)(a0:∀a,r'.J a->r.J a)(b5:∀h,r.P h->r'.P h):aZ prog w n env m r ss Φ:=λs₀ W₀ aJ ad A s E ai F=>by
 have aS:bP w s₀ env W₀ aJ ad m r' s:=⟨F.F.uF λa af=>af.imp id (a0 a),λa af q=>F.fV a af (a0 a q),b5 _ F.p⟩
 exact dV (h s₀ W₀ aJ ad A s E ai aS) (λf s' o=>o.pre (Dr (.refl _ s) λb I=>I.imp id (a0 b))) λ_ _ e=>e
theorem ID{iter:Expr}{x y:Str}{f:ak->ak}{c:Bool}{sc:Scope}(a9:c5 env sc)(hit:Ev prog w n env m iter q)(gk:cw prog w q ps)(S:i6 scope sc x c)
  (gn:∀y p,mf.lookup y=some p->m.lookup y=some p/\scope.names.lookup y=some .free) (hz:ps.length<=sizeLine) (cN:∀p∈ps,t p=true->cb (f p))
  (tests:∀p∈ps,∀cenv,c5 cenv scope->om prog w n cenv ((x,p)::mf) r.J r.P ifs (t p)) (elts:∀p∈ps,t p=true->∀cenv,c5 cenv scope->aV prog w n cenv ((x,p)::mf) r elt (f p))
  (ar:env.kindOf y=some .local\/(env.kindOf y=some .cell/\(env.cells.lookup y).isSome=true)) (h:Φ .next ((y,.list ((ps.filter t).map f))::m) r)
  (jn:swapsWith (.ListComp elt [⟨.Name x px,iter,ifs,0⟩] scope pos) (some (.Name y py)) f5.line env=pure true)
  (hs:∀v,foldedSetIterable iter env v=pure v):ek prog w n env m r (.Assign [.Name y py] (.ListComp elt [⟨.Name x px,iter,ifs,0⟩] scope pos) f5) Φ:=λs₀ W₀ aJ ad A s E ai F=>by
 have dq:∀b,r.J b->¬cc b:=λb I=>(F.F.st.low b (.dy (.inr I))).2;exact CV ai F.F F.dq (λh h' k p=>r.st h h' (λb o I e=>k b o (dq b I) e) p) F.p a9 (mx.of ai F.F.st hit gk) S gn hz cN tests (λp aa aM cenv dR=>elts p aa aM cenv dR) ar jn hs λs' aS k=>by
  refine aE (F.turn aS k) λab ae=>?_;exact⟨ad,_,r,ab,ae,h⟩
noncomputable def ou(L:List (Addr×List Str))(a:Addr)(l:List Str):List (Addr×List Str):=L.map λz=>if z.1=a then(z.1,l) else z
theorem Dh{a:Addr}{l:List Str}:br (ou L a l)=br L:=by
 unfold br ou;rw[dX];refine g7 λz _=>?_;show(if z.1=a then(z.1,l) else z).1=z.1;split<;>rfl
theorem IY{x:Str}{m6:Pos}{dT:Nat}{a:Addr}{y:Str}{l:List Str}(hz:(a,y::l)∈L)(ag:m.lookup x=some (.val (.ref a)))(hd:(x==("__debug__":Str))=false)(ao:l.length < sizeLine)
  (h:Φ .next m (fP (ou L a l))):ek prog w n env m (fP L) (.Delete [.Subscript (.Name x px) (.Constant (.int 0) dT m6) ma] pos) Φ:=λs₀ W₀ aJ ad A s E ai F=>by
 refine wpAny_Delete (wpAny_deleteEach_cons (wpAny_delete_Subscript ((Ev.name (n:=n) (p:= .val (.ref a)) ag hd) _ A s _ E ai F.F.st λv au aq az aF=>?_)));rw[show v= .ref a from aq];have aX:=F.ext az aF;refine(Ev.int (n:=n)) _ A au _ E ai aX.F.st λv aL aq aR aY=>?_;refine aP aq λt a7=>?_;subst a7;have bp:=aX.ext aR aY;refine aE bp.p λbo rl=>?_;refine dP (rl _ hz) λvs k e hs=>?_;have hlen:=hs.len;rw[dJ] at hlen;refine PyProof.Rows.delItem_at (k:=0) e (by decide) (by show seqIndex? 0 vs.length=some 0;rw[hlen];exact Fl (Int.le_refl 0) (by walk_at"o")) (λh' bL cR=>?_) (by show vs.length<=_;walk_at"o");have qf:(fP (ou L a l)).P h':=by
  refine⟨by rw[Dh];exact bo,λz eJ=>?_⟩;refine ah (bA.mp eJ) λu5 Aa bk=>?_;subst bk;by_cases q:u5.1=a
  ·rw[aQ q];refine⟨_,_,by show h'.get? u5.1=_;rw[q];exact cR,?_⟩;refine ah hs λls ab ae=>?_;refine⟨ls.tail,?_,?_⟩
   ·induction ls with
    |nil=>injection ae
    |cons c d=>rw[<-ab];exact rfl
   ·induction ls with
    |nil=>injection ae
    |cons c d=>simp at ae;exact ae.2
  ·rw[aI q];exact(rl u5 Aa).keep λo e=>bL.extBut _ _ q e
 have gv:G w h':=bp.ground λb o I e=>bL.extBut b o (λq=>I (q▸fX (f:=λz=>z.1) hz)) e;have hK:∀z,(fP (ou L a l)).J z->((fP L).J z\/(aL.heap.get? z=none/\¬cc z))/\∃o,h'.get? z=some o/\cx o:=λz eJ=>by
  have ab:z∈br L:=by rw[<-Dh (a:=a) (l:=l)];exact eJ
  have ae:z∈br (ou L a l):=eJ;refine ah (bA.mp ae) λy av bz=>?_;subst bz;exact⟨.inl ab,(qf.2 y av).some⟩
 refine aE (bp.grow (s':={aL with heap:=h'}) ⟨_,_,rfl⟩ (λb o I _ e=>bL.extBut b o (λq=>I (q▸fX (f:=λz=>z.1) hz)) e) gv hK qf) λaS k'=>?_;exact wpAny_deleteEach_nil ⟨ad,m,_,aS,((bC.ext az).trans (.ext aR)).trans k',h⟩
end
noncomputable def kI(rows:List (List Str))(x:Str):Bool:=rows.all λs2=> !(cL s2 (some 1) none none).any (· ==x)
noncomputable def f7(l:List Str):Str:=l.getD 0 ""
noncomputable def pP(rows:List (List Str)):Option Str:=(rows.find? λs1=>kI rows (f7 s1)).map f7
noncomputable def nx(x:Str)(l:List Str):List Str:=if f7 l==x then l.drop 1 else l
noncomputable def lU:Nat->List (List Str)->List Str->Option (List Str)
 |0,_,_=>none
 |f+1,rows,acc=>
  let Al:=rows.filter λl=> !l.isEmpty
  if Al.isEmpty then some acc else match pP Al with
   |none=>none
   |some x=>lU f (Al.map (nx x)) (acc++[x])
theorem K6:∀(f:Nat) (rows:List (List Str)) (acc out:List Str),lU f rows acc=some out->acc.length<=out.length:=by
 intro ba;induction ba with
 |zero=>
  intro _ _ _ h;injection h
 |succ f aw=>
  intro rows acc out h;unfold lU at h;dsimp only at h;split at h
  ·obtain rfl:=bT h;exact ea _
  ·split at h
   ·injection h
   ·have:=aw _ _ _ h;rw[fB] at this;walk_at"o"
theorem JZ{l:List Str}:(aB l).isEmpty=l.isEmpty:=by(induction l)<;>rfl
def E8(L:List (Addr×List Str)):Prop:=(br L).Nodup/\L.length<=5/\∀z∈L,z.2.length<=5/\∀x∈z.2,PyData.strOk x=true
def PB(out:List Str)(k:Nat)(m:Loc)(r:Rs):Prop:=
 ∃L acc,r=fP L/\E8 L/\lU k (L.map (·.2)) acc=some out/\bM m "sequences" (.list (eG L))/\bM m "result" (.bw (aB acc))
theorem zx{j:Nat}{p:ak}(h:(eG L)[j]? =some p):∃z,L[j]? =some z/\z∈L/\p= .val (.ref z.1):=by
 rw[eb] at h;refine ah (h7.mp h) λz ab aU=>?_;subst aU;exact⟨z,ab,eW ab,rfl⟩
theorem NC{l:List Str}(h:0 < l.length):f7 l∈l:=by
 induction l with
 |nil=>exact absurd h (k4 _)
 |cons a r=>exact cM
theorem NH{l:List Str}{x:Str}(h:x∈cL l (some 1) none none):x∈l:=by
 refine ah (List.mem_filterMap.mp h) λj _ aN=>?_;exact eW aN
structure Ho (L:List (Addr×List Str)) (acc:List Str) (m:Loc) (r:Rs):Prop where
 r:r=fP L
 WX:bM m "sequences" (.list (eG L))
 rs:bM m "result" (.bw (aB acc))
def k8(x:Str)(L:List (Addr×List Str))(i:Nat)(fH:List (Addr×List Str)):Prop:=
 fH.length=L.length/\∀k (h:k < L.length) (h':k < fH.length),fH[k].1=L[k].1/\fH[k].2=if k < i then nx x L[k].2 else L[k].2
theorem k8.br{x:Str}(S:k8 x L i fH):lp.br fH=lp.br L:=by
 refine ext_getElem (by simp[S.1]) λk ab ae=>?_;simp only[lp.br,getElem_map];exact(S.2 k (by simpa using ae) (by simpa using ab)).1
theorem k8.all{x:Str}(S:k8 x L L.length fH):fH.map (·.2)=(L.map (·.2)).map (nx x):=by
 refine ext_getElem (by simp[S.1]) λk ab ae=>?_;simp only[getElem_map];have ar:k < L.length:=by simpa using ae
 have:=(S.2 k ar (by simpa using ab)).2;rw[this,aQ ar]
theorem k8.zero{x:Str} :k8 x L 0 L:=⟨rfl,λk h h'=>⟨rfl,by rw[aI (k4 _)]⟩⟩
theorem k8.skip{x:Str}(S:k8 x L i fH)(hi:i < L.length)(h:(f7 L[i].2==x)=false):k8 x L (i+1) fH:=⟨S.1,λk ar cj=>by
 refine aE (S.2 k ar cj) λab ae=>?_;refine⟨ab,?_⟩;rw[ae];by_cases q:k=i
 ·subst q;rw[aI (Nat.lt_irrefl _),aQ (k6 _)];unfold nx;rw[h];rfl
 ·by_cases bN:k < i
  ·rw[aQ bN,aQ (by exact Nat.lt_add_right _ ‹_›)]
  ·rw[aI bN,aI (by walk_at"o")]⟩
theorem k8.del{x:Str}(bo:(lp.br L).Nodup)(S:k8 x L i fH)(hi:i < L.length)(h:(f7 L[i].2==x)=true):k8 x L (i+1) (ou fH L[i].1 (L[i].2.drop 1)):=by
 refine⟨by unfold ou;rw[bO,S.1],λk ar cj=>?_⟩;have T1:k < fH.length:=by rw[S.1];exact ar
 refine aE (S.2 k ar T1) λab ae=>?_;have e:(ou fH L[i].1 (L[i].2.drop 1))[k]=if fH[k].1=L[i].1 then(fH[k].1,L[i].2.drop 1) else fH[k]:=getElem_map _
 rw[e];by_cases q:k=i
 ·subst q;rw[aQ ab,aQ (k6 _)];refine⟨ab,?_⟩;show drop 1 _=_;unfold nx;rw[aQ h]
 ·have bY:fH[k].1≠L[i].1:=λz=>by
   rw[ab] at z;have:(lp.br L)[k]'(by simpa using ar)=(lp.br L)[i]'(by simpa using hi):=by simpa using z
   exact q ((getElem_inj bo).mp this)
  rw[aI bY];refine⟨ab,?_⟩;rw[ae];by_cases bN:k < i
  ·rw[aQ bN,aQ (by exact Nat.lt_add_right _ ‹_›)]
  ·rw[aI bN,aI (by walk_at"o")]
theorem Pa{lZ:List (Addr×List Str)}{f:Nat}(dj:E8 lZ)(e5:lU f (lZ.map (·.2)) []=some out)(aj:out.length<=1000){v:Value} 
  (ai:bK 3 A) (same:∃h tk,s={s₀ with heap:=h,toks:=tk}) (mq:gy s₀.heap s.heap) (dM:G w s₀.heap) (g:G w s.heap) (fg:eI W₀ s₀.heap) (a0:∀a,(fP lZ).J a->s₀.heap.get? a=none/\(∃o,s.heap.get? a=some o/\cx o)/\¬cc a) (aa:(fP lZ).P s.heap)
  (aq:a6 w s.heap (λa=>W₀ a\/(fP lZ).J a) (.list (eG lZ)) v) (a4:∀v s',a6 w s'.heap W₀ (.list (aB out)) v->Ext s₀ s'->G w s'.heap->Q v s'):wpAny (model prog w) A (call (.ref 78) [v]) Q E s:=by
 have de:sizeLine=2 ^ 24:=rfl;refine wpAny_call (xd (t7:=λ_=>bK 2) (n:=2) (args:=[.list (eG lZ)]) (names:=["sequences"]) (c:=77) (s₀:=s₀) (W₀:=W₀) (aJ:=λ_=>False) (r:=fP lZ)
  (Φ:=λer _ _=>match er with | .ret p=>p= .list (aB out) |_=>False)
  ai (λ_=>ai.in) (by exact⟨rfl,rfl,rfl,rfl,rfl,rfl,rfl,ej (by kernel_rfl),rfl,rfl,rfl,kinds_of (by kernel_rfl),rfl,rfl,rfl,by dsimp only,by dsimp only,by kernel_rfl⟩) (by exact rfl) ⟨ui,trivial⟩
  same mq dM g fg (λa af=>af.elim False.elim (a0 a)) (λa af=>af.elim) aa ?_ ?_ (λ_ _=>⟨id,id⟩) ?_ (λ_ _ _ h _=>h.elim))
 ·intro cJ c6 h';refine wpAny_of_eq (a:=[(("sequences":Str),v)]) (by rfl) (h' [v] s (.one (aq.upd (λb o I _ e=>⟨e,λq=>q.elim (λq=>I (.inl q)) λq=>q.elim False.elim λq=>I (.inr q)⟩) ui)) (.refl s) g)
 ·intro env a9 ec fE d6;show aZ prog w 2 env [("sequences",.list (eG lZ))] _ _ _;refine aZ.cons (df.R (t9 (Φ:=mY (("result",.bw [])::[("sequences",.list (eG lZ))])) (.inl (by walk_at"k")) (lookup_miss (by kernel_rfl) rfl) ⟨rfl,rfl⟩ rfl) (λp m h=>by injection (h.1)) ?_);intro _ _ dg;refine aE dg λdr e6=>?_;subst dr;subst e6;refine aZ.cons (Ja (PB out) f ⟨lZ,[],rfl,dj,e5,by walk_at"l",a5⟩ ?_);intro k m' r' e8;refine ta e8 λL acc hV jm bf eD gH=>?_;subst hV;refine cB jm λbo ya rl=>?_;refine⟨true,bV.R (bV.plain Ev.bool hb.bool λ_=>rfl),λ_=>?_,λh=>by injection h⟩;induction k with
  |zero=>injection bf
  |succ k=>
  refine hL λqb ia=>?_;have Gk:=K6 _ _ _ _ bf
  let qs:ak->Bool:=λp=>match p with | .val (.ref a)=>L.any λz=>z.1==a&& !z.2.isEmpty |_=>false
  have Ay:∀z∈L,qs (.val (.ref z.1))= !z.2.isEmpty:=λz hz=>by
   show(L.any λy=>y.1==z.1&& !y.2.isEmpty)=_;induction he:z.2.isEmpty with
   |false=>exact g8.mpr ⟨z,hz,by walk_at"o"⟩
   |true=>
    refine List.any_eq_false.mpr λy av=>?_;intro q;simp only[Bool.and_eq_true,beq_iff_eq] at q;replace q:=q;have:y=z:=by
     obtain⟨i,hi,a7⟩:=getElem_of_mem av;subst a7;obtain⟨j,aN,bk⟩:=getElem_of_mem hz;subst bk;have e:(br L)[i]'(by simpa using hi)=(br L)[j]'(by simpa using aN):=by simpa using q.1
     have:=(getElem_inj bo).mp e;subst this;rfl
    rw[this,he] at q;exact absurd q (by walk_at"o")
  have GU:((eG L).filter qs).map _root_.id=eG (L.filter λz=> !z.2.isEmpty):=by
   rw[List.map_id];show(List.map _ L).filter qs=_;rw[List.filter_map];congr 1;refine filter_congr λz hz=>?_;exact Ay z hz
  refine aZ.cons (ID (x:="s") (c:=false) (q:= .list (eG L)) (ps:=eG L) (t:=qs) (f:=id) (mf:=[]) a9 (Ev.name eD (by kernel_rfl)) cw.list ⟨λ_ _=>rfl,λ_=>rfl,by kernel_rfl,by kernel_rfl,by decide+kernel,rfl⟩ tO (by rw[bO];exact bH ‹_› rfl) (λp aa _=>?_) (λp aa cenv dR=>?_) (λp aa _ cenv dR=>Ev.R (Ev.name a5 (by kernel_rfl))) (.inl (by walk_at"k")) ?_ (qS a9 (by kernel_rfl) rfl (by kernel_rfl)) (λ_=>rfl))
  ·refine ah (bA.mp aa) λz _ bz=>?_;subst bz;exact trivial
  ·refine ah (bA.mp aa) λz hz b7=>?_;subst b7;rw[Ay z hz, <-JZ];refine om.one (zh (m':=[("s",.bw (aB z.2))]) (bV.plain (Ev.name a5 (by kernel_rfl)) (hb.bw (by rw[cz];have:=(rl z hz).1;exact bH ‹_› rfl)) λ_=>rfl) (Conv.row (a:=z.1) (l:=z.2) hz a5 .nil))
  rw[GU];generalize yg:(L.filter λz=> !z.2.isEmpty)=cY;induction cY using jH;rename_i cY
  have F7:∀z∈cY,z∈L:=λz hz=>by rw[<-yg] at hz;exact(ew.mp hz).1
  have xx:∀z∈cY,0 < z.2.length:=λz hz=>by
   rw[<-yg] at hz;have:=(ew.mp hz).2;induction rS:z.2 with
   |nil=>rw[rS] at this;(focus (injection this;done))
   |cons a b=>simp
  have Aq:cY.Sublist L:=by rw[<-yg];exact filter_sublist
  have nD:(br cY).Nodup:=bo.sublist (Aq.map _);have Q8:cY.length<=5:=ei Aq.length_le ya;have rg:∀z∈cY,z.2.length<=5/\∀x∈z.2,PyData.strOk x=true:=λz hz=>rl z (F7 z hz);have l8:(if(cY.map (·.2)).isEmpty then some acc else match pP (cY.map (·.2)) with |none=>none |some x=>lU k ((cY.map (·.2)).map (nx x)) (acc++[x]))=some out:=by
   have e:(L.map (·.2)).filter (λl=> !l.isEmpty)=cY.map (·.2):=by rw[<-yg,List.filter_map];rfl
   rw[<-e];exact bf
  refine aZ.drop (r':=fP cY) ?_ (λa af=>(Aq.map _).subset af) (λh aa=>⟨nD,λz hz=>aa.2 z (F7 z hz)⟩);clear bf GU Ay qs rl ya bo;refine aZ.cons (mh (c:= !(!cY.isEmpty)) (bV.R (bV.not (bV.plain (p:= .list (eG cY)) (Ev.name a5 (by kernel_rfl)) (by have:=hb.list (prog:=prog) (w:=w) (l:=eG cY) (by rw[bO];exact bH ‹_› rfl);rw[show(eG cY).isEmpty=cY.isEmpty by(induction cY)<;>rfl] at this;exact this) λ_=>rfl))) (λU=>?_) λU=>aZ.nil ?_)
  ·have he:cY=[]:=by simpa using U
   subst he;have RY:acc=out:=by exact bT l8
   subst RY;subst ia;exact aZ.cons (C1 (l:=aB acc) (bS (by kernel_rfl) gH) (by kernel_rfl) rfl)
  have bY:cY≠[]:=by intro q;subst q;(focus (injection U;done))
  rw[aI (by cases cY with |nil=>exact absurd rfl bY |cons a b=>exact nofun)] at l8;replace l8:=l8;obtain⟨x,ag⟩:∃x,pP (cY.map (·.2))=some x:=by
   induction q:pP (cY.map (·.2)) with
   |none=>rw[q] at l8;injection l8
   |some x=>exact⟨x,rfl⟩
  rw[ag] at l8;have rowAt:∀{j:Nat} {z:Addr×List Str},cY[j]? =some z->(cY.map (·.2))[j]? =some z.2:=λh=>by rw[eb,h];rfl
  have GP:∀z∈cY,PyData.strOk (f7 z.2)=true:=λz hz=>(rg z hz).2 _ (NC (xx z hz));have PI:∀{m':Loc} {z:Addr×List Str} {y:Str} {bX cf fU fG iI mZ:Pos} {dT:Nat},z∈cY->PyData.strOk y=true->bM m' "s2" (.val (.ref z.1))->bM m' "candidate" (.str y)->
    gE prog w 2 env m' (fP cY) (.Compare (.Name "candidate" bX) [.In] [.Subscript (.Name "s2" cf) (.Slice (some (.Constant (.int 1) dT fU)) none none fG) iI] mZ) ((cL z.2 (some 1) none none).any (· ==y)):=λ{m' z y bX cf fU fG iI mZ dT} hz av ab ae=>by
   rw[<-sM];refine zh (m':=[("candidate",.str y),("s2",.bw (aB z.2))]) (bV.cmp (p:= .str y) (q:= .list (aB (cL z.2 (some 1) none none))) (Ev.name a5 (by kernel_rfl)) ?_ (um (nh λg4 hZ=>(rg z hz).2 _ (NH hZ)) av) (by with_unfolding_all rfl)) (Conv.same ae (Conv.row hz ab .nil));have:=JU (prog:=prog) (w:=w) (n:=2) (env:=env) (m:=[("candidate",.str y),("s2",.bw (aB z.2))]) (v:= .Name "s2" cf) (lo:=some (.Constant (.int 1) dT fU)) (hi:=none) (st:=none) (sp:=fG) (pos:=iI) (a:=some 1) (b:=none) (c:=none) (Ev.name (bS (by kernel_rfl) a5) (by kernel_rfl)) Ev.int trivial trivial (by decide) (by rw[cz];have:=(rg z hz).1;exact bH ‹_› rfl);rw[aB,sH] at this;exact this
  let iN:Nat->Loc->Rs->Prop:=λj m' r'=>Ho cY acc m' r'/\∀i z,i < j->cY[i]? =some z->kI (cY.map (·.2)) (f7 z.2)=false
  refine aZ.cons (n7 (q:= .list (eG cY)) (ps:=eG cY) iN (Ev.R (Ev.name a5 (by kernel_rfl))) cw.list ui (λp aa=>by refine ah (bA.mp aa) λz _ cC=>?_;subst cC;exact trivial) (.inl (by walk_at"k")) ⟨⟨rfl,a5,bS (by kernel_rfl) gH⟩,λi z h=>absurd h (k4 _)⟩ ?_ ?_ (λ_=>rfl))
  ·intro j p m4 gT gZ gR;refine hL λBp nG=>?_;refine aE gR λkj ic=>?_;obtain⟨mH,bR,cI⟩:=kj;subst mH;refine dK (zx gZ) λz xZ hz c1=>?_;subst c1;have oI:=xx z hz;have Am:(aB z.2)[0]? =some (.str (f7 z.2)):=by
    induction rS:z.2 with
    |nil=>rw[rS] at oI;exact absurd oI (k4 _)
    |cons a b=>rfl
   refine aZ.cons (mg (p:= .str (f7 z.2)) (Kh (m':=[("s1",.bw (aB z.2))]) (Ev.item (k:= .int 0) (Ev.name a5 (by kernel_rfl)) Ev.int Typed.bw fN.lookup (Dt (by decide) Am (by rw[cz];have:=(rg z hz).1;exact bH ‹_› rfl)) λ_ _=>rfl) (Conv.row (a:=z.1) (l:=z.2) hz a5 .nil)) trivial (.inl (by walk_at"k")) ?_ rfl)
   let pA:Nat->Loc->Rs->Prop:=λi qL fb=>Ho cY acc qL fb/\bM qL "candidate" (.str (f7 z.2))/\∀dI eU,dI < i->cY[dI]? =some eU->(cL eU.2 (some 1) none none).any (· ==f7 z.2)=false
   refine aZ.cons (n7 (q:= .list (eG cY)) (ps:=eG cY) pA (Ev.R (by walk_at"e")) cw.list ui (λp aa=>by refine ah (bA.mp aa) λz _ c2=>?_;subst c2;exact trivial) (.inl (by walk_at"k")) ⟨⟨rfl,by walk_at"l",by walk_at"l"⟩,a5,λi z h=>absurd h (k4 _)⟩ ?_ ?_ (λ_=>rfl))
   ·intro i p qL fb BJ iE;refine hL λHa rF=>?_;refine cB iE λoV dG fo=>?_;obtain⟨oG,a1,a2⟩:=oV;subst oG;refine dK (zx BJ) λeU vC eJ eS=>?_;subst eS;refine aZ.cons (mh (PI eJ (GP z hz) a5 (bS (by kernel_rfl) dG)) (λgF=>?_) λgF=>?_)
    ·refine aZ.cons (mg (p:= .none) (Ev.R Ev.none) trivial (.inl (by walk_at"k")) (aZ.cons (ek.brk ?_)) rfl);subst rF nG;refine aZ.nil ⟨⟨rfl,by walk_at"l",by walk_at"l"⟩,λdI Bx fv ry=>?_⟩;by_cases q:dI < j
     ·exact ic dI Bx q ry
     ·have:dI=j:=by walk_at"o"
      subst this;rw[xZ] at ry;obtain rfl:=bT ry;refine List.all_eq_false.mpr ⟨eU.2,fX eJ,?_⟩;rw[gF];decide
    ·subst rF;refine aZ.nil (aZ.nil ⟨⟨rfl,by walk_at"l",by walk_at"l"⟩,by walk_at"l",λdI Bx fv ry=>?_⟩);by_cases q:dI < i
     ·exact fo dI Bx q ry
     ·have:dI=i:=by walk_at"o"
      subst this;rw[vC] at ry;obtain rfl:=bT ry;exact gF
   ·intro qL fb oZ;refine cB oZ λrY dG fo=>?_;obtain⟨rx,a1,a2⟩:=rY;subst rx;rw[bO] at fo;refine aZ.cons (ek.brk ?_);subst nG;have e9:kI (cY.map (·.2)) (f7 z.2)=true:=iP.mpr λl ao=>by
     refine ah (bA.mp ao) λeU eJ eQ=>?_;subst eQ;obtain⟨dI,fv,ft⟩:=getElem_of_mem eJ;subst ft;rw[fo dI _ fv (cm fv)];rfl
    have HU:f7 z.2=x:=by
     unfold pP at ag;have hf:(cY.map (·.2)).find? (λs1=>kI (cY.map (·.2)) (f7 s1))=some z.2:=by
      rw[find?_eq_some_iff_getElem];have lE:j < cY.length:=i8 xZ;refine⟨e9,j,by rw[bO];exact lE,?_,λdI fv=>?_⟩
      ·rw[getElem_map];rw[cm lE] at xZ;obtain rfl:=bT xZ;rfl
      ·rw[getElem_map];have:=ic dI _ fv (cm (by exact Nat.lt_trans ‹_› ‹_›));exact congrArg _ this
     rw[hf] at ag;cases ag;rfl
    rw[HU] at dG;replace dG:=dG;have Gd:PyData.strOk x=true:=HU▸GP z hz;refine aZ.cons (mh (c:=false) (bV.R (bV.cmp (Ev.name dG (by kernel_rfl)) Ev.none Kx (by with_unfolding_all rfl))) (λh=>by injection h) λ_=>aZ.nil ?_);refine aZ.cons (df.R (yW (Φ:=mY (("result",.bw (aB acc++[.str x]))::qL)) (q:= .bw (aB acc)) (ps:=[.str x]) (p':= .bw (aB acc++[.str x])) (T:="list") (id:="list.append") lR a2 (.inl ⟨_,rfl⟩) Typed.bw (aK.cons (Ev.name dG (by kernel_rfl)) aK.nil rfl) ⟨trivial,trivial⟩ (by have:=d9 (l:=acc++[x]);rw[j5] at this;exact this) (.inl ⟨_,rfl⟩) (i0.append (by rw[cz];walk_at"o")) ⟨rfl,rfl⟩ rfl (by kernel_rfl) rfl rfl rfl (jB a9) rfl) (λp m h=>by injection (h.1)) ?_);intro _ _ r6;refine aE r6 λrC rq=>?_;subst rC;subst rq
    let vX:Nat->Loc->Rs->Prop:=λi js jw=>∃fH,jw=fP fH/\k8 x cY i fH/\bM js "sequences" (.list (eG cY))/\bM js "result" (.bw (aB (acc++[x])))/\bM js "candidate" (.str x)
    refine aZ.cons (n7 (q:= .list (eG cY)) (ps:=eG cY) vX (Ev.R (by walk_at"e")) cw.list ui (λp aa=>by refine ah (bA.mp aa) λz _ fS=>?_;subst fS;exact trivial) (.inl (by walk_at"k")) ⟨cY,rfl,.zero,by walk_at"l",by rw[j5];exact a5,by walk_at"l"⟩ ?_ ?_ (λ_=>rfl))
    ·intro i p js jw BJ rZ;refine hL λHa rF=>?_;refine nI rZ λfH vb S gU jq tZ=>?_;subst vb;refine dK (zx BJ) λeU vC eJ gg=>?_;subst gg;have mQ:i < cY.length:=i8 vC;have GX:i < fH.length:=by rw[S.1];exact mQ
     have n2:cY[i]=eU:=by rw[cm mQ] at vC;cases vC;rfl
     refine aE (S.2 i mQ GX) λs1 s2=>?_;rw[aI (Nat.lt_irrefl _),n2] at s2;rw[n2] at s1;have z4:(eU.1,eU.2)∈fH:=by rw[<-s1, <-s2];exact getElem_mem GX
     have Am:(aB eU.2)[0]? =some (.str (f7 eU.2)):=by
      have:=xx eU eJ;induction rS:eU.2 with
      |nil=>rw[rS] at this;exact absurd this (k4 _)
      |cons a b=>rfl
     refine aZ.cons (mh (c:=f7 eU.2==x) (zh (m':=[("seq",.bw (aB eU.2)),("candidate",.str x)]) (bV.cmp (Ev.item (k:= .int 0) (Ev.name a5 (by kernel_rfl)) Ev.int Typed.bw fN.lookup (Dt (by decide) Am (by rw[cz];have:=(rg eU eJ).1;exact bH ‹_› rfl)) λ_ _=>rfl) (Ev.name (bS (by kernel_rfl) a5) (by kernel_rfl)) uj (by with_unfolding_all rfl)) (Conv.row z4 a5 (Conv.same (bS (by kernel_rfl) tZ) .nil))) (λI=>?_) λI=>?_)
     ·have Pw:∃y l,eU.2=y::l:=by
       have:=xx eU eJ;induction rS:eU.2 with
       |nil=>rw[rS] at this;exact absurd this (k4 _)
       |cons a b=>exact⟨a,b,rfl⟩
      refine cn Pw λy l Hn=>?_;have Gz:=(rg eU eJ).1;rw[Hn] at z4 Gz;rw[dJ] at Gz;subst rF;refine aZ.cons (IY z4 a5 (by kernel_rfl) (by walk_at"o") (aZ.nil (aZ.nil ⟨_,rfl,?_,by walk_at"l",by walk_at"l",by walk_at"l"⟩)));have:=S.del nD mQ (by rw[n2];exact I);rw[n2,Hn] at this;exact this
     ·subst rF;exact aZ.nil (aZ.nil ⟨fH,rfl,S.skip mQ (by rw[n2];exact I),by walk_at"l",by walk_at"l",by walk_at"l"⟩)
    ·intro js jw rT;refine nI rT λfH vc S gU jq tZ=>?_;subst vc;rw[bO] at S;replace S:=S;subst ia;refine aZ.nil (aZ.nil ⟨k,k6 _,fH,acc++[x],rfl,⟨by rw[S.br];exact nD,by rw[S.1];exact Q8,λz hz=>?_⟩,by rw[S.all];exact l8,?_,jq⟩)
     ·obtain⟨i,hi,iz⟩:=getElem_of_mem hz;subst iz;have fv:i < cY.length:=by rw[<-S.1];exact hi
      have ae:=(S.2 i fv hi).2;rw[aQ fv] at ae;refine aE (rg _ (getElem_mem fv)) λaC bc=>?_;rw[ae];unfold nx;split
      ·exact⟨by rw[length_drop];walk_at"o",λy av=>bc y (mem_of_mem_drop av)⟩
      ·exact⟨aC,bc⟩
     ·have e:eG fH=eG cY:=by
       have h:=S.br;show fH.map (λz=>ak.val (.ref z.1))=cY.map _;have q:∀M:List (Addr×List Str),M.map (λz=>ak.val (.ref z.1))=(br M).map λa=>ak.val (.ref a):=λM=>by rw[br,dX];rfl
       rw[q,q,h]
      rw[e];exact gU
  ·intro m4 gT vp;refine aE vp λAI ic=>?_;obtain⟨AV,bR,cI⟩:=AI;subst AV;exfalso;rw[bO] at ic;unfold pP at ag;induction hf:(cY.map (·.2)).find? (λs1=>kI (cY.map (·.2)) (f7 s1)) with
   |none=>rw[hf] at ag;injection ag
   |some l=>
    have ab:=find?_some hf;have ae:=mem_of_find?_eq_some hf;refine ah (bA.mp ae) λz hz iA=>?_;subst iA;obtain⟨i,hi,ll⟩:=getElem_of_mem hz;subst ll;rw[ic i _ hi (cm hi)] at ab;injection ab
 ·rintro p v r' s' rfl jW f6 B;exact a4 v s' (jW.less f6 λa af=> .inl af) B.ext B.g
def b0(r r':Rs):Prop:=(∀a,r.J a↔r'.J a)/\∀h,r.P h->r'.P h
theorem b0.refl(r:Rs):b0 r r:=⟨λ_=>Iff.rfl,λ_ h=>h⟩
theorem b0.trans{r:Rs}(x:b0 r r')(y:b0 r' eY):b0 r eY:=⟨λa=>(x.1 a).trans (y.1 a),λh p=>y.2 h (x.2 h p)⟩
theorem b0.vW{ad:Str->Addr}{r:Rs}(x:b0 r r'):cD env m ad r=cD env m ad r':=by
 unfold cD;rw[funext λa=>propext (x.1 a)]
theorem bP.le{ad:Str->Addr}{r:Rs}(x:b0 r r')(F:bP w s₀ env W₀ aJ ad m r s):bP w s₀ env W₀ aJ ad m r' s:=by
 have t4:r.J=r'.J:=funext λa=>propext (x.1 a);exact⟨t4▸F.F,t4▸F.fV,x.2 _ F.p⟩
noncomputable abbrev dW:=List (Addr×(Obj->Prop))
noncomputable def ay(cs:dW):Rs where
 J:=λa=>a∈br cs
 P:=λh=>(br cs).Nodup/\∀c∈cs,∃o,h.get? c.1=some o/\c.2 o
 st:=λh h' k p=>⟨p.1,λc U=>ah (p.2 c U) λo e q=>⟨o,k _ o (fX (f:=λz=>z.1) U) e,q⟩⟩
noncomputable def setC(cs:dW)(a:Addr)(p:Obj->Prop):dW:=cs.map λz=>if z.1=a then(z.1,p) else z
variable {X base cs cs':dW}
theorem qR{a:Addr}{p:Obj->Prop}:br (setC cs a p)=br cs:=by
 unfold br setC;rw[dX];refine g7 λz _=>?_;show(if z.1=a then(z.1,p) else z).1=z.1;split<;>rfl
theorem oc{α:Type}{L:List (Addr×α)}{a:Addr}{p:α}(h:(a,p)∈L):a∈br L:=fX (f:=λz=>z.1) h
def iM:ak->Value->Prop
 | .none,v=>v= .none
 | .bool b,v=>v= .bool b
 | .int i,v=>∃t,v= .int i t
 | .str x,v=>∃t,v= .str x t
 | .val u,v=>v=u
 |_,_=>False
theorem iM.Ik{p:ak}{v:Value}(x:iM p v):a6 w h W p v:=by cases p<;>first |exact x |exact x.elim
def Sc:ak->Prop
 | .none=>True
 | .bool _=>True
 | .int _=>True
 | .str _=>True
 | .val _=>True
 |_=>False
theorem iM.of{p:ak}{v:Value}(aa:Sc p)(x:a6 w h W p v):iM p v:=by cases p<;>first |exact x |exact aa.elim
theorem iM.handed:∀{p:ak} {v:Value},iM p v->(∀i,p≠ .val (.builtin i))->handedIn v=true
 | .none,_,x,_=>by rw[show _=_ from x];rfl
 | .bool b,_,x,_=>by rw[show _=_ from x];rfl
 | .int i,_,⟨t,x⟩,_=>by rw[x];rfl
 | .str y,_,⟨t,x⟩,_=>by rw[x];rfl
 | .val u,v,x,h=>by
  rw[show v=u from x];induction u with
  |builtin i=>exact absurd rfl (h i)
  |_=>rfl
 | .list _,_,x,_=>x.elim
 | .tup _,_,x,_=>x.elim
 | .dict _ _,_,x,_=>x.elim
 | .bw _,_,x,_=>x.elim
 | .eP _ _,_,x,_=>x.elim
 | .obj _,_,x,_=>x.elim
 | .hj _ _ _,_,x,_=>x.elim
 | .lam _,_,x,_=>x.elim
inductive jb:List (Str×ak)->List DictEntry->Prop
 |nil:jb [] []
 |cons {x:Str} {p:ak} {hs:Int} {t:Tok} {v:Value} {kv:List (Str×ak)} {es:List DictEntry}:iM p v->jb kv es->jb ((x,p)::kv) (⟨hs,.str x t,v⟩::es)
noncomputable def iB(x:Str)(p:ak):List (Str×ak)->List (Str×ak)
 |[]=>[(x,p)]
 |(y,q)::r=>if y==x then(y,p)::r else(y,q)::iB x p r
theorem MO{x:Str}{p:ak}:∀{kv:List (Str×ak)},(iB x p kv).length<=kv.length+1:=by
 intro ba;induction ba with
 |nil=>
  exact ea _
 |cons z r aw=>
  have:=aw;unfold iB;split<;>simp<;>assumption
theorem jb.len{kv:List (Str×ak)}{es:List DictEntry}(x:jb kv es):es.length=kv.length:=by
 induction x with
 |nil=>rfl
 |cons _ _ aw=>simp[aw]
theorem jb.noRef{kv:List (Str×ak)}{es:List DictEntry}(x:jb kv es):es.any (·.refKey)=false:=by
 induction x with
 |nil=>rfl
 |cons _ _ aw=>rw[any_cons,aw];rfl
theorem jb.get{kv:List (Str×ak)}{es:List DictEntry}(x:jb kv es)(name:Str):match kv.lookup name with |some p=>∃v,getL name es=some (some v)/\iM p v |none=>getL name es=some none:=by
 have key:es.any (·.refKey)=false/\match kv.lookup name with |some p=>∃e,es.find? (·.key.isStr name)=some e/\iM p e.val |none=>es.find? (·.key.isStr name)=none:=by
  induction x with
  |nil=>exact⟨rfl,rfl⟩
  |@cons y p hs t v kv es Cu _ aw=>
   refine⟨by rw[any_cons,aw.1];rfl,?_⟩;rw[di,find?_cons];have ax:(Value.str y t).isStr name=(name==y):=by
    show(y==name)=(name==y)
    exact Bool.eq_iff_iff.mpr (by rw[gz,gz];exact eq_comm)
   dsimp only;rw[ax];induction name==y with
   |true=>exact⟨_,rfl,Cu⟩
   |false=>exact aw.2
 refine aE key λbR cI=>?_;unfold getL;induction ao:kv.lookup name with
 |some p=>rw[ao] at cI;refine ah cI λe ab ae=>?_;rw[ab];exact⟨_,rfl,ae⟩
 |none=>rw[ao] at cI;rw[show es.find? (·.key.isStr name)=none from cI];dsimp only;rw[bR];rfl
theorem jb.put{kv:List (Str×ak)}{es:List DictEntry}{name:Str}{p:ak}{v:Value}{hs:Int}{t:Tok}(aq:iM p v)(x:jb kv es):jb (iB name p kv) (putL name hs (.str name t) v es):=by
 induction x with
 |nil=>exact .cons aq .nil
 |@cons y q eH e2 ip kv es Cu r aw=>
  unfold iB putL;have ax:(Value.str y e2).isStr name=(y==name):=rfl;rw[ax];induction h:y==name with
  |true=>exact .cons aq r
  |false=>exact .cons Cu aw
def c8(kv:List (Str×ak))(o:Obj):Prop:=∃es n,o=dictOf es n/\jb kv es
def fZ(C dx:Addr)(o:Obj):Prop:=∃bQ,o=⟨.ref C,some dx,.plain,bQ⟩
def hv(C dx:Addr)(f:Nat->Option ak)(o:Obj):Prop:=∃bQ,o=⟨.ref C,some dx,.plain,bQ⟩/\bQ.size<=10/\∀i,match f i with |some p=>∃v,(bQ[i]?).join=some v/\iM p v |none=>(bQ[i]?).join=none
noncomputable def kf(f:Nat->Option ak)(i:Nat)(p:ak):Nat->Option ak:=λj=>if j=i then some p else f j
variable {bQ:Array (Option Value)}
section
variable {prog:Program} {w:World} {A:Around} {E:Value->Shared->Prop} {s:Shared} {x dx C:Addr} {jZ:Obj} {kv:List (Str×ak)} {name:Str}
theorem zb{es:List DictEntry} :cx (dictOf es n):= .inr λ_ q=>by injection q
theorem y1{dx:Addr}:cx ⟨.ref C,some dx,.plain,bQ⟩:= .inr λ_ q=>by injection q
theorem D4{p:ak}{es:List DictEntry}(X:(KF w).In s.heap)(ag:s.heap.get? x=some ⟨.ref C,some dx,.plain,bQ⟩)(hd:s.heap.get? dx=some (dictOf es n))(af:jb kv es)
  (iU:hasDictIn (KF w) C=true) (dj:plainGet (KF w) C name=true) (hf:findIn (KF w) (.ref C) name=some none) (ao:kv.lookup name=some p) (dt:∀i,p≠ .val (.builtin i))
  (h:∀v,iM p v->Q v {s with toks:=s.toks+1}):wpAny (model prog w) A (getAttr (.ref x) name true) Q E s:=by
 have bh:InstAt s.heap x ⟨.ref C,some dx,.plain,bQ⟩ C (some (dictOf es n)):=⟨ag,rfl,rfl,hd⟩
 have:=af.get name;rw[ao] at this;refine ah this λv ab ae=>?_;have aq:=ae.handed dt;exact get_value X bh (plainGet_of dj).1 (findObj_own iU hf rfl (by rw[lookIn_dict];exact ab)) aq (h v ae)
theorem zp{Q:Unit->Shared->Prop}{p:ak}{v:Value}{es:List DictEntry}(X:(KF w).In s.heap)(ag:s.heap.get? x=some ⟨.ref C,some dx,.plain,bQ⟩)(hd:s.heap.get? dx=some (dictOf es n))(af:jb kv es)(hz:kv.length<=100)
  (hs:findIn (KF w) (.ref C) "__setattr__"=some (some (.builtin "object.__setattr__"))) (aa:plainOver (KF w) C=true) (aM:takerIn (KF w) C name=some none) (iU:hasDictIn (KF w) C=true) (aq:iM p v)
  (h:∀h' jT il,SameBut dx s.heap h'->h'.get? dx=some (dictOf jT il)->jb (iB name p kv) jT->Q () {s with heap:=h',toks:=s.toks+2}):wpAny (model prog w) A (setAttr (.ref x) name v) Q E s:=by
 have bh:InstAt s.heap x ⟨.ref C,some dx,.plain,bQ⟩ C (some (dictOf es n)):=⟨ag,rfl,rfl,hd⟩
 have hlen:=af.len;refine set_plain X bh hs (osa_open (s:={s with toks:=s.toks+1}) X bh aa aM λb=>?_);refine ah (PySem.W.any_some iU) λcd U hW=>?_;refine aH (bu (aH (aH (wpAny_loadPart ag (aH (looks_clsIn X U _ _ _ {s with toks:=s.toks+1} (λ_ _ e=>e) ?_))))));rw[hW];refine bu (a:=some dx) (aH (bu (aH ?_)));have GG:=af.put (name:=name) (hs:=PyData.keyHash w.params name) (t:=s.toks+1) aq;have Il:(s.heap.update dx (Obj.putName name (PyData.keyHash w.params name) (.str name (s.toks+1)) v)).get? dx=some (dictOf (putL name (PyData.keyHash w.params name) (.str name (s.toks+1)) v es) (putN name es n)):=by
  rw[get?_update_self _ hd (by rw[putName_dict];rfl),putName_dict]
 unfold nsSet;refine aH (aH (wpAny_askSetting (bu (aH (wpAny_mkText (aH (wpAny_loadPart hd ?_)))))));show wpAny _ _ ((if aRefKeyMayBeTheName name es.toArray=true then _ else _):Sem Unit) _ _ _;have c:(!es.toArray.any (·.key.isStr name)&&es.toArray.any (·.refKey))=false:=by
  rw[<-Array.any_toList (p:=λe:DictEntry=>e.refKey),List.toList_toArray,af.noRef,Bool.and_false]
 rw[aRefKeyMayBeTheName_at,c];refine wpAny_updatePart hd ?_;have qu:(iB name p kv).length<=kv.length+1:=MO;refine aH (wpAny_lookBehind Il (pastItsLine_dict (by rw[mm,GG.len,sizeLine_eq];omega)) ?_);exact bu (h _ _ _ (.update ..) Il GG)
theorem get_slot{p:ak}{f:Nat->Option ak}{mem:Addr}(X:(KF w).In s.heap)(ag:s.heap.get? x=some jZ)(hs:hv C dx f jZ)(hd:s.heap.get? dx=some ik)
  (U:(clsIn (KF w) C).isSome=true) (dj:plainGet (KF w) C name=true) (hf:findIn (KF w) (.ref C) name=some (some (.ref mem))) (iW:specialIn (KF w) (.ref mem) "__get__"=some (some (.builtin "member_descriptor.__get__"))) (vD:takesIn (KF w) (.ref mem)=some true) (de:slotIn (KF w) mem C=some i)
  (aa:f i=some p) (dt:∀i,p≠ .val (.builtin i)) (h:∀v,iM p v->Q v {s with toks:=s.toks+1}):wpAny (model prog w) A (getAttr (.ref x) name true) Q E s:=by
 refine dK hs λbQ aU _ BQ=>?_;subst aU;have bh:InstAt s.heap x ⟨.ref C,some dx,.plain,bQ⟩ C (some ik):=⟨ag,rfl,rfl,hd⟩
 have:=BQ i;rw[aa] at this;refine ah this λv ab ae=>?_;have aq:=ae.handed dt;refine PySem.W.get_bind X bh (plainGet_of dj).1 (findObj_data U hf iW vD) (plainGet_of dj).2 (wpAny_call (slot_get (s:={s with toks:=s.toks+1}) X bh de ab ?_));show wpAny _ _ (handedOut v) _ _ _;rw[handedOut_of aq];exact bu (h v ae)
end
open PySem.Calls Builtin Builtin.ObjectAttr Builtin.Getset_descriptor
theorem Mh{v:Value}(j:Nat):(((bQ++Array.replicate (i+1 - bQ.size) none).setIfInBounds i (some v))[j]?).join=if j=i then some v else(bQ[j]?).join:=by
 rw[Array.getElem?_setIfInBounds];by_cases h:j=i
 ·subst h;rw[aQ rfl,aQ rfl,aQ (by simp;omega)];rfl
 ·rw[aI (λq=>h q.symm),aI h,Array.getElem?_append];split
  ·rfl
  ·rename_i aN;rw[Array.getElem?_eq_none (xs:=bQ) (by omega)];induction q:(Array.replicate (i+1 - bQ.size) (none:Option Value))[j - bQ.size]? with
   |none=>rfl
   |some z=>
    rw[Array.getElem?_replicate] at q;replace q:=q;split at q
    ·obtain rfl:=bT q;rfl
    ·injection q
section
variable {prog:Program} {w:World} {A:Around} {E:Value->Shared->Prop} {s:Shared} {x dx C:Addr} {jZ:Obj} {name:Str}
theorem set_slot{Q:Unit->Shared->Prop}{p:ak}{v:Value}{f:Nat->Option ak}{mem:Addr}(X:(KF w).In s.heap)(ag:s.heap.get? x=some jZ)(rX:hv C dx f jZ)(hd:s.heap.get? dx=some ik)
  (hs:findIn (KF w) (.ref C) "__setattr__"=some (some (.builtin "object.__setattr__"))) (aa:plainOver (KF w) C=true) (aM:takerIn (KF w) C name=some (some (.ref mem))) (bD:typeIn (KF w) (.ref mem)=some (.type "member_descriptor")) (de:slotIn (KF w) mem C=some i) (hi:i < 10) (aq:iM p v)
  (h:∀h' vE,SameBut x s.heap h'->h'.get? x=some vE->hv C dx (kf f i p) vE->Q () {s with heap:=h',toks:=s.toks+1}):wpAny (model prog w) A (setAttr (.ref x) name v) Q E s:=by
 refine fh λfz cE=>?_;refine dK rX λbQ aU hz BQ=>?_;subst aU;refine cE ?_;have bh:InstAt s.heap x ⟨.ref C,some dx,.plain,bQ⟩ C (some ik):=⟨ag,rfl,rfl,hd⟩
 refine set_plain X bh hs (osa_descr (s:={s with toks:=s.toks+1}) KF.slot_mset X bh aa aM bD ?_);refine fh λfz cE=>?_;obtain⟨n,yw,owner,behind,jr,d,Wi,cd,aj,U,hm,I,a7⟩:=slot_of X de;subst a7;obtain⟨dt,g,WZ,t,os⟩:=s;refine cE ?_;have yi:=bh.type (M:=model prog w);have cY:=looks_mroIn (M:=model prog w) X hm;have WK:Looks (model prog w) dt (Slots.slotNamesOf (.ref C)) cd.slotNames:=(looks_clsIn X U).andThen .now;dsimp only at aj ag yi cY;have f0:=looks_field (M:=model prog w) aj 0 (v:= .str n yw) rfl;have f1:=looks_field (M:=model prog w) aj 1 (v:=owner) rfl;have t5:=looks_field (M:=model prog w) aj 3 (v:= .builtin "proto.slot#set") rfl;have f4:=looks_field (M:=model prog w) aj 4 (v:= .int behind jr) rfl;refine codeAny_call_builtin KF.slot_mset.plain KF.entry_mset (KF.slot_mset.check _ _ _ _ _ _ _ _ ⟨_,aj,rfl⟩ (KF.args_mset _ _ _) ?_);unfold Builtin.«member_descriptor.__set__» descrSet descrStoreThrough descrCheckInstance descrNameAndClass isInstance;have Vk:Looks (model prog w) dt (descrItself (.ref mem)) [.ref mem]:=((Looks.ld (part:=none) aj).andThen .now).andThen (Looks.of_pure (by kernel_rfl))
 repeat lk
 refine⟨Code.quiet_builtin _ (by kernel_rfl),codeAny_builtin KF.entry_slotset ?_⟩;unfold Builtin.«proto.slot#set» Slots.target
 repeat lk
 rw[aI I];refine bu (aH ?_);unfold setSlotAt;dsimp only;rw[aI (by rw[sizeLine_eq];omega)];refine wpAny_updatePart ag (bu (h _ _ (.update ..) (get?_update_self _ ag rfl) ⟨_,rfl,?_,λj=>?_⟩))
 ·simp;omega
 ·rw[Mh];unfold kf;by_cases q:j=cd.slotNames.length - 1 - behind.toNat
  ·rw[aQ q,aQ q];exact⟨v,rfl,aq⟩
  ·rw[aI q,aI q];exact BQ j
end
variable {p':Obj->Prop}
theorem bP.setC{ad:Str->Addr}{a:Addr}{p:Obj->Prop}(F:bP w s₀ env W₀ aJ ad m (ay cs) s)(U:(a,p)∈cs)(hs:SameBut a s.heap h')(aj:h'.get? a=some bZ)(cZ:cx bZ)(aa:p' bZ):
  bP w s₀ env W₀ aJ ad m (ay (setC cs a p')) {s with heap:=h',toks:=tk}/\bC (cD env m ad (ay cs)) (cD env m ad (ay (setC cs a p'))) s {s with heap:=h',toks:=tk}:=by
 have b5:(ay (lp.setC cs a p')).P h':=by
  refine⟨by rw[qR];exact F.p.1,λc fx=>?_⟩;refine ah (bA.mp fx) λc₀ Pb bk=>?_;subst bk;by_cases q:c₀.1=a
  ·rw[aQ q];exact⟨bZ,by show h'.get? c₀.1=_;rw[q];exact aj,aa⟩
  ·rw[aI q];refine ah (F.p.2 c₀ Pb) λo e po=>?_;exact⟨o,hs.extBut _ _ q e,po⟩
 have gv:G w h':=F.ground λb o I e=>hs.extBut b o (λq=>I (q▸oc U)) e;refine F.grow ⟨_,_,rfl⟩ (λb o I _ e=>hs.extBut b o (λq=>I (q▸oc U)) e) gv (λz hz=>?_) b5;have eJ:z∈br cs:=by rw[<-qR (a:=a) (p:=p')];exact hz
 refine⟨.inl eJ,?_⟩;by_cases q:z=a
 ·exact⟨bZ,q▸aj,cZ⟩
 ·refine aE (F.F.st.low z (.dy (.inr eJ))) λbz _=>?_;refine ah bz λo e cF=>?_;exact⟨o,hs.extBut _ _ q e,cF⟩
theorem bP.nF{ad:Str->Addr}{a:Addr}{p:Obj->Prop}{o:Obj}(F:bP w s₀ env W₀ aJ ad m (ay cs) s)(e:Ext s s')(g:G w s'.heap)(aA:s.heap.get? a=none)(aj:s'.heap.get? a=some o)(cZ:cx o)(aa:p o):
  bP w s₀ env W₀ aJ ad m (ay (cs++[(a,p)])) s'/\bC (cD env m ad (ay cs)) (cD env m ad (ay (cs++[(a,p)]))) s s':=by
 have aM:=F.F.st.g.fC aA;have b5:(ay (cs++[(a,p)])).P s'.heap:=by
  refine aE ((F.ext e g).p) λdz bN=>?_;refine⟨?_,λc U=>?_⟩
  ·rw[br,dY,gL];refine⟨dz,by simp,λy av z hz q=>?_⟩;obtain rfl:=cQ.mp hz;subst q;refine aE (F.F.st.low _ (.dy (.inr av))) λb7 _=>?_;refine ah b7 λbZ aO _=>?_;rw[aA] at aO;injection aO
  ·rcases dk.mp U with U |U
   ·exact bN c U
   ·obtain rfl:=cQ.mp U;exact⟨o,aj,aa⟩
 refine F.grow e.same (λb ob _ I q=>e.keep b ob I q) g (λz hz=>?_) b5;have hz:z∈(cs++[(a,p)]).map (λz=>z.1):=hz;rw[dY,dk] at hz;replace hz:=hz;rcases hz with hz |hz
 ·refine aE (F.F.st.low z (.dy (.inr hz))) λcC tr=>?_;refine ah cC λbZ aO cF=>?_;exact⟨.inl hz,bZ,e.keep _ _ tr aO,cF⟩
 ·obtain rfl:=cQ.mp hz;exact⟨.inr ⟨aA,aM⟩,o,aj,cZ⟩
theorem aV.name{r:Rs}{y:Str}{p:ak}(ao:m.lookup y=some p)(hd:(y==("__debug__":Str))=false):aV prog w n env m r (.Name y pos) p:=Ev.R (Ev.name ao hd)
theorem lK{e:Expr}{x dx:Addr}{kv:List (Str×ak)}{name:Str}{p:ak}(he:aV prog w n env m (ay cs) e (.val (.ref x)))(ag:(x,fZ C dx)∈cs)(hd:(dx,c8 kv)∈cs)
  (iU:hasDictIn (KF w) C=true) (dj:plainGet (KF w) C name=true) (hf:findIn (KF w) (.ref C) name=some none) (ao:kv.lookup name=some p) (dt:∀i,p≠ .val (.builtin i)) (I:attributeBase e name env (eval e env)=eval e env):
  aV prog w n env m (ay cs) (.Attribute e name pos) p:=λW A s Q E ai st a0 aa a4=>by
 rw[arm_eval_Attribute,I];refine aH (he W A s _ E ai st a0 aa λv au aq az aF=>aH (wpAny_standAt (aH (fY ?_))));rw[show v= .ref x from aq];refine fh λfz cE=>?_;refine aE (Rs.ext (r:=ay cs) a0 st.low az aa) λ_ U=>?_;refine ah (U _ ag) λjZ hS c2=>?_;refine aP c2 λbQ c1=>?_;subst c1;refine ah (U _ hd) λik dw eQ=>?_;refine dP eQ λes k eS af=>?_;subst eS;refine cE ?_;refine D4 aF.K hS dw af iU dj hf ao dt λv aq=>?_;exact aH (wpAny_letTemporaryGo (bu (a4 v _ aq.Ik (az.trans (.tok _ _)) aF)))
theorem ud{e:Expr}{x dx mem:Addr}{f:Nat->Option ak}{name:Str}{p:ak}{q:Obj->Prop}(he:aV prog w n env m (ay cs) e (.val (.ref x)))(ag:(x,hv C dx f)∈cs)(hd:(dx,q)∈cs)
  (U:(clsIn (KF w) C).isSome=true) (dj:plainGet (KF w) C name=true) (hf:findIn (KF w) (.ref C) name=some (some (.ref mem))) (iW:specialIn (KF w) (.ref mem) "__get__"=some (some (.builtin "member_descriptor.__get__"))) (vD:takesIn (KF w) (.ref mem)=some true) (de:slotIn (KF w) mem C=some i)
  (nR:f i=some p) (dt:∀i,p≠ .val (.builtin i)) (I:attributeBase e name env (eval e env)=eval e env):aV prog w n env m (ay cs) (.Attribute e name pos) p:=λW A s Q E ai st a0 aa a4=>by
 rw[arm_eval_Attribute,I];refine aH (he W A s _ E ai st a0 aa λv au aq az aF=>aH (wpAny_standAt (aH (fY ?_))));rw[show v= .ref x from aq];refine aE (Rs.ext (r:=ay cs) a0 st.low az aa) λ_ kQ=>?_;refine ah (kQ _ ag) λjZ hS hs=>?_;refine ah (kQ _ hd) λik dw _=>?_;refine get_slot aF.K hS hs dw U dj hf iW vD de nR dt λv aq=>?_;exact aH (wpAny_letTemporaryGo (bu (a4 v _ aq.Ik (az.trans (.tok _ _)) aF)))
theorem yQ{o e:Expr}{x dx:Addr}{kv:List (Str×ak)}{name:Str}{p:ak}(he:aV prog w n env m (ay cs) e p)(kk:Sc p)(aj:aV prog w n env m (ay cs) o (.val (.ref x)))(ag:(x,fZ C dx)∈cs)(hd:(dx,c8 kv)∈cs)(hz:kv.length<=100)
  (hs:findIn (KF w) (.ref C) "__setattr__"=some (some (.builtin "object.__setattr__"))) (aa:plainOver (KF w) C=true) (aM:takerIn (KF w) C name=some none) (iU:hasDictIn (KF w) C=true)
  (h:Φ .next m (ay (setC cs dx (c8 (iB name p kv))))) (jn:swapsWith e (some (.Attribute o name ma)) pos.line env=pure false):ek prog w n env m (ay cs) (.Assign [.Attribute o name ma] e pos) Φ:=λs₀ W₀ aJ ad A s E ai F=>by
 refine plainObj_wpAny_Assign_Attribute ?_ jn;refine he _ A s _ E ai F.F.st F.dq F.p λv au aq az aF=>?_;have aX:=F.ext az aF;refine aj _ A au _ E ai aX.F.st aX.dq aX.p λho aL mS aR aY=>?_;rw[show ho= .ref x from mS];have bp:=aX.ext aR aY;refine fh λfz cE=>?_;refine ah (bp.p.2 _ ag) λjZ hS fS=>?_;refine aP fS λbQ ft=>?_;subst ft;refine ah (bp.p.2 _ hd) λik dw iz=>?_;refine dP iz λes k gg af=>?_;subst gg;refine cE ?_;refine zp aY.K hS dw af hz hs aa aM iU (iM.of kk aq) λh' jT il bL hW jR=>?_;refine aE (bp.setC (tk:=aL.toks+2) (p':=c8 (iB name p kv)) hd bL hW zb ⟨jT,il,rfl,jR⟩) λdv gh=>?_;exact⟨ad,m,_,dv,((bC.ext az).trans (.ext aR)).trans gh,h⟩
theorem wu{o e:Expr}{x dx mem:Addr}{f:Nat->Option ak}{name:Str}{p:ak}{q:Obj->Prop}(he:aV prog w n env m (ay cs) e p)(kk:Sc p)(aj:aV prog w n env m (ay cs) o (.val (.ref x)))(ag:(x,hv C dx f)∈cs)(hd:(dx,q)∈cs)
  (hs:findIn (KF w) (.ref C) "__setattr__"=some (some (.builtin "object.__setattr__"))) (aa:plainOver (KF w) C=true) (aM:takerIn (KF w) C name=some (some (.ref mem))) (bD:typeIn (KF w) (.ref mem)=some (.type "member_descriptor")) (de:slotIn (KF w) mem C=some i) (hi:i < 10)
  (h:Φ .next m (ay (setC cs x (hv C dx (kf f i p))))) (jn:swapsWith e (some (.Attribute o name ma)) pos.line env=pure false):ek prog w n env m (ay cs) (.Assign [.Attribute o name ma] e pos) Φ:=λs₀ W₀ aJ ad A s E ai F=>by
 refine plainObj_wpAny_Assign_Attribute ?_ jn;refine he _ A s _ E ai F.F.st F.dq F.p λv au aq az aF=>?_;have aX:=F.ext az aF;refine aj _ A au _ E ai aX.F.st aX.dq aX.p λho aL mS aR aY=>?_;rw[show ho= .ref x from mS];have bp:=aX.ext aR aY;refine ah (bp.p.2 _ ag) λjZ hS rX=>?_;refine ah (bp.p.2 _ hd) λik dw _=>?_;refine set_slot aY.K hS rX dw hs aa aM bD de hi (iM.of kk aq) λh' vE bL r5 rv=>?_;refine ah (id rv) λyf iA _=>?_;subst iA;refine aE (bp.setC (tk:=aL.toks+1) ag bL r5 y1 rv) λdv gh=>?_;exact⟨ad,m,_,dv,((bC.ext az).trans (.ext aR)).trans gh,h⟩
def eO(w:World)(l:List (Str×Addr))(o:Obj):Prop:=∃es n,o={cls:= .type "dict",data:= .dict ⟨es⟩ n}/\KeysAre w (l.map (·.1)) es/\(l.map (·.1)).Nodup/\es.map (·.val)=l.map (λz=> .ref z.2)
def cy(l:List Str)(o:Obj):Prop:=∃vs n,o={cls:= .type "list",data:= .seq ⟨vs⟩ n}/\je l vs
theorem nf{vs:Array Value} :cx {cls:= .type "list",data:= .seq vs n}:= .inr λ_ q=>by injection q
theorem y4{es:Array DictEntry} :cx {cls:= .type "dict",data:= .dict es n}:= .inr λ_ q=>by injection q
section
variable {prog:Program} {w:World} {n:Nat} {env:Env} {m:Loc} {cs:dW} {r:Rs} {Φ:dp->Loc->Rs->Prop}
theorem n8{e:Expr}(h:aV prog w n env m r e q')(aq:∀(W:Addr->Prop) h,(∀a,r.J a->W a)->r.P h->∀v,a6 w h W q' v->a6 w h W q v):aV prog w n env m r e q:=λW A s Q E ai st a0 aa a4=>
 h W A s Q E ai st a0 aa λv s' SN e g=>a4 v s' (aq W _ a0 (Rs.ext a0 st.low e aa) v SN) e g
theorem uk{a:Addr}{l:List Str}(hz:(a,cy l)∈cs)(W:Addr->Prop)(h:Heap)(a0:∀b,(ay cs).J b->W b)(aa:(ay cs).P h)(v:Value)(aq:a6 w h W (.val (.ref a)) v):a6 w h W (.bw (aB l)) v:=by
 rw[show v= .ref a from aq];refine ah (aa.2 _ hz) λo e a7=>?_;refine dP a7 λvs k aU s=>?_;subst aU;exact⟨a,vs,k,rfl,a0 a (oc hz),e,s.vQ⟩
theorem Eh:∀{l:List Addr},bJ w h W (l.map λa=> .val (.ref a)) (l.map λa=> .ref a):=by
 intro ba;induction ba with
 |nil=>
  exact rfl
 |cons a r aw=>
  exact⟨.ref a,_,rfl,rfl,aw⟩
theorem wJ{d:Addr}{l:List (Str×Addr)}(hz:(d,eO w l)∈cs)(hd:(d==sysModules)=false)(W:Addr->Prop)(h:Heap)(a0:∀b,(ay cs).J b->W b)(aa:(ay cs).P h)(v:Value)(aq:a6 w h W (.val (.ref d)) v):a6 w h W (.eP (l.map (·.1)) (l.map λz=> .val (.ref z.2))) v:=by
 rw[show v= .ref d from aq];refine ah (aa.2 _ hz) λo e bz=>?_;refine iC bz λes k bk ab ae aC=>?_;subst bk;refine⟨d,es,k,rfl,a0 d (oc hz),e,⟨ab,ae,hd⟩,?_⟩;rw[aC];have:=Eh (w:=w) (h:=h) (W:=W) (l:=l.map (·.2));rw[dX,dX] at this;exact this
def dd(prog:Program)(w:World)(n:Nat)(env:Env)(m:Loc)(r:Rs)(pos:Pos)(es:List Expr)(ps:List ak):Prop:=
 ∀(W:Addr->Prop) (A:Around) (s:Shared) (Q:List Value->Shared->Prop) (E:Value->Shared->Prop),bK n A->St w env W m s.heap->(∀a,r.J a->W a)->r.P s.heap->
  (∀vs s',bJ w s'.heap W ps vs->Ext s s'->G w s'.heap->Q vs s')->wpAny (model prog w) A (spliced (backTo pos (starEach es env))) Q E s
theorem dd.nil:dd prog w n env m r pos [] []:=λW A s Q E ai st a0 aa a4=>lS (a4 [] s rfl (.refl s) st.g)
theorem dd.cons{e:Expr}{p:ak}(he:aV prog w n env m r e p)(bf:dd prog w n env m r pos es ps)(hs:starEach (e::es) env=(false,eval e env)::starEach es env):dd prog w n env m r pos (e::es) (p::ps):=λW A s Q E ai st a0 aa a4=>by
 rw[hs];refine Calls.spliced_cons (he W A s _ E ai st a0 aa λv au aq az aF=>?_);exact bf W A au _ E ai (st.ext az aF) a0 (Rs.ext a0 st.low az aa) λvs aL bb aR aY=>a4 _ aL ⟨v,vs,rfl,aq.ext aF aR,bb⟩ (az.trans aR) aY
theorem J0{e:Expr}{l:List ak}(he:aV prog w n env m r e (.list l))(hz:l.length<=sizeLine)(hs:starEach [.Starred e sp] env=[(true,eval e env)]):dd prog w n env m r pos [.Starred e sp] l:=λW A s Q E ai st a0 aa a4=>by
 refine items_star (rest:=[]) (he W A s _ E ai st a0 aa λv au aq az aF=>?_) hs;refine cg aq λa vs k b7 aW aj bb=>?_;subst b7;unfold StarOf notIterableAtAll;refine aH (wpAny_specialOf (T:="list") ⟨_,aj,rfl⟩ PySem.F.slot_list_iter.lookup (bu ⟨rfl,?_⟩));refine wpAny_collect_seq a (.inl rfl) aj rfl rfl (λh' ar=>?_) (by show vs.length<=_;rw[<-bb.len];exact hz);refine lS ?_;have aR:Ext au {au with heap:=h'}:=⟨⟨h',au.toks,rfl⟩,.of ar⟩
 refine a4 _ _ ?_ (az.trans aR) (aF.keeps ar);rw[append_nil];exact bb.ext aF aR
theorem aV.cmp{l r':Expr}{p z:ak}(ao:aV prog w n env m r l p)(bf:aV prog w n env m r r' q)(aj:cA prog w (compareOp op) p q z)(hm:behindInMarks op r'=false):aV prog w n env m r (.Compare l [op] [r'] pos) z:=λW A s Q E ai x a0 aa h=>by
 refine wpAny_Compare1 (ao W A s _ E ai x a0 aa λa au af az aF=>bf W A au _ E ai (x.ext az aF) a0 (Rs.ext a0 x.low az aa) λb aL I aR aY=>?_) hm;exact aj W A aL a b Q E (ai.le (c0 _)) aY ((x.ext az aF).ext aR aY).low (af.ext aF aR) I λv s' aq e g=>h v s' aq ((az.trans aR).trans e) g
theorem gE.cmp{l r':Expr}{p:ak}{b:Bool}(ao:aV prog w n env m r l p)(bf:aV prog w n env m r r' q)(aj:cA prog w (compareOp op) p q (.bool b))(hm:behindInMarks op r'=false):gE prog w n env m r (.Compare l [op] [r'] pos) b:=λW A s Q E ai x a0 aa h=>by
 refine wpAny_isTrue_Compare1 (ao W A s _ E ai x a0 aa λa au af az aF=>bf W A au _ E ai (x.ext az aF) a0 (Rs.ext a0 x.low az aa) λc aL I aR aY=>?_) hm;refine aj W A aL a c _ E (ai.le (c0 _)) aY ((x.ext az aF).ext aR aY).low (af.ext aF aR) I λv s' aq e g=>?_;rw[show v= .bool b from aq];exact mu (h s' ((az.trans aR).trans e) g)
theorem gE.plain{e:Expr}{p:ak}{b:Bool}(he:aV prog w n env m r e p)(aM:hb prog w p b)
  (hs:∀whole,isTrue e env whole=(do let v<-whole;standAt e.pos;holding [v] (truthy v))):gE prog w n env m r e b:=λW A s Q E ai x a0 aa h=>by
 rw[hs];refine aH (he W A s _ E ai x a0 aa λv au aq az aF=>aH (wpAny_standAt (fY ?_)));exact aM W A au v Q E (ai.le (c0 _)) aF aq λs' e g=>h s' (az.trans e) g
theorem aV.item{v i:Expr}{k p:ak}{T id:String}(aq:aV prog w n env m r v q)(hi:aV prog w n env m r i k)(bD:Typed w q T)(ao:typeLookup (.type T) "__getitem__"=pure (some (.builtin id)))(dj:cA prog w getItem q k p)
  (hs:∀o j,subscripted i false o j=operate [o,j] (getItem o j)):aV prog w n env m r (.Subscript v i pos) p:=λW A s Q E ai x a0 aa h=>by
 refine PyProof.Rows.Subscript_ (aq W A s _ E ai x a0 aa λo au aj az aF=>hi W A au _ E ai (x.ext az aF) a0 (Rs.ext a0 x.low az aa) λj aL aN aR aY=>?_);have fin:wpAny (model prog w) A (getItem o j) Q E aL:=dj W A aL o j Q E (ai.le (c0 _)) aY ((x.ext az aF).ext aR aY).low (aj.ext aF aR) aN λv s' aq e g=>h v s' aq ((az.trans aR).trans e) g;exact PyProof.Rows.tail_any (bD W aL o aY (aj.ext aF aR)).1 ao fin (hs o j)
theorem Df{o:Expr}{name:Str}{T id:String}{p:ak}(mt:Meth T name id)(aj:aV prog w n env m r o q)(bD:Typed w q T)(af:dd prog w n env m r pos es ps)(U:Cl prog w n (.builtin id) (q::ps) p)
  (cv:(starEach es env).any (·.1)=false) (ha:attributeBase o name env (eval o env)=eval o env)
  (jf:((backTo pos (starEach es env)).all (λx=> !x.1)&&(backToKw pos (keywordEach [] env)).all (λx=>x.1.isSome)&&decide (es.length+([]:List Keyword).length+(if([]:List Keyword).isEmpty then 0 else 1) < 30))=true)
  (gO:(apos.endLine==pos.line)=true):aV prog w n env m r (.Call (.Attribute o name apos) es [] pos) p:=λW A s Q E ai x a0 aa h=>by
 refine mv ha jf gO mt.hG mt.slot mt.ty (aj W A s _ E ai x a0 aa λv au aq az aF=>?_);refine aE (bD W au v aF aq) λab ae=>?_;refine⟨ab,ae,?_⟩;have c4:=x.ext az aF;have I:=jz (pos:=pos) cv;refine lb (kA I) (hu I (af W A au _ E ai c4 a0 (Rs.ext a0 x.low az aa) λvs aL bb aR aY=>?_));exact U W A aL (v::vs) Q E ai aY (c4.ext aR aY).low ⟨v,vs,rfl,aq.ext aF aR,bb⟩ λu s' bE e g=>h u s' bE ((az.trans aR).trans e) g
theorem Ds{id:String}{p:ak}(iZ:Ev prog w n env m eL (.val (.builtin id)))(af:dd prog w n env m r pos es ps)(U:Cl prog w n (.builtin id) ps p)(cv:(starEach es env).any (·.1)=false)
  (fu:eval (.Call eL es [] pos) env=(do callWith pos (<-eval eL env) [] (backTo pos (starEach es env)) (backToKw pos (keywordEach [] env)))):aV prog w n env m r (.Call eL es [] pos) p:=λW A s Q E ai x a0 aa h=>by
 rw[fu];refine aH (iZ W A s _ E ai x λv au aq az aF=>?_);rw[show v= .builtin id from aq];have c4:=x.ext az aF;have I:=jz (pos:=pos) cv;refine lb (kA I) (hu I (af W A au _ E ai c4 a0 (Rs.ext a0 x.low az aa) λvs aL bb aR aY=>?_));exact U W A aL ([]++vs) Q E ai aY (c4.ext aR aY).low bb λu s' bE e g=>h u s' bE ((az.trans aR).trans e) g
theorem Dq{T:String}{p:ak}(iZ:Ev prog w n env m eL (.val (.type T)))(af:dd prog w n env m r pos es ps)(U:Cl prog w n (.type T) ps p)(cv:(starEach es env).any (·.1)=false)
  (fu:eval (.Call eL es [] pos) env=(do callWith pos (<-eval eL env) [] (backTo pos (starEach es env)) (backToKw pos (keywordEach [] env)))):aV prog w n env m r (.Call eL es [] pos) p:=λW A s Q E ai x a0 aa h=>by
 rw[fu];refine aH (iZ W A s _ E ai x λv au aq az aF=>?_);rw[show v= .type T from aq];have c4:=x.ext az aF;have I:=jz (pos:=pos) cv;refine PySem.callWith_type (kA I) (hu I (af W A au _ E ai c4 a0 (Rs.ext a0 x.low az aa) λvs aL bb aR aY=>?_));exact U W A aL ([]++vs) Q E ai aY (c4.ext aR aY).low bb λu s' bE e g=>h u s' bE ((az.trans aR).trans e) g
theorem yR:fi prog w n env m (ay cs) (.List [] qy) (λp r'=>∃D,p= .val (.ref D)/\r'=ay (cs++[(D,cy [])])):=λs₀ W₀ aJ ad A s Q E ai F a4=>by
 refine PyProof.Rows.List_ (lS ?_);refine iq ?_ (by show(0:Nat)<=_;exact c0 _);obtain⟨aS,k'⟩:=F.nF (p:=cy []) (.push ..) (F.F.st.g.push _) (eA _) (dc _ rfl) nf ⟨[],0,rfl,[],rfl,rfl⟩;exact a4 (.val (.ref s.heap.objs.size)) _ _ _ aS k' rfl trivial ⟨_,rfl,rfl⟩
theorem I7:fi prog w n env m (ay cs) (.Dict [] [] qy) (λp r'=>∃D,p= .val (.ref D)/\r'=ay (cs++[(D,eO w [])])/\(D==sysModules)=false):=λs₀ W₀ aJ ad A s Q E ai F a4=>by
 refine wpAny_Dict_empty ?_;obtain⟨aS,k'⟩:=F.nF (p:=eO w []) (.push ..) (F.F.st.g.push _) (eA _) (dc _ rfl) y4 ⟨[],0,rfl,rfl,nodup_nil,rfl⟩;exact a4 (.val (.ref s.heap.objs.size)) _ _ _ aS k' rfl trivial ⟨_,rfl,rfl,F.F.st.g.noSys (ea _)⟩
theorem CU{o e:Expr}{x dx:Addr}{name:Str}(he:fi prog w n env m r e Ψ)
  (hs:findIn (KF w) (.ref C) "__setattr__"=some (some (.builtin "object.__setattr__"))) (aa:plainOver (KF w) C=true) (aM:takerIn (KF w) C name=some none) (iU:hasDictIn (KF w) C=true)
  (h:∀p r',Ψ p r'->Sc p/\∃cs kv,b0 r' (ay cs)/\aV prog w n env m (ay cs) o (.val (.ref x))/\(x,fZ C dx)∈cs/\(dx,c8 kv)∈cs/\kv.length<=100/\Φ .next m (ay (setC cs dx (c8 (iB name p kv))))) (jn:swapsWith e (some (.Attribute o name ma)) pos.line env=pure false):ek prog w n env m r (.Assign [.Attribute o name ma] e pos) Φ:=λs₀ W₀ aJ ad A s E ai F=>by
 refine plainObj_wpAny_Assign_Attribute ?_ jn;refine he s₀ W₀ aJ ad A s _ E ai F λp r' v au aX k₁ aq e0 cU=>?_;refine fh λfz cE=>?_;obtain⟨kk,cs,kv,hle,aj,ag,hd,hz,hT⟩:=h p r' cU;refine cE ?_;rw[hle.vW] at k₁;replace aX:=aX.le hle;refine aj _ A au _ E ai aX.F.st aX.dq aX.p λho aL mS aR aY=>?_;rw[show ho= .ref x from mS];have bp:=aX.ext aR aY;refine fh λfz cE=>?_;refine ah (bp.p.2 _ ag) λjZ hS c1=>?_;refine aP c1 λbQ cC=>?_;subst cC;refine ah (bp.p.2 _ hd) λik dw eS=>?_;refine dP eS λes k c2 af=>?_;subst c2;refine cE ?_;refine zp aY.K hS dw af hz hs aa aM iU (iM.of kk aq) λh' jT il bL hW jR=>?_;refine aE (bp.setC (tk:=aL.toks+2) (p':=c8 (iB name p kv)) hd bL hW zb ⟨jT,il,rfl,jR⟩) λdv gh=>?_;exact⟨ad,m,_,dv,(k₁.trans (.ext aR)).trans gh,hT⟩
theorem IH{o e:Expr}{x dx mem:Addr}{name:Str}{q:Obj->Prop}(he:fi prog w n env m r e Ψ)
  (hs:findIn (KF w) (.ref C) "__setattr__"=some (some (.builtin "object.__setattr__"))) (aa:plainOver (KF w) C=true) (aM:takerIn (KF w) C name=some (some (.ref mem))) (bD:typeIn (KF w) (.ref mem)=some (.type "member_descriptor")) (de:slotIn (KF w) mem C=some i) (hi:i < 10)
  (h:∀p r',Ψ p r'->Sc p/\∃cs f,b0 r' (ay cs)/\aV prog w n env m (ay cs) o (.val (.ref x))/\(x,hv C dx f)∈cs/\(dx,q)∈cs/\Φ .next m (ay (setC cs x (hv C dx (kf f i p))))) (jn:swapsWith e (some (.Attribute o name ma)) pos.line env=pure false):ek prog w n env m r (.Assign [.Attribute o name ma] e pos) Φ:=λs₀ W₀ aJ ad A s E ai F=>by
 refine plainObj_wpAny_Assign_Attribute ?_ jn;refine he s₀ W₀ aJ ad A s _ E ai F λp r' v au aX k₁ aq e0 cU=>?_;refine fh λfz cE=>?_;obtain⟨kk,cs,f,hle,aj,ag,hd,hT⟩:=h p r' cU;refine cE ?_;rw[hle.vW] at k₁;replace aX:=aX.le hle;refine aj _ A au _ E ai aX.F.st aX.dq aX.p λho aL mS aR aY=>?_;rw[show ho= .ref x from mS];have bp:=aX.ext aR aY;refine fh λfz cE=>?_;refine ah (bp.p.2 _ ag) λjZ hS rX=>?_;refine ah (bp.p.2 _ hd) λik dw _=>?_;refine cE ?_;refine set_slot aY.K hS rX dw hs aa aM bD de hi (iM.of kk aq) λh' vE bL r5 rv=>?_;refine fh λfz cE=>?_;refine ah (id rv) λyf eQ _=>?_;subst eQ;refine aE (bp.setC (tk:=aL.toks+1) (p':=hv C dx (kf f i p)) ag bL r5 y1 rv) λdv gh=>?_;refine cE ?_;exact⟨ad,m,_,dv,(k₁.trans (.ext aR)).trans gh,hT⟩
end
variable {e1:Sem Bool}
section
variable {prog:Program} {w:World} {n:Nat} {env:Env} {m:Loc} {cs:dW} {r:Rs} {Φ:dp->Loc->Rs->Prop}
theorem bP.callC{ad:Str->Addr}{f:Addr}(h:eX prog w n f args r Ψ)(ai:bK n A)(F:bP w s₀ env W₀ aJ ad m r s)(bb:bJ w s.heap (bU W₀ env m ad λa=>aJ a\/r.J a) args vs)(cN:dB args)
  (a4:∀p r' v s',bP w s₀ env W₀ aJ ad m r' s'->bC (cD env m ad r) (cD env m ad r') s s'->a6 w s'.heap (bU W₀ env m ad λa=>aJ a\/r'.J a) p v->cb p->Ψ p r'->Q v s'):codeAny (model prog w) A (.call (.ref f) ⟨vs,[]⟩) (o8 Q E) s:=by
 refine aE F.callee λhK h2=>?_;refine h s₀ s W₀ (λa=>aJ a\/b4 env m ad a) A vs Q E ai F.F.same F.F.keep F.F.dM F.F.st.g F.F.fg hK h2 F.p (bb.less cN λa af=>?_) λp v r' s' cU aq e0 B=>?_
 ·rcases af with af |(af |af) |af
  ·exact .nV af
  ·exact .dy (.inl af)
  ·exact af.ky
  ·exact .dy (.inr af)
 ·refine aE (F.back B) λaS k'=>?_;refine a4 p r' v s' aS k' (aq.less e0 λa af=>?_) e0 cU;rcases af.split with q |(q |q) |q
  ·exact .inl q
  ·exact .inr (.inl (.inl q))
  ·exact .inr (.inr q)
  ·exact .inr (.inl (.inr q))
theorem y2{M:Model}{f:Value}{l:List (Bool×Sem Value)}{Q:Args->Shared->Prop}(ao:l=[]\/∃x r,l=(false,x)::r)(h:wpAny M A (spliced l) (λvs s'=>Q ⟨vs,[]⟩ s') E s):wpAny M A (evalArgs f true l []) Q E s:=by
 rcases ao with rfl |⟨x,r,rfl⟩
 ·exact hu (λx ag=>absurd ag b8) h
 ·exact Calls.evalArgs_plain h
theorem C7{K:Around->Prop}(bx:∀A,K A->bK n A){o:Expr}{name:Str}{x dx f:Addr}{kv:List (Str×ak)}{of:Obj}(aj:aV prog w n env m (ay cs) o (.val (.ref x)))(ag:(x,fZ C dx)∈cs)(hd:(dx,c8 kv)∈cs)
  (dj:plainGet (KF w) C name=true) (hf:findIn (KF w) (.ref C) name=some (some (.ref f))) (jj:isFn (KF w) (.ref f)=true) (fT:kv.lookup name=none) (oX:(KF w).lookup f=some of) (oU:of.data= .func fd)
  (af:dd prog w n env m (ay cs) pos es ps) (Pd:∀(s₀:Shared) (W₀ aJ:Addr->Prop) (ad:Str->Addr) (A:Around) (s:Shared) (vs:List Value) (Q:Value->Shared->Prop) (E:Value->Shared->Prop),K A->bP w s₀ env W₀ aJ ad m (ay cs) s->bJ w s.heap (bU W₀ env m ad λa=>aJ a\/(ay cs).J a) (.val (.ref x)::ps) vs->
   (∀p r' v s',bP w s₀ env W₀ aJ ad m r' s'->bC (cD env m ad (ay cs)) (cD env m ad r') s s'->a6 w s'.heap (bU W₀ env m ad λa=>aJ a\/r'.J a) p v->cb p->Ψ p r'->Q v s')->codeAny (model prog w) A (.call (.ref f) ⟨vs,[]⟩) (o8 Q E) s) (cv:backTo pos (starEach es env)=[]\/∃x r,backTo pos (starEach es env)=(false,x)::r)
  (fu:eval (.Call (.Attribute o name apos) es [] pos) env=(do
   let ho<-eval o env
   standAt apos.atName
   let(f,first)<-holding [ho] (getMethod ho name e1)
   callWith pos f first (backTo pos (starEach es env)) (backToKw pos (keywordEach [] env)))):jJ prog w K env m (ay cs) (.Call (.Attribute o name apos) es [] pos) Ψ:=λs₀ W₀ aJ ad A s Q E ai F a4=>by
 refine methodCall_KW (aj _ A s _ E (bx A ai) F.F.st F.dq F.p λv au aq az aF=>?_) fu;rw[show v= .ref x from aq];have aX:=F.ext az aF;refine fh λfz cE=>?_;refine ah (aX.p.2 _ ag) λjZ hS a7=>?_;refine aP a7 λbQ aU=>?_;subst aU;refine ah (aX.p.2 _ hd) λik dw bz=>?_;refine dP bz λvB k bk mX=>?_;subst bk;refine cE ?_;have bh:InstAt au.heap x ⟨.ref C,some dx,.plain,bQ⟩ C (some (dictOf vB k)):=⟨hS,rfl,rfl,dw⟩
 have ao:=mX.get name;rw[fT] at ao;refine method_fn aF.K bh (plainGet_of dj).1 (plainGet_of dj).2 hf (gz.mp jj) (by show(lookIn name (dictOf vB k)).map _=_;rw[lookIn_dict,show getL name vB=some none from ao];rfl) ?_;refine Calls.callWith_function (o:=of) (fd:=fd) (y2 cv (af _ A au _ E (bx A ai) aX.F.st aX.dq aX.p λvs aL bb aR aY=>?_));have bp:=aX.ext aR aY;refine⟨⟨aY.K _ _ oX,oU⟩,?_⟩;refine wpAny_call (Pd s₀ W₀ aJ ad A aL _ _ E ai bp ⟨.ref x,vs,rfl,rfl,bb⟩ λp r' v s' aS k' aq e0 cU=>?_);exact a4 p r' v s' aS (((bC.ext az).trans (.ext aR)).trans k') aq e0 cU
theorem wA{o:Expr}{name:Str}{x dx f:Addr}{kv:List (Str×ak)}{of:Obj}(aj:aV prog w n env m (ay cs) o (.val (.ref x)))(ag:(x,fZ C dx)∈cs)(hd:(dx,c8 kv)∈cs)
  (dj:plainGet (KF w) C name=true) (hf:findIn (KF w) (.ref C) name=some (some (.ref f))) (jj:isFn (KF w) (.ref f)=true) (fT:kv.lookup name=none) (oX:(KF w).lookup f=some of) (oU:of.data= .func fd)
  (af:dd prog w n env m (ay cs) pos es ps) (jl:dB ps) (hm:eX prog w n f (.val (.ref x)::ps) (ay cs) Ψ) (cv:backTo pos (starEach es env)=[]\/∃x r,backTo pos (starEach es env)=(false,x)::r)
  (fu:eval (.Call (.Attribute o name apos) es [] pos) env=(do
   let ho<-eval o env
   standAt apos.atName
   let(f,first)<-holding [ho] (getMethod ho name e1)
   callWith pos f first (backTo pos (starEach es env)) (backToKw pos (keywordEach [] env)))):fi prog w n env m (ay cs) (.Call (.Attribute o name apos) es [] pos) Ψ:=C7 (λ_ h=>h) aj ag hd dj hf jj fT oX oU af (λs₀ W₀ aJ ad A s vs Q E ai F bb a4=>F.callC hm ai bb ⟨trivial,jl⟩ a4) cv fu
theorem bK.make(r:bK (n+1) A):bK n (A.under (.builtin "type.__call__" ⟨.ref C::vs,[]⟩)):=by
 refine⟨?_,?_,r.calm⟩
 ·have:=r.depth;show A.depth+1+n<=700;walk_at"o"
 ·have:=r.units;have e:(Code.builtin "type.__call__" ⟨.ref C::vs,[]⟩).cUnits=1:=rfl;show A.units+(Code.builtin "type.__call__" ⟨.ref C::vs,[]⟩).cUnits+10*n<=9000;rw[e];walk_at"o"
theorem fi.make{fI:Addr}{px:Addr->Obj->Prop}(iZ:Ev prog w (n+1) env m eL (.val (.ref C)))(ar:keepIn (KF w) (.ref C)=true)(hm:makesIn (KF w) C=true)(hi:findIn (KF w) (.ref C) "__init__"=some (some (.ref fI)))(hf:typeIn (KF w) (.ref fI)=some (.type "function"))
  (af:dd prog w (n+1) env m (ay cs) pos es ps) (jl:dB ps) (SY:∀dx,px dx (instObj C dx)) (O3:∀x dx,eX prog w n fI (.val (.ref x)::ps) (ay (cs++[(dx,c8 [])]++[(x,px dx)])) (λp r'=>p= .none/\Ψ (.val (.ref x)) r')) (cv:(starEach es env).any (·.1)=false)
  (fu:eval (.Call eL es [] pos) env=(do callWith pos (<-eval eL env) [] (backTo pos (starEach es env)) (backToKw pos (keywordEach [] env)))):fi prog w (n+1) env m (ay cs) (.Call eL es [] pos) Ψ:=λs₀ W₀ aJ ad A s Q E ai F a4=>by
 rw[fu];refine aH (iZ _ A s _ E ai F.F.st λv au aq az aF=>?_);rw[show v= .ref C from aq];have aX:=F.ext az aF;have I:=jz (pos:=pos) cv;refine PySem.W.callWith_of (P:=λh=>(KF w).In h) (by rw[kA I];rfl) (keeps_K ar) (hu I (af _ A au _ E ai aX.F.st aX.dq aX.p λvs aL bb aR aY=>⟨aY.K,?_⟩));have bp:=aX.ext aR aY;obtain⟨cX,sk,t2,tt,os⟩:=aL;refine wpAny_call (make_core (makes_of aY.K hm) (looks_findIn aY.K hi) (λself=>bind_fn aY.K self hf) (.inl rfl) ?_);have nd:cX.get? cX.objs.size=none:=eA _;obtain⟨dv,gh⟩:=bp.nF (s':=⟨cX.push emptyDict,sk,t2,tt,os⟩) (p:=c8 []) (.push _ _) (aY.push _) nd (dc _ rfl) (.inr λ_ q=>by injection q) ⟨[],0,rfl,.nil⟩;have bW:(cX.push emptyDict).objs.size=cX.objs.size+1:=size_push ..;have n1:(cX.push emptyDict).get? (cX.objs.size+1)=none:=by rw[<-bW];exact eA _
 have Vz:((cX.push emptyDict).push (instObj C cX.objs.size)).get? (cX.objs.size+1)=some (instObj C cX.objs.size):=by rw[<-bW];exact dc _ rfl
 refine aE (dv.nF (s':=⟨(cX.push emptyDict).push (instObj C cX.objs.size),sk,t2,tt,os⟩) (p:=px cX.objs.size) (.push _ _) (dv.F.st.g.push _) n1 Vz (.inr λ_ q=>by injection q) (SY _)) λgi mB=>?_;have ee:Ext (⟨cX,sk,t2,tt,os⟩:Shared) ⟨(cX.push emptyDict).push (instObj C cX.objs.size),sk,t2,tt,os⟩:=(Ext.push (⟨cX,sk,t2,tt,os⟩:Shared) _).trans (.push _ _);refine codeAny_mono (gi.callC (n:=n) (A:=A.under (.builtin "type.__call__" ⟨.ref C::vs,[]⟩)) (E:=E) (args:= .val (.ref (cX.objs.size+1))::ps) (vs:= .ref (cX.objs.size+1)::vs) (O3 (cX.objs.size+1) cX.objs.size) ai.make ⟨_,_,rfl,rfl,?_⟩ ⟨trivial,jl⟩ (Q:=λv s'=>v= .none/\Q (.ref (cX.objs.size+1)) s') λp r' v s' aS k' aq e0 cU=>?_) ?_
 ·refine bb.upd (λb o I U ct=>⟨ee.keep _ _ (aY.gf ct U) ct,λq=>?_⟩) jl;rcases q.split with q |(q |q) |q
  ·exact I (.nV q)
  ·exact I (.dy (.inl q))
  ·have q:b∈(cs++[(cX.objs.size,c8 [])]++[(cX.objs.size+1,px cX.objs.size)]).map (λz=>z.1):=q;rw[dY,dY,dk,dk] at q;replace q:=q;have ct:cX.get? b=some o:=ct;rcases q with(q |q) |q
   ·exact I (.dy (.inr q))
   ·rw[cQ.mp q] at ct;rw[show cX.get? _=_ from nd] at ct;injection ct
   ·rw[cQ.mp q] at ct;exact absurd (lt_size ct) (Nat.not_lt.mpr (Nat.le_succ _))
  ·exact I q.ky
 ·obtain⟨b7,cU⟩:=cU;subst b7;refine⟨aq,a4 (.val (.ref (cX.objs.size+1))) r' _ s' aS ?_ rfl trivial cU⟩;exact(((((bC.ext az).trans (.ext aR)).trans gh).trans mB).trans k')
 ·intro z s' hz;induction z with
  |error e=>exact hz
  |ok f=>
   induction f with
   |ret v=>exact hz
   |_=>exact hz.elim
theorem Dl{o e:Expr}{x dx:Addr}{kv:List (Str×ak)}{name:Str}{i j:Int}(aj:aV prog w n env m (ay cs) o (.val (.ref x)))(he:aV prog w n env m (ay cs) e (.int j))(ag:(x,fZ C dx)∈cs)(hd:(dx,c8 kv)∈cs)(hz:kv.length<=100)
  (iU:hasDictIn (KF w) C=true) (dj:plainGet (KF w) C name=true) (hf:findIn (KF w) (.ref C) name=some none) (ao:kv.lookup name=some (.int i)) (hs:findIn (KF w) (.ref C) "__setattr__"=some (some (.builtin "object.__setattr__"))) (aa:plainOver (KF w) C=true) (aM:takerIn (KF w) C name=some none)
  (h:Φ .next m (ay (setC cs dx (c8 (iB name (.int (i+j)) kv))))):ek prog w n env m (ay cs) (.AugAssign (.Attribute o name ma) .Add e pos) Φ:=λs₀ W₀ aJ ad A s E ai F=>by
 refine wpAny_AugAssign_AttributeAny (aj _ A s _ E ai F.F.st F.dq F.p λv au aq az aF=>?_);rw[show v= .ref x from aq];have aX:=F.ext az aF;refine ah (aX.p.2 _ ag) λjZ hS c1=>?_;refine aP c1 λbQ cC=>?_;subst cC;refine ah (aX.p.2 _ hd) λik dw eS=>?_;refine dP eS λvB k c2 mX=>?_;subst c2;refine D4 aF.K hS dw mX iU dj hf ao (λi q=>by injection q) λv aq=>?_;refine aP aq λt eQ=>?_;subst eQ;have bp:bP w s₀ env W₀ aJ ad m (ay cs) {au with toks:=au.toks+1}:=aX.ext (.tok _ _) aF;refine he _ A _ _ E ai bp.F.st bp.dq bp.p λu ef bE ee e4=>?_;refine aP bE λe2 ft=>?_;subst ft;have dv:=bp.ext ee e4;refine PySem.AutoIntOps.iadd_0 ?_;have gi:bP w s₀ env W₀ aJ ad m (ay cs) {ef with toks:=ef.toks+1}:=dv.ext (.tok _ _) e4;show wpAny _ _ (setAttr (.ref x) name (.int (i+j) ef.toks)) _ _ {ef with toks:=ef.toks+1};refine ah (gi.p.2 _ ag) λjZ hS gg=>?_;refine aP gg λyf fS=>?_;subst fS;refine ah (gi.p.2 _ hd) λik dw iA=>?_;refine dP iA λV3 k' iz Sb=>?_;subst iz;refine zp e4.K hS dw Sb hz hs aa aM iU (p:= .int (i+j)) ⟨_,rfl⟩ λh' jT il bL hW jR=>?_;refine aE (gi.setC (tk:=ef.toks+1+2) (p':=c8 (iB name (.int (i+j)) kv)) hd bL hW zb ⟨jT,il,rfl,jR⟩) λiX p1=>?_;exact⟨ad,m,_,iX,((((bC.ext az).trans (.ext (.tok _ _))).trans (.ext ee)).trans (.ext (.tok _ _))).trans p1,h⟩
theorem Dn{o e:Expr}{x dx mem:Addr}{f:Nat->Option ak}{ix:Nat}{name:Str}{q:Obj->Prop}{i j z:Int}{op:Operator}(aj:aV prog w n env m (ay cs) o (.val (.ref x)))(he:aV prog w n env m (ay cs) e (.int j))(ag:(x,hv C dx f)∈cs)(hd:(dx,q)∈cs)
  (Ud:∀(A:Around) (s:Shared) (t e2:Tok) (Q:Value->Shared->Prop) (E:Value->Shared->Prop),Q (.int z s.toks) {s with toks:=s.toks+1}->wpAny (model prog w) A (inplaceOp op (.int i t) (.int j e2)) Q E s)
  (U:(clsIn (KF w) C).isSome=true) (dj:plainGet (KF w) C name=true) (hf:findIn (KF w) (.ref C) name=some (some (.ref mem))) (iW:specialIn (KF w) (.ref mem) "__get__"=some (some (.builtin "member_descriptor.__get__"))) (vD:takesIn (KF w) (.ref mem)=some true) (de:slotIn (KF w) mem C=some ix) (Tc:ix < 10)
  (nR:f ix=some (.int i)) (hs:findIn (KF w) (.ref C) "__setattr__"=some (some (.builtin "object.__setattr__"))) (aa:plainOver (KF w) C=true) (aM:takerIn (KF w) C name=some (some (.ref mem))) (bD:typeIn (KF w) (.ref mem)=some (.type "member_descriptor"))
  (h:Φ .next m (ay (setC cs x (hv C dx (kf f ix (.int z)))))):ek prog w n env m (ay cs) (.AugAssign (.Attribute o name ma) op e pos) Φ:=λs₀ W₀ aJ ad A s E ai F=>by
 refine wpAny_AugAssign_AttributeAny (aj _ A s _ E ai F.F.st F.dq F.p λv au aq az aF=>?_);rw[show v= .ref x from aq];have aX:=F.ext az aF;refine ah (aX.p.2 _ ag) λjZ hS rX=>?_;refine ah (aX.p.2 _ hd) λik dw _=>?_;refine get_slot aF.K hS rX dw U dj hf iW vD de nR (λi q=>by injection q) λv aq=>?_;refine aP aq λt ll=>?_;subst ll;have bp:bP w s₀ env W₀ aJ ad m (ay cs) {au with toks:=au.toks+1}:=aX.ext (.tok _ _) aF;refine he _ A _ _ E ai bp.F.st bp.dq bp.p λu ef bE ee e4=>?_;refine aP bE λe2 oB=>?_;subst oB;have dv:=bp.ext ee e4;refine Ud A ef t e2 _ _ ?_;have gi:bP w s₀ env W₀ aJ ad m (ay cs) {ef with toks:=ef.toks+1}:=dv.ext (.tok _ _) e4;refine ah (gi.p.2 _ ag) λvE QQ rv=>?_;refine ah (gi.p.2 _ hd) λWh Rj _=>?_;refine set_slot (s:={ef with toks:=ef.toks+1}) e4.K QQ rv Rj hs aa aM bD de Tc (p:= .int z) ⟨_,rfl⟩ λh' VV bL r5 FU=>?_;refine ah (id FU) λyf oE _=>?_;subst oE;refine aE (gi.setC (tk:=ef.toks+1+1) (p':=hv C dx (kf f ix (.int z))) ag bL r5 y1 FU) λiX p1=>?_;exact⟨ad,m,_,iX,((((bC.ext az).trans (.ext (.tok _ _))).trans (.ext ee)).trans (.ext (.tok _ _))).trans p1,h⟩
end
section
variable {prog:Program} {w:World} {n:Nat} {env:Env} {m:Loc} {cs:dW} {r:Rs} {Φ:dp->Loc->Rs->Prop}
theorem Dv{ks:List Str}{l:List ak}{x:Str}:Cl prog w n (.builtin "dict.get") [.eP ks l,.str x] ((dictAt ks l x).getD .none):=λW A s _ Q E r g low fy h=>by
 refine bj fy λ_ _ ax aU bz=>?_;refine bj bz λ_ _ aD bk bW=>?_;refine iS aU λa es k e aW aj a7 hs=>?_;refine cB a7 λar aA jg=>?_;refine aP bk λt aO=>?_;subst ax e aD aO;rw[show _=[] from bW];refine ah (wN (prog:=prog) (x:=x) aj ar aA hs) λf ab ae=>?_;refine wpAny_call (codeAny_call_builtin F.slot_dict_get.plain F.entry_dict_get (F.slot_dict_get.check _ _ _ _ _ _ _ _ ⟨_,aj,rfl⟩ (F.args_dict_get_2 _ _) (meets_dict_get (strKind prog w) a isKey jg A (wants Q E) s ⟨f,ab,?_⟩)));induction hd:dictAt ks l x with
 |some p=>
  rw[hd] at ae h;refine ah ae λu aC bc=>?_;rw[aC];exact h _ _ bc (.tok s _) g
 |none=>
  rw[hd] at ae h;rw[show f x=none from ae];exact h _ _ rfl (.tok s _) g
theorem D6{l:List ak}(hz:l.length<=sizeLine):Cl prog w n (.builtin "len") [.tup l] (.int l.length):=λW A s _ Q E r g low hX h=>by
 refine bj hX λ_ _ ax b7 a8=>?_;refine cg b7 λa vs k e aW aj hs=>?_;subst ax e;rw[show _=[] from a8];refine PyProof.Rows.len_tuple (items:=⟨vs⟩) ⟨_,aj,rfl,k,rfl⟩ (fits63 hs.len hz) (h _ _ ⟨s.toks+1,?_⟩ (.tok s _) g);show Value.int ((vs.length:Nat):Int) _=_;rw[hs.len]
theorem Kn:cA prog w (compareOp .Is) .none .none (.bool true):=λW A s _ _ Q E r g _ e aO h=>by
 rw[show _=Value.none from e,show _=Value.none from aO];exact wpAny_is_plain rfl (h _ _ rfl (.refl s) g)
theorem uf{b:Addr}:cA prog w (compareOp .Is) (.val (.ref b)) .none (.bool false):=λW A s _ _ Q E r g _ e aO h=>by
 rw[show _=Value.ref b from e,show _=Value.none from aO];exact wpAny_is_other rfl (by intro q;injection q) (h _ _ rfl (.refl s) g)
theorem wx:cA prog w (compareOp .IsNot) .none .none (.bool false):=λW A s _ _ Q E r g _ e aO h=>by
 rw[show _=Value.none from e,show _=Value.none from aO];exact wpAny_isNot_plain rfl (h _ _ rfl (.refl s) g)
theorem JV{l:List ak}(hz:l.length<=sizeLine):i0 prog w "list.clear" (.bw l) [] (.bw []):=λW A s a vs Q E r g p6 dQ ki aD h=>by
 refine cg ki λn3 us k e aW aj hs=>?_
 (injection e with bB;subst bB)
 rw[show vs=[] from aD];refine call_meets PySem.F.slot_list_clear ⟨_,aj,rfl⟩ PySem.F.entry_list_clear (PySem.F.args_list_clear_1 _) (AutoSeq1.list_clear_list_0 a ⟨us⟩ k (by show us.length<=_;rw[<-hs.len];exact hz)) ⟨aj,?_⟩;obtain⟨cI,qp⟩:∃cI,(s.heap.update a (Obj.mapSeq λ_=>(#[]:Array Value))).get? a=some {cls:= .type "list",data:= .seq ⟨[]⟩ cI}:=⟨_,get?_update_seq aj λ_=>(#[]:Array Value)⟩
 exact h _ _ _ (.update ..) ⟨a,[],cI,rfl,aW,qp,rfl⟩
theorem OD:Meth "list" "clear" "list.clear":=⟨F.plainAttrs_list,F.slot_list_clear,F.type_list_clear⟩
theorem wy{o:Expr}{name:Str}{id:String}{a:Addr}{l l':List Str}(mt:Meth "list" name id)(aj:aV prog w n env m (ay cs) o (.val (.ref a)))(af:(a,cy l)∈cs)(PC:dd prog w n env m (ay cs) pos es ps)(jl:dB ps)(U:i0 prog w id (.bw (aB l)) ps (.bw (aB l')))
  (h:Φ .next m (ay (setC cs a (cy l')))) (cv:(starEach es env).any (·.1)=false)
  (ha:attributeBase o name env (eval o env)=eval o env)
  (jf:((backTo pos (starEach es env)).all (λx=> !x.1)&&(backToKw pos (keywordEach [] env)).all (λx=>x.1.isSome)&&decide (es.length+([]:List Keyword).length+(if([]:List Keyword).isEmpty then 0 else 1) < 30))=true)
  (gO:(apos.endLine==pos.line)=true) (hi:interactive env=false) (hs:swapsWith (.Call (.Attribute o name apos) es [] pos) none f5.line env=pure false):
  ek prog w n env m (ay cs) (.Expr (.Call (.Attribute o name apos) es [] pos) f5) Φ:=λs₀ W₀ aJ ad A s E ai F=>by
 refine wpAny_Expr_any ?_ hi hs;refine mv ha jf gO mt.hG mt.slot mt.ty (aj _ A s _ E ai F.F.st F.dq F.p λv au aq az aF=>?_);rw[show v= .ref a from aq];have aX:=F.ext az aF;refine ah (aX.p.2 _ af) λob gD c1=>?_;refine dP c1 λPL GL cC _=>?_;subst cC;refine⟨⟨_,gD,rfl⟩,λb q=>by(injection q with bB;subst bB);exact⟨_,gD,rfl⟩,?_⟩;have I:=jz (pos:=pos) cv;refine lb (kA I) (hu I (PC _ A au _ E ai aX.F.st aX.dq aX.p λvs aL bb aR aY=>?_));have bp:=aX.ext aR aY;refine U _ A aL a vs _ E (ai.le (c0 _)) aY d9 jl (uk af _ _ bp.dq bp.p _ rfl) bb λu h' tk bL kn=>?_;refine cg kn λn3 us k e _ cR ie=>?_
 (injection e with bB;subst bB)
 refine aE (bp.setC (tk:=tk) (p':=cy l') af bL cR nf ⟨us,k,rfl,je.of ie⟩) λdv gh=>?_;exact⟨ad,m,_,dv,((bC.ext az).trans (.ext aR)).trans gh,h⟩
theorem CW{x:Str}{e aD:Expr}{p:ak}{b:Bool}{np VG:Pos}{Ip kx:List Stmt}(he:aV prog w n env m r e p)(aa:cb p)(ar:env.kindOf x=some .local\/(env.kindOf x=some .cell/\(env.cells.lookup x).isSome=true))(bf:aV prog w n env ((x,p)::m) r aD q)(aj:cA prog w (compareOp op) p q (.bool b))(hm:behindInMarks op aD=false)
  (af:b=true->aZ prog w n env ((x,p)::m) r Ip Φ) (I:b=false->aZ prog w n env ((x,p)::m) r kx Φ):ek prog w n env m r (.If (.Compare (.NamedExpr (.Name x px) e np) [op] [aD] VG) Ip kx pos) Φ:=λs₀ W₀ aJ ad A s E ai F=>by
 refine wpAny_If (wpAny_isTrue_Compare1 (wpAny_NamedExpr (he _ A s _ E ai F.F.st F.dq F.p λv au aq az aF=>?_)) hm);have aX:=F.ext az aF;have vk:=aa;refine wpAny_assign_Name (aX.F.put aq aa ar λaL bp k₂=>?_);refine aE (aX.turn bp k₂) λpS PF=>?_;have z3:a6 w aL.heap (bU W₀ env ((x,p)::m) ad λa=>aJ a\/r.J a) p v:=a6.FZ aq aX.F.st.g k₂ aa;refine bf _ A aL _ E ai pS.F.st pS.dq pS.p λu ef bE ee e4=>?_;have dv:=pS.ext ee e4;refine aj _ A ef v u _ E (ai.le (c0 _)) e4 dv.F.st.low (z3.ext pS.F.st.g ee) bE λz c9 hz jI nC=>?_;rw[show z= .bool b from hz];have gi:=dv.ext jI nC;have dT:=(((bC.ext az).trans PF).trans (.ext ee)).trans (.ext jI);refine mu ?_;induction b with
 |true=>exact dV (af rfl s₀ W₀ aJ ad A c9 E ai gi) (λf s' o=>o.pre dT) λ_ _ e=>e
 |false=>exact dV (I rfl s₀ W₀ aJ ad A c9 E ai gi) (λf s' o=>o.pre dT) λ_ _ e=>e
theorem zw:∀l:List (Str×Addr),(l.map (·.1)).zip (l.map λz=>Value.ref z.2)=l.map λz=>(z.1,Value.ref z.2):=by
 intro ba;induction ba with
 |nil=>
  exact rfl
 |cons z r aw=>
  rw[eE,eE,zip_cons_cons,aw];rfl
theorem Lb{d b:Addr}{l:List (Str×Addr)}{y:Str}{t:Tok}{o:Obj}{Q:Unit->Shared->Prop}(av:y∉l.map (·.1))(aj:s.heap.get? d=some o)(aa:eO w l o)(hz:l.length<=1000)
  (h:∀h' bZ,SameBut d s.heap h'->h'.get? d=some bZ->cx bZ->eO w (l++[(y,b)]) bZ->Q () {s with heap:=h',toks:=s.toks+1}):wpAny (model prog w) A (setItem (.ref d) (.str y t) (.ref b)) Q E s:=by
 refine iC aa λes k c2 ab ae aC=>?_;subst c2;have de:sizeLine=2 ^ 24:=rfl;have hlen:((l.map (·.1)).zip (es.map (·.val))).length<=sizeLine:=by
  rw[length_zip];refine ei (Nat.min_le_left _ _) ?_;rw[bO];exact bH ‹_› rfl
 refine wpAny_setItem_pairs (knd:=strKind prog w) (k:=y) isKey (q6 aj ab ae).dictOf (λh' hW bL=>?_) hlen;refine iC (uB hW) λjT k' dz bN hI qx=>?_;have ax:(l.map (·.1)).zip (es.map (·.val))=l.map λz=>(z.1,Value.ref z.2):=by
  rw[aC];exact zw l
 have aD:stored ((l.map (·.1)).zip (es.map (·.val))) y (.ref b)=(l++[(y,b)]).map λz=>(z.1,Value.ref z.2):=by
  rw[ax];unfold stored;rw[aI,dY];rfl;intro q;refine ah (g8.mp q) λz hz oP=>?_;refine ah (bA.mp hz) λu5 Aa eS=>?_;subst eS;exact av (bA.mpr ⟨u5,Aa,by exact eq_of_beq oP⟩)
 rw[aD] at bN hI qx;replace bN:=bN;replace hI:=hI;replace qx:=qx;have a8:((l++[(y,b)]).map λz=>(z.1,Value.ref z.2)).map (·.1)=(l++[(y,b)]).map (·.1):=by rw[dX];rfl
 have bW:((l++[(y,b)]).map λz=>(z.1,Value.ref z.2)).map (·.2)=(l++[(y,b)]).map λz=> .ref z.2:=by rw[dX];rfl
 rw[a8] at bN hI;rw[bW] at qx;exact h h' _ bL dz y4 ⟨jT,k',rfl,bN,hI,qx⟩
theorem Jk{o e:Expr}{x:Str}(he:fi prog w n env m r e Ψ)(ar:env.kindOf x=some .local\/(env.kindOf x=some .cell/\(env.cells.lookup x).isSome=true))
  (h:∀p r',Ψ p r'->∃cs d l b y,b0 r' (ay cs)/\p= .val (.ref b)/\aV prog w n env m (ay cs) o (.val (.ref d))/\aV prog w n env m (ay cs) m1 (.str y)/\(d,eO w l)∈cs/\y∉l.map (·.1)/\l.length<=1000/\Φ .next ((x,.val (.ref b))::m) (ay (setC cs d (eO w (l++[(y,b)])))))
  (S0:(assignEach [.Subscript o m1 f5,.Name x px] env).map (·.2)=[PySem.assign (.Subscript o m1 f5) env,PySem.assign (.Name x px) env]) (hw:swappedStores [.Subscript o m1 f5,.Name x px] e env=pure none):
  ek prog w n env m r (.Assign [.Subscript o m1 f5,.Name x px] e pos) Φ:=λs₀ W₀ aJ ad A s E ai F=>by
 refine wpAny_Assign_two (he s₀ W₀ aJ ad A s _ E ai F λp r' v au aX k₁ aq e0 cU=>?_) S0 hw;refine R6 (h p r' cU) λcs d l b y hle eQ aj r1 hd av hz hT=>?_;subst eQ;rw[hle.vW] at k₁;replace aX:=aX.le hle;rw[show v= .ref b from aq];rw[arm_assign_Subscript];refine aH (fY (aj _ A au _ E ai aX.F.st aX.dq aX.p λho aL mS aR aY=>?_));rw[show ho= .ref d from mS];have bp:=aX.ext aR aY;refine aH (fY (r1 _ A aL _ E ai bp.F.st bp.dq bp.p λkv ef fT ee e4=>?_));refine aP fT λt ft=>?_;subst ft;have dv:=bp.ext ee e4;refine ah (dv.p.2 _ hd) λik dw Uh=>?_;refine aH (wpAny_standAt (aH (fY (Lb av dw Uh hz λh' bZ bL cR cZ f6=>?_))));refine aE (dv.setC (tk:=ef.toks+1) (p':=eO w (l++[(y,b)])) hd bL cR cZ f6) λgi mB=>?_;refine wpAny_release ?_;refine wpAny_assign_Name (gi.F.put (p:= .val (.ref b)) rfl trivial ar λgP iX p1=>?_);refine aE (gi.turn iX p1) λO6 Pg=>?_;exact⟨ad,_,_,O6,(((k₁.trans (.ext aR)).trans (.ext ee)).trans mB).trans Pg,hT⟩
end
theorem b0.ex{r:Rs}(x:b0 r r')(h:aZ prog w n env m r' ss Φ):aZ prog w n env m r ss Φ:=h.weak x.1 x.2
theorem DB(aA:(br cs).Nodup){a:Addr}{p q:Obj->Prop}(ab:(a,p)∈cs)(ae:(a,q)∈cs):p=q:=by
 obtain⟨i,hi,ax⟩:=getElem_of_mem ab;obtain⟨j,aN,aD⟩:=getElem_of_mem ae;have e:(br cs)[i]'(by simpa using hi)=(br cs)[j]'(by simpa using aN):=by
  simp only[br,getElem_map,ax,aD]
 have:=(getElem_inj aA).mp e;subst this;rw[ax] at aD;exact(Prod.mk.inj aD).2
theorem kb{a:Addr}{p:Obj->Prop}(u1:br cs'=br cs)(gF:(a,p)∈cs')(hm:∀c∈cs',c=(a,p)\/c∈cs):b0 (ay (setC cs a p)) (ay cs'):=by
 refine⟨λz=>?_,λh aa=>?_⟩
 ·show z∈br (setC cs a p)↔z∈br cs';rw[qR,u1]
 ·refine aE aa λab ae=>?_;rw[qR, <-u1] at ab;replace ab:=ab;refine⟨ab,λc U=>?_⟩;have af:(a,p)∈setC cs a p:=by
   have:a∈br cs:=by rw[<-u1];exact oc gF
   refine ah (bA.mp this) λz hz aU=>?_;subst aU;exact bA.mpr ⟨z,hz,by rw[aQ rfl]⟩
  rcases hm c U with rfl |fx
  ·exact ae _ af
  ·by_cases q:c.1=a
   ·have:c.2=p:=DB ab (a:=a) (by rw[<-q];exact U) gF;exact ae c (by rw[show c=(a,p) from Prod.ext q this];exact af)
   ·exact ae c (bA.mpr ⟨c,fx,by rw[aI q]⟩)
theorem uG(aa:cs.Perm cs'):b0 (ay cs) (ay cs'):=by
 have tM:(br cs).Perm (br cs'):=aa.map _;exact⟨λz=>tM.mem_iff,λh RP=>aE RP λab ae=>⟨tM.nodup_iff.mp ab,λc U=>ae c (aa.mem_iff.mpr U)⟩⟩
structure du where
 x:Str
 b:Addr
 hc:Addr
 c:Addr
 np:Int
 cO:List Str
 pin:Option Obj
structure bl where
 a:Addr
 dx:Addr
 d:Addr
 bq:List du
 cT:Option (Addr×List Str)
 po:Int
 da:Int
noncomputable def mA(y:Str)(k:Int)(c:Addr):Nat->Option ak:=λi=>if i=0 then some (.str y) else if i=1 then some (.int k) else if i=2 then some (.val (.ref c)) else none
def kN:Option Obj->List Str->Obj->Prop
 |none,l=>cy l
 |some o,l=>λbZ=>bZ=o/\cy l bZ
noncomputable def e3(nd:du):dW:=[(nd.hc,c8 []),(nd.b,hv 97 nd.hc (mA nd.x nd.np nd.c)),(nd.c,kN nd.pin nd.cO)]
noncomputable def QE:Option (Addr×List Str)->ak
 |some (a,_)=> .val (.ref a)
 |none=> .none
noncomputable def oa:Option (Addr×List Str)->dW
 |some (a,l)=>[(a,cy l)]
 |none=>[]
noncomputable def Oq(d:Addr)(r:ak)(po da:Int):List (Str×ak):=[("_node2info",.val (.ref d)),("_ready_nodes",r),("_npassedout",.int po),("_nfinished",.int da)]
noncomputable def bl.attrs(S:bl):List (Str×ak):=Oq S.d (QE S.cT) S.po S.da
noncomputable def bl.pairs(S:bl):List (Str×Addr):=S.bq.map λnd=>(nd.x,nd.b)
noncomputable def bl.cells(w:World)(S:bl):dW:=[(S.a,fZ 194 S.dx),(S.dx,c8 S.attrs),(S.d,eO w S.pairs)]++oa S.cT++S.bq.flatMap e3
noncomputable abbrev bl.R(w:World)(S:bl):Rs:=ay (S.cells w)
def bl.iR(S:bl):Prop:=∀nd∈S.bq,nd.pin=none
structure bl.Good (S:bl):Prop where
 nd:(S.bq.map (·.x)).Nodup
 sys:(S.d==sysModules)=false
 qo:S.bq.length<=100
variable {S S':bl}
theorem bl.hq:(S.a,fZ 194 S.dx)∈S.cells w:=by unfold bl.cells;exact .head _
theorem bl.hn:(S.dx,c8 S.attrs)∈S.cells w:=by unfold bl.cells;exact .tail _ (.head _)
theorem bl.wc:(S.d,eO w S.pairs)∈S.cells w:=by unfold bl.cells;exact .tail _ (.tail _ (.head _))
theorem bl.yr{a:Addr}{l:List Str}(h:S.cT=some (a,l)):(a,cy l)∈S.cells w:=by unfold bl.cells;rw[h];simp[oa]
theorem bl.vV{nd:du}(h:nd∈S.bq){c:Addr×(Obj->Prop)}(U:c∈e3 nd):c∈S.cells w:=by
 unfold bl.cells;exact b9 _ (List.mem_flatMap.mpr ⟨nd,h,U⟩)
theorem bl.qJ{nd:du}(h:nd∈S.bq):(nd.b,hv 97 nd.hc (mA nd.x nd.np nd.c))∈S.cells w:=S.vV h (by simp[e3])
theorem bl.qF{nd:du}(h:nd∈S.bq):(nd.hc,c8 [])∈S.cells w:=S.vV h (by simp[e3])
theorem bl.It{nd:du}(h:nd∈S.bq)(aa:nd.pin=none):(nd.c,cy nd.cO)∈S.cells w:=S.vV h (by simp[e3,aa,kN])
theorem bl.find(g:S.Good){nd:du}(h:nd∈S.bq):S.pairs.lookup nd.x=some nd.b:=by
 have aA:(S.pairs.map (·.1)).Nodup:=by unfold bl.pairs;rw[dX];exact g.nd
 exact wq (y:=(nd.x,nd.b)) aA (bA.mpr ⟨nd,h,rfl⟩)
theorem bl.uniq(g:S.Good){nd eT:du}(h:nd∈S.bq)(h':eT∈S.bq)(e:nd.x=eT.x):nd=eT:=by
 obtain⟨i,hi,a7⟩:=getElem_of_mem h;subst a7;obtain⟨j,aN,bk⟩:=getElem_of_mem h';subst bk;have:=(getElem_inj (xs:=S.bq.map (·.x)) (h₀:=by simpa using hi) (h₁:=by simpa using aN) g.nd).mp (by simpa using e);subst this;rfl
theorem wz{l:List (Str×Addr)}{y:Str}:dictAt (l.map (·.1)) (l.map λz=> .val (.ref z.2)) y=(l.lookup y).map λb=> .val (.ref b):=by
 unfold dictAt;induction l with
 |nil=>rfl
 |cons z r aw=>
  rw[eE,eE,zip_cons_cons,di,di];induction y==z.1 with
  |true=>rfl
  |false=>exact aw
noncomputable def bl.hP(S:bl)(y:Str)(f:du->du):bl:={S with bq:=S.bq.map λnd=>if nd.x=y then f nd else nd}
theorem bl.qO(g:S.Good){y:Str}{f:du->du}(hf:∀nd,(f nd).x=nd.x):(S.hP y f).Good:=by
 refine⟨?_,g.sys,by show(List.map _ _).length<=_;rw[bO];exact g.qo⟩;have:((S.hP y f).bq.map (·.x))=S.bq.map (·.x):=by
  show(List.map _ S.bq).map _=_;rw[dX];refine g7 λnd _=>?_;show(if nd.x=y then f nd else nd).x=nd.x;split
  ·exact hf nd
  ·rfl
 rw[this];exact g.nd
theorem CS{y:Str}{f:du->du}(hf:∀nd,(f nd).x=nd.x)(I:∀nd,(f nd).b=nd.b):(S.hP y f).pairs=S.pairs:=by
 unfold bl.pairs bl.hP;rw[dX];refine g7 λnd _=>?_;show((if nd.x=y then f nd else nd).x,(if nd.x=y then f nd else nd).b)=_;split
 ·rw[hf,I]
 ·rfl
theorem wY(g:S.Good){nd:du}(h:nd∈S.bq){f:du->du}(hf:∀nd,(f nd).x=nd.x)(I:∀nd,(f nd).b=nd.b)(hd:∀nd,(f nd).hc=nd.hc)(U:∀nd,(f nd).c=nd.c){a:Addr}{p:Obj->Prop}(gF:(a,p)∈e3 (f nd))(hm:∀c∈e3 (f nd),c=(a,p)\/c∈e3 nd):
  b0 (ay (setC (S.cells w) a p)) ((S.hP nd.x f).R w):=by
 have iQ:∀eT∈S.bq,(if eT.x=nd.x then f eT else eT)=f nd\/(if eT.x=nd.x then f eT else eT)=eT:=λeT h'=>by
  by_cases q:eT.x=nd.x
  ·have:=S.uniq g h' h q;subst this;exact .inl (aQ rfl)
  ·exact .inr (aI q)
 refine kb ?_ ?_ λc fx=>?_
 ·unfold bl.cells;rw[CS hf I];show(([(S.a,fZ 194 S.dx),(S.dx,c8 S.attrs),(S.d,eO w S.pairs)]++oa S.cT++(S.bq.map λeT=>if eT.x=nd.x then f eT else eT).flatMap e3).map λz=>z.1)=([(S.a,fZ 194 S.dx),(S.dx,c8 S.attrs),(S.d,eO w S.pairs)]++oa S.cT++S.bq.flatMap e3).map λz=>z.1;rw[dY,dY (l₂:=S.bq.flatMap e3)];congr 1;rw[flatMap_map,map_flatMap,map_flatMap];congr 1;funext eT;split
  ·simp[e3,hd,I,U]
  ·rfl
 ·unfold bl.cells;refine b9 _ (List.mem_flatMap.mpr ⟨f nd,?_,gF⟩);exact bA.mpr ⟨nd,h,by rw[aQ rfl]⟩
 ·unfold bl.cells at fx ⊢;rw[CS hf I] at fx;rcases dk.mp fx with q |q
  ·exact .inr (b6 _ q)
  ·refine ah (List.mem_flatMap.mp q) λeT pZ q=>?_;refine ah (bA.mp pZ) λFW Fe bz=>?_;subst bz;rcases iQ FW Fe with z |z
   ·rw[z] at q;replace q:=q;rcases hm c q with q |q
    ·exact .inl q
    ·exact .inr (b9 _ (List.mem_flatMap.mpr ⟨nd,h,q⟩))
   ·rw[z] at q;exact .inr (b9 _ (List.mem_flatMap.mpr ⟨FW,Fe,q⟩))
theorem Eo(ab:S'.a=S.a)(ae:S'.dx=S.dx)(aC:S'.d=S.d)(bc:S'.bq=S.bq)(dA:S'.cT=S.cT):b0 (ay (setC (S.cells w) S.dx (c8 S'.attrs))) (S'.R w):=by
 obtain⟨a,dx,d,bq,cT,po,da⟩:=S';dsimp only at ab ae aC bc dA;subst ab ae aC bc dA;refine kb rfl (by unfold bl.cells;exact .tail _ (.head _)) λc U=>?_;unfold bl.cells at U ⊢;simp only[cons_append,nil_append,mem_cons] at U ⊢;replace U:=U;rcases U with U |U |U
 ·exact .inr (.inl U)
 ·exact .inl U
 ·exact .inr (.inr (.inr U))
theorem Ff{l l':List Str}(bf:S.cT=some (ez,l)):b0 (ay (setC (S.cells w) ez (cy l'))) (bl.R w {S with cT:=some (ez,l')}):=by
 obtain⟨a,dx,d,bq,cT,po,da⟩:=S;dsimp only at bf;subst bf;refine kb rfl (by unfold bl.cells;simp[oa]) λc U=>?_;unfold bl.cells at U ⊢;simp only[cons_append,nil_append,mem_cons,oa] at U ⊢;replace U:=U;rcases U with U |U |U |U |U
 ·exact .inr (.inl U)
 ·exact .inr (.inr (.inl U))
 ·exact .inr (.inr (.inr (.inl U)))
 ·exact .inl U
 ·exact .inr (.inr (.inr (.inr (.inr U))))
section
variable {prog:Program} {w:World} {n:Nat} {env:Env} {m:Loc} {cs:dW} {r:Rs} {Φ:dp->Loc->Rs->Prop}
theorem JK{l:List ak}(hz:l.length<=sizeLine):Cl prog w n (.type "tuple") [.bw l] (.tup l):=λW A s _ Q E ai g low fy h=>by
 refine bj fy λv _ ax aq a8=>?_;subst ax;rw[show _=[] from a8];refine cg aq λa vs k aU aW aj bb=>?_;subst aU;refine call_tuple_list (items:=⟨vs⟩) ⟨_,aj,rfl,k,rfl⟩ (λh' ar=>?_) (by show vs.length<=_;rw[<-bb.len];exact hz);have az:Ext s {s with heap:=h'}:=⟨⟨h',s.toks,rfl⟩,.of ar⟩
 have aF:=g.keeps ar;have aR:Ext {s with heap:=h'} {s with heap:=h'.push {cls:= .type "tuple",data:= .seq ⟨vs⟩}}:= .push ..;refine h _ _ ⟨h'.objs.size,vs,0,rfl,λq=>?_,dc _ rfl,(bb.ext g az).ext aF aR⟩ (az.trans aR) (aF.push _);refine aE (low _ q) λa7 _=>?_;refine ah a7 λo e _=>?_;have:=ar _ _ e;rw[eA] at this;injection this
theorem IP(l:Addr)(o:Obj)(items:Array Value)(k:Nat)(U:o.cls= .type "list")(hd:o.data= .seq items k)(QX:(items.size:Int) < 2 ^ 63):
  Meets (Builtin.«bool.__new__» ⟨[.type "bool",.ref l],[]⟩) (λ_ R s=>s.heap.get? l=some o/\R (.ok (.ret (.bool (!items.isEmpty)))) {s with toks:=s.toks+1+1}):=
 .of_wp λprog w A R s h=>by
  obtain⟨aa,g,d,tk,os⟩:=s;refine aE h λaM h=>?_;have f1:=PySem.F.conv_sub_bool;have ao:aa.IsList l items:=⟨o,aM,U,k,hd⟩
  repeat (any_goals (first |assumption |(with_reducible refine wpAny_truthy_list ao QX ?_) |wp_step))
  all_goals first |exact⟨_,rfl,h⟩ |exact h |skip
theorem Ku{l:List ak}(hz:l.length<=sizeLine):Cl prog w n (.type "bool") [.bw l] (.bool (!l.isEmpty)):=λW A s _ Q E ai g low hX h=>by
 refine bj hX λv _ ax aq a8=>?_;subst ax;rw[show _=[] from a8];refine cg aq λa vs k bk aW aj bb=>?_;subst bk;have:(!(⟨vs⟩:Array Value).isEmpty)= !l.isEmpty:=by
  have:=bb.len
  (induction l)<;>(induction vs)<;>simp_all
 refine call_bool_1 (IP a _ ⟨vs⟩ k rfl rfl (fits63 bb.len hz)) ⟨aj,?_⟩;rw[this];exact⟨rfl,h _ _ rfl (.tok s _) g⟩
theorem LR{a b:Expr}{x y:Bool}(af:aV prog w n env m r a (.bool x))(I:x=false->aV prog w n env m r b (.bool y)):aV prog w n env m r (.BoolOp .Or [a,b] pos) (.bool (x||y)):=λW A s Q E ai st a0 aa h=>by
 refine PyProof.Rows.BoolOp_or (af W A s _ E ai st a0 aa λv au aq az aF=>?_);rw[show v= .bool x from aq];refine mu ?_;induction x with
 |true=>exact h _ _ rfl az aF
 |false=>exact PyProof.Rows.BoolOp_one (I rfl W A au Q E ai (st.ext az aF) a0 (Rs.ext a0 st.low az aa) λv s' aq e g=>h v s' aq (az.trans e) g)
theorem ND{a:Addr}{k:Nat}(ai:bK 0 A)(g:G w s.heap)
  (aj:s.heap.get? a=some {cls:= .type "list",data:= .seq ⟨vs⟩ k}) (hs:bJ w s.heap W ps vs)
  (h:∀(bh:Addr) (fp wr:List Addr) (P:Nat->Value->Prop) (T:Nat->Heap->Prop) (aL:Shared),Ext s aL->G w aL.heap->Walks prog w A bh fp wr ps.length P T->T 0 aL.heap->(∀b∈wr,s.heap.get? b=none)->(∀b∈fp,(∃o,aL.heap.get? b=some o)/\¬cc b)->(∀i h,T i h->∀b∈wr,∃o,h.get? b=some o/\cx o)->(∀b∈fp,b∈wr\/b=a)->
   (∀i u,P i u->∃q,ps[i]? =some q/\a6 w s.heap W q u)->Q (.ref bh) aL):wpAny (model prog w) A (pyIter (.ref a)) Q E s:=by
 have ao:s.heap.IsList a ⟨vs⟩:=⟨_,aj,rfl,k,rfl⟩
 refine wpAny_pyIter_list ao ?_;have bY:a≠s.heap.objs.size:=Nat.ne_of_lt (lt_size aj);have aW:=Walks.list (prog:=prog) (w:=w) ai.calm s.heap.objs.size a bY ⟨vs⟩;have e:(⟨vs⟩:Array Value).size=ps.length:=hs.len.symm;rw[e] at aW;refine h _ _ _ _ _ _ (.push ..) (g.push _) aW ⟨⟨_,dc _ rfl,rfl,rfl⟩,ao.push _⟩ (λb I=>?_) (λb I=>?_) (λi h bD b I=>?_) (λb I=>?_) λi u bE=>?_
 ·simp at I;subst I;exact eA _
 ·simp at I;rcases I with rfl |rfl
  ·exact⟨⟨_,dc _ rfl⟩,g.fC (eA _)⟩
  ·exact⟨⟨_,dZ _ aj⟩,g.gf aj eN⟩
 ·simp at I;subst I;refine aE bD λbz _=>?_;refine dK bz λo ax aD _=>?_;exact⟨o,ax,.inl (by rw[aD];decide)⟩
 ·simp at I;rcases I with rfl |rfl
  ·exact .inl (by exact .head _)
  ·exact .inr rfl
 ·exact hs.at' (by simpa using bE)
def uZ(prog:Program)(w:World)(c:Addr)(o:Obj)(l:List Str):Prop:=∀(W:Addr->Prop) (A:Around) (s:Shared) (Q:Value->Shared->Prop) (E:Value->Shared->Prop),bK 0 A->G w s.heap->s.heap.get? c=some o->
  (∀(bh:Addr) (fp wr:List Addr) (P:Nat->Value->Prop) (T:Nat->Heap->Prop) (aL:Shared),Ext s aL->G w aL.heap->Walks prog w A bh fp wr (aB l).length P T->T 0 aL.heap->(∀b∈wr,s.heap.get? b=none)->(∀b∈fp,(∃o,aL.heap.get? b=some o)/\¬cc b)->(∀i h,T i h->∀b∈wr,∃o,h.get? b=some o/\cx o)->(∀b∈fp,b∈wr\/b=c)->
   (∀i u,P i u->∃q,(aB l)[i]? =some q/\a6 w s.heap W q u)->Q (.ref bh) aL)->wpAny (model prog w) A (pyIter (.ref c)) Q E s
theorem uZ.list{c:Addr}{o:Obj}{l:List Str}(aj:cy l o):uZ prog w c o l:=λW A s Q E ai g U h=>by
 refine dP aj λvs k b7 bb=>?_;subst b7;exact ND ai g U bb.vQ h
theorem uZ.dict{c:Addr}{o:Obj}{l:List (Str×Addr)}(jg:(c==sysModules)=false)(aj:eO w l o):uZ prog w c o (l.map (·.1)):=λW A s Q E ai g U h=>by
 refine iC aj λes k cC ab ae aC=>?_;subst cC;refine DY (vT:=True) (W:=λb=>b≠c) ai g U ab ae jg (λ_ q=>q rfl) λbh fp wr P T aL e aY aW bD a1 a2 dG fo lI=>h bh fp wr P T aL e aY aW bD a1 a2 dG (λb I=>(fo b I).imp id λq=>Decidable.not_not.mp (q.2 trivial)) λi u bE=>?_;refine ah (lI i u bE) λq aG aq=>?_;refine ah (hN (eW aG)) λy _ c1=>?_;subst c1;exact⟨_,aG,aq⟩
theorem C8{K:Around->Prop}(bx:∀A,K A->bK n A){x:Str}{iter:Expr}{c:Addr}{l:List Str}{p:Obj->Prop}(inv:Obj->Nat->Loc->Rs->Prop)(hit:aV prog w n env m (ay cs) iter (.val (.ref c)))(U:(c,p)∈cs)(aa:∀o,p o->uZ prog w c o l)
  (ar:env.kindOf x=some .local\/(env.kindOf x=some .cell/\(env.cells.lookup x).isSome=true)) (h0:∀o,p o->∃r',r'.J=(ay cs).J/\(∀h,(ay cs).P h->h.get? c=some o->r'.P h)/\inv o 0 m r')
  (AU:∀o j m' r' h,inv o j m' r'->r'.P h->h.get? c=some o)
  (turn:∀o j p m' r',(aB l)[j]? =some p->inv o j m' r'->bt prog w K env ((x,p)::m') r' body (ql (inv o (j+1)) Φ))
  (done:∀o m' r',inv o (aB l).length m' r'->bt prog w K env m' r' orelse Φ) (hs:∀v,foldedSetIterable iter env v=pure v):dC prog w K env m (ay cs) (.For (.Name x px) iter body orelse pos) Φ:=λs₀ W₀ aJ ad A s E ai F=>by
 refine wpAny_For (hit _ A s _ E (bx A ai) F.F.st F.dq F.p λjx au aq az aF=>?_) hs;rw[show jx= .ref c from aq];have aX:=F.ext az aF;refine ah (aX.p.2 _ U) λo aj mO=>?_;refine dK (h0 _ mO) λr' a0 BR hi=>?_;have Fs:bP w s₀ env W₀ aJ ad m r' au:=⟨a0▸aX.F,a0▸aX.fV,BR _ aX.p aj⟩
 refine aa o mO (bU W₀ env m ad λa=>aJ a\/r'.J a) A au _ E ((bx A ai).le (c0 _)) aF aj λbh fp wr P T aL aR aY aW bD fl dQ dD kM b5=>?_;have bp:=Fs.oF aR aY (wr:=wr) λa af=>⟨fl a af,dD 0 _ bD a af,(dQ a (aW.sub a af)).2⟩
 refine codeAny_mono (DK (E:=E) (m₁:=m) (jF:=ad) (r₁:=r') (inv _) ai aF (λa af=>aE (Fs.F.st.low a (.dy (.inl af))) λQy _=>ah Qy λo e _=>⟨o,e⟩) bp (.ext aR) aW bD fl (λb I=>(dQ b I).2) dD (λb I=>(kM b I).imp id λq=> .inr ⟨_,λj m' eY h hi aa=>q▸AU _ j m' eY h hi aa⟩) b5 (λp aa=>by refine ah (hN aa) λy _ c2=>?_;subst c2;exact trivial) ar hi (turn _) (done _)) λz s' o=>?_;induction z with
 |error e=>exact o
 |ok f=>
  have:cD env m ad r'=cD env m ad (ay cs):=by unfold cD;rw[a0]
  rw[this] at o;exact jL.pre (.ext az) o
theorem Jz{x:Str}{iter:Expr}{c:Addr}{l:List Str}(inv:Obj->Nat->Loc->Rs->Prop)(hit:aV prog w n env m (ay cs) iter (.val (.ref c)))(U:(c,cy l)∈cs)
  (ar:env.kindOf x=some .local\/(env.kindOf x=some .cell/\(env.cells.lookup x).isSome=true)) (h0:∀o,cy l o->∃r',r'.J=(ay cs).J/\(∀h,(ay cs).P h->h.get? c=some o->r'.P h)/\inv o 0 m r')
  (AU:∀o j m' r' h,inv o j m' r'->r'.P h->h.get? c=some o)
  (turn:∀o j p m' r',(aB l)[j]? =some p->inv o j m' r'->aZ prog w n env ((x,p)::m') r' body (ql (inv o (j+1)) Φ))
  (done:∀o m' r',inv o (aB l).length m' r'->aZ prog w n env m' r' orelse Φ) (hs:∀v,foldedSetIterable iter env v=pure v):ek prog w n env m (ay cs) (.For (.Name x px) iter body orelse pos) Φ:=
 C8 (λ_ h=>h) inv hit U (λ_ aj=> .list aj) ar h0 AU turn done hs
end
def jD(o bZ:Obj):Prop:=∃bQ,bZ={o with slots:=bQ}
def pJ(o:Obj):Prop:=∀vs,o.data≠ .fields vs
section
variable {prog:Program} {w:World} {n:Nat} {env:Env} {m:Loc} {cs:dW} {r:Rs} {Φ:dp->Loc->Rs->Prop}
theorem nB.le(x:b0 r' eY)(B:nB w s₀ W₀ r r' s s'):nB w s₀ W₀ r eY s s':=
 ⟨B.ext,B.g,x.2 _ B.p,λa af=>B.j a ((x.1 a).mpr af),λb o I aM e=>⟨(B.k b o I aM e).1,λq=>(B.k b o I aM e).2 ((x.1 b).mpr q)⟩⟩
theorem pG{L a:Addr}{p:Obj->Prop}:a∈br (cs++[(L,p)])↔a∈br cs\/a=L:=by
 unfold br;rw[dY,dk];exact or_congr Iff.rfl (by simp)
theorem bP.N5{ad:Str->Addr}(F:bP w s₀ env W₀ aJ ad m (ay cs) s):∃o,s.heap.get? env.locals=some o/\pJ o/\
  (∀a,((aJ a\/b4 env m ad a)/\a≠env.locals)\/(ay (cs++[(env.locals,jD o)])).J a->s₀.heap.get? a=none/\(∃o,s.heap.get? a=some o/\cx o)/\¬cc a)/\
  (∀a,((aJ a\/b4 env m ad a)/\a≠env.locals)->¬(ay (cs++[(env.locals,jD o)])).J a)/\(ay (cs++[(env.locals,jD o)])).P s.heap:=by
 refine vg F.F.ns λcH o es ep aj hd _=>?_;refine aE F.callee λhK h2=>?_;have wi:env.locals∉br cs:=λq=>(F.F.eg _ (.inr q)).2.1 rfl;refine⟨o,aj,λvs q=>(by rw[hd] at q;injection q),λa af=>?_,λa af q=>?_,?_,λc U=>?_⟩
 ·rcases af with af |af
  ·exact hK a (.inl af.1)
  ·rcases pG.mp af with af |rfl
   ·exact hK a (.inr af)
   ·exact hK _ (.inl (.inr (.inl rfl)))
 ·rcases pG.mp q with q |q
  ·exact h2 a af.1 q
  ·exact af.2 q
 ·unfold br;rw[dY,gL];refine⟨F.p.1,by simp,λa af b I q=>?_⟩;have:b=env.locals:=by exact cQ.mp I
  exact wi (this▸q▸af)
 ·rcases dk.mp U with U |U
  ·exact F.p.2 c U
  ·rw[cQ.mp U];exact⟨o,aj,o.slots,rfl⟩
theorem bP.PV{ad:Str->Addr}{o:Obj}(F:bP w s₀ env W₀ aJ ad m (ay cs) s)(aj:s.heap.get? env.locals=some o)(B:nB w s₀ W₀ (ay (cs++[(env.locals,jD o)])) (ay (cs'++[(env.locals,jD o)])) s s'):
  bP w s₀ env W₀ aJ ad m (ay cs') s'/\bC (cD env m ad (ay cs)) (cD env m ad (ay cs')) s s':=by
 have dT:∀b o,¬(ay cs).J b->b≠env.locals->¬cc b->s.heap.get? b=some o->s'.heap.get? b=some o/\¬(ay cs').J b:=λb o ab ae aC e=>by
  refine aE (B.k b o (λq=>(pG.mp q).elim ab ae) aC e) λku h5=>?_;exact⟨ku,λq=>h5 (pG.mpr (.inl q))⟩
 have p':(ay cs').P s'.heap:=by
  refine aE B.p λab ae=>?_;unfold br at ab;rw[dY,gL] at ab;exact⟨ab.1,λc U=>ae c (b6 _ U)⟩
 have yo:∀a,aJ a->¬(ay cs).J a/\a≠env.locals:=λa af=>⟨F.fV a af,(F.F.eg a (.inl af)).2.1⟩
 refine⟨⟨F.F.z9 (λa af=>?_) ?_ (λb o ab ae aC e=>(dT b o (λq=>ab (.inr q)) ae aC e).1) (λbZ e=>?_) B.g,λa af q=>?_,p'⟩,λb o I aM e=>?_⟩
 ·rcases af with af |af
  ·refine aE (F.F.st.low a (.dy (.inl af))) λaU aM=>?_;refine ah aU λo e cF=>?_;exact⟨.inl (.inl af),o,(dT a o (yo a af).1 (yo a af).2 aM e).1,cF⟩
  ·have aN:=B.j a (pG.mpr (.inl af));refine⟨?_,aN.2.1⟩;by_cases bf:(ay cs).J a
   ·exact .inl (.inr bf)
   ·by_cases ao:a=env.locals
    ·exfalso;refine aE B.p λab ae=>?_;unfold br at ab;rw[dY,gL] at ab;exact ab.2.2 a af env.locals (by exact .head _) ao
    ·refine .inr ⟨?_,aN.2.2⟩;induction e:s.heap.get? a with
     |none=>rfl
     |some o=>exact absurd af (dT a o bf ao aN.2.2 e).2
 ·refine cn B.ext.same λh tk e=>?_;refine cn F.F.same λh' oQ aO=>?_;exact⟨h,tk,by rw[e,aO]⟩
 ·rw[aj] at e;obtain rfl:=bT e;refine ah (B.p.2 _ (b9 _ (.head _))) λbZ aO bk=>?_;refine aP bk λbQ a7=>?_;subst a7;exact⟨bQ,aO⟩
 ·refine aE (F.F.st.low a (.dy (.inl af))) λbz aM=>?_;refine ah bz λo e _=>?_;exact(dT a o (yo a af).1 (yo a af).2 aM e).2 q
 ·have ab:¬(ay cs).J b:=λq=>I (.inr q);have ae:b≠env.locals:=λq=>I (.inl (.inl q));refine aE (dT b o ab ae aM e) λku h5=>?_;exact⟨ku,λq=>q.elim (λq=>I (.inl q)) h5⟩
theorem bP.xg{ad:Str->Addr}{f:Addr} 
  (h:∀o,pJ o->iw prog w n fr f args (ay (cs++[(env.locals,jD o)])) (λp r'=>∃cs',b0 r' (ay (cs'++[(env.locals,jD o)]))/\Ψ p (ay cs'))) (ai:bK n A) (d6:A.frames=some fr) (F:bP w s₀ env W₀ aJ ad m (ay cs) s) (bb:bJ w s.heap (bU W₀ env m ad λa=>aJ a\/(ay cs).J a) args vs) (cN:dB args)
  (a4:∀p r' v s',bP w s₀ env W₀ aJ ad m r' s'->bC (cD env m ad (ay cs)) (cD env m ad r') s s'->a6 w s'.heap (bU W₀ env m ad λa=>aJ a\/r'.J a) p v->cb p->Ψ p r'->Q v s'):codeAny (model prog w) A (.call (.ref f) ⟨vs,[]⟩) (o8 Q E) s:=by
 refine nI F.N5 λo aj ic hK h2 pd=>?_;refine h o ic s₀ s W₀ (λa=>(aJ a\/b4 env m ad a)/\a≠env.locals) A vs Q E ai d6 F.F.same F.F.keep F.F.dM F.F.st.g F.F.fg hK h2 pd (bb.less cN λa af=>?_) λp v r' s' cU aq e0 B=>?_
 ·rcases af with af |af |af
  ·exact .nV af
  ·rcases af.1 with af |af
   ·exact .dy (.inl af)
   ·exact af.ky
  ·rcases pG.mp af with af |rfl
   ·exact .dy (.inr af)
   ·exact .inr (.inl rfl)
 ·refine ah cU λcs' le cU=>?_;refine aE (F.PV aj (B.le le)) λaS k'=>?_;refine a4 p _ v s' aS k' (aq.less e0 λa af=>?_) e0 cU;by_cases ao:a=env.locals
  ·exact .inr (.inr ((le.1 a).mpr (pG.mpr (.inr ao))))
  ·rcases af.split with q |(q |q) |q
   ·exact .inl q
   ·exact .inr (.inl ⟨.inl q,ao⟩)
   ·exact .inr (.inr ((le.1 a).mpr (pG.mpr (.inl q))))
   ·exact .inr (.inl ⟨.inr q,ao⟩)
theorem C9{o:Expr}{name:Str}{x dx f:Addr}{kv:List (Str×ak)}{of:Obj}(aj:aV prog w n env m (ay cs) o (.val (.ref x)))(ag:(x,fZ C dx)∈cs)(hd:(dx,c8 kv)∈cs)
  (dj:plainGet (KF w) C name=true) (hf:findIn (KF w) (.ref C) name=some (some (.ref f))) (jj:isFn (KF w) (.ref f)=true) (fT:kv.lookup name=none) (oX:(KF w).lookup f=some of) (oU:of.data= .func fd)
  (af:dd prog w n env m (ay cs) pos es ps) (jl:dB ps) (hm:∀o,pJ o->iw prog w n fr f (.val (.ref x)::ps) (ay (cs++[(env.locals,jD o)])) (λp r'=>∃cs',b0 r' (ay (cs'++[(env.locals,jD o)]))/\Ψ p (ay cs')))
  (cv:backTo pos (starEach es env)=[]\/∃x r,backTo pos (starEach es env)=(false,x)::r)
  (fu:eval (.Call (.Attribute o name apos) es [] pos) env=(do
   let ho<-eval o env
   standAt apos.atName
   let(f,first)<-holding [ho] (getMethod ho name e1)
   callWith pos f first (backTo pos (starEach es env)) (backToKw pos (keywordEach [] env)))):jJ prog w (qt n fr) env m (ay cs) (.Call (.Attribute o name apos) es [] pos) Ψ:=
 C7 (λ_ h=>h.1) aj ag hd dj hf jj fT oX oU af (λs₀ W₀ aJ ad A s vs Q E ai F bb a4=>F.xg hm ai.1 ai.2 bb ⟨trivial,jl⟩ a4) cv fu
theorem jJ.xg{f:Addr}{of:Obj}(iZ:Ev prog w n env m eL (.val (.ref f)))(oX:(KF w).lookup f=some of)(oU:of.data= .func fd)
  (af:dd prog w n env m (ay cs) pos es ps) (jl:dB ps) (hm:∀o,pJ o->iw prog w n fr f ps (ay (cs++[(env.locals,jD o)])) (λp r'=>∃cs',b0 r' (ay (cs'++[(env.locals,jD o)]))/\Ψ p (ay cs')))
  (cv:backTo pos (starEach es env)=[]\/∃x r,backTo pos (starEach es env)=(false,x)::r)
  (fu:eval (.Call eL es [] pos) env=(do callWith pos (<-eval eL env) [] (backTo pos (starEach es env)) (backToKw pos (keywordEach [] env)))):jJ prog w (qt n fr) env m (ay cs) (.Call eL es [] pos) Ψ:=λs₀ W₀ aJ ad A s Q E ai F a4=>by
 rw[fu];refine aH (iZ _ A s _ E ai.1 F.F.st λv au aq az aF=>?_);rw[show v= .ref f from aq];have aX:=F.ext az aF;refine Calls.callWith_function (o:=of) (fd:=fd) (y2 cv (af _ A au _ E ai.1 aX.F.st aX.dq aX.p λvs aL bb aR aY=>?_));have bp:=aX.ext aR aY;refine⟨⟨aY.K _ _ oX,oU⟩,?_⟩;refine wpAny_call (bp.xg hm ai.1 ai.2 bb jl λp r' v s' aS k' aq e0 cU=>?_);exact a4 p r' v s' aS (((bC.ext az).trans (.ext aR)).trans k') aq e0 cU
end
def iy(prog:Program)(w:World)(S:Str->Bool)(k:Nat)(o:Obj):Prop:=∀(h:Heap) (a:Addr),h.get? a=some o->h.SetOf (strKind prog w) a S k
section
variable {prog:Program} {w:World} {n:Nat} {env:Env} {m:Loc} {cs:dW} {r:Rs} {Φ:dp->Loc->Rs->Prop}
theorem NV{a:Addr}{S:Str->Bool}{k:Nat}{o:Obj}(x:h.SetOf (strKind prog w) a S k)(e:h.get? a=some o):iy prog w S k o:=by
 refine xD x λbZ es ep t aj q=>?_;rw[e] at aj;obtain rfl:=bT aj;exact λh' n3 aO=>⟨o,es,ep,t,aO,q⟩
theorem KP{a:Addr}{S:Str->Bool}{k:Nat}{o:Obj}(x:h.SetOf (strKind prog w) a S k)(e:h.get? a=some o):cx o:=by
 refine xt x λbZ es ep t aj q hd _=>?_;rw[e] at aj;obtain rfl:=bT aj;exact .inr λvs q=>by rw[hd] at q;injection q
theorem Jf(iZ:Ev prog w n env m eL (.val (.type "set")))
  (fu:eval (.Call eL [] [] pos) env=(do callWith pos (<-eval eL env) [] (backTo pos (starEach [] env)) (backToKw pos (keywordEach [] env)))):fi prog w n env m (ay cs) (.Call eL [] [] pos) (λp r'=>∃D,p= .val (.ref D)/\r'=ay (cs++[(D,iy prog w (λ_=>false) 0)])):=λs₀ W₀ aJ ad A s Q E ai F a4=>by
 rw[fu];refine aH (iZ _ A s _ E ai F.F.st λv au aq az aF=>?_);rw[show v= .type "set" from aq];have aX:=F.ext az aF;refine PySem.callWith_type rfl (hu (λx ag=>absurd ag b8) (lS (call_set_0 λled=>?_)));have dj:(au.heap.push {cls:= .type "set",dict:=none,data:= .set #[] 0 (.fresh 0 0 led)}).get? au.heap.objs.size=some {cls:= .type "set",dict:=none,data:= .set #[] 0 (.fresh 0 0 led)}:=dc _ rfl;refine aE (aX.nF (p:=iy prog w (λ_=>false) 0) (.push ..) (aX.F.st.g.push _) (eA _) dj (.inr λ_ q=>by injection q) (λh a e=>(PyProof.Rows.setObjOf_fresh (knd:=strKind prog w) led).setOf e (by unfold scanBound;exact Nat.zero_lt_succ _))) λaS k'=>?_;exact a4 (.val (.ref au.heap.objs.size)) _ _ _ aS ((bC.ext az).trans k') rfl trivial ⟨_,rfl,rfl⟩
theorem Dg{l e:Expr}{y:Str}{a:Addr}{S:Str->Bool}{k:Nat}(ao:aV prog w n env m (ay cs) l (.str y))(bf:aV prog w n env m (ay cs) e (.val (.ref a)))(af:(a,iy prog w S k)∈cs)(hm:behindInMarks .In e=false):gE prog w n env m (ay cs) (.Compare l [.In] [e] pos) (S y):=λW A s Q E ai x a0 aa h=>by
 refine wpAny_isTrue_Compare1 (ao W A s _ E ai x a0 aa λv au aq az aF=>bf W A au _ E ai (x.ext az aF) a0 (Rs.ext a0 x.low az aa) λu aL bE aR aY=>?_) hm;refine aP aq λt aU=>?_;subst aU;rw[show u= .ref a from bE];have c4:=x.ext az aF;refine ah ((Rs.ext (r:=ay cs) a0 c4.low aR (Rs.ext a0 x.low az aa)).2 _ af) λo aj j1=>?_;refine wpAny_inSet_of (knd:=strKind prog w) (k:=y) (strKind_is prog w y t) rfl (j1 _ _ aj) ?_;exact mu (h _ ((az.trans aR).trans (.tok aL _)) aY)
theorem zK:Meth "set" "add" "set.add":=⟨PySem.F.plainAttrs_set,PySem.F.slot_set_add,PySem.F.type_set_add⟩
theorem Jl{o e:Expr}{y:Str}{a:Addr}{S:Str->Bool}{k:Nat}(aj:aV prog w n env m (ay cs) o (.val (.ref a)))(he:dd prog w n env m (ay cs) pos [e] [.str y])(af:(a,iy prog w S k)∈cs)(ar:k+1 < 4096)
  (h:Φ .next m (ay (setC cs a (iy prog w (λz=>S z||decide (z=y)) (if S y then k else k+1))))) (cv:(starEach [e] env).any (·.1)=false)
  (ha:attributeBase o "add" env (eval o env)=eval o env)
  (jf:((backTo pos (starEach [e] env)).all (λx=> !x.1)&&(backToKw pos (keywordEach [] env)).all (λx=>x.1.isSome)&&decide ([e].length+([]:List Keyword).length+(if([]:List Keyword).isEmpty then 0 else 1) < 30))=true)
  (gO:(apos.endLine==pos.line)=true) (hi:interactive env=false) (hs:swapsWith (.Call (.Attribute o "add" apos) [e] [] pos) none f5.line env=pure false):
  ek prog w n env m (ay cs) (.Expr (.Call (.Attribute o "add" apos) [e] [] pos) f5) Φ:=λs₀ W₀ aJ ad A s E ai F=>by
 refine wpAny_Expr_any ?_ hi hs;refine mv ha jf gO zK.hG zK.slot zK.ty (aj _ A s _ E ai F.F.st F.dq F.p λv au aq az aF=>?_);rw[show v= .ref a from aq];have aX:=F.ext az aF;refine ah (aX.p.2 _ af) λob gD j1=>?_;refine⟨(j1 _ _ gD).typeIs,(j1 _ _ gD).noDict,?_⟩;have I:=jz (pos:=pos) cv;refine lb (kA I) (hu I (he _ A au _ E ai aX.F.st aX.dq aX.p λvs aL bb aR aY=>?_));have bp:=aX.ext aR aY;refine bj bb λv1 _ dz a7 hI=>?_;refine aP a7 λt bN=>?_;subst dz bN;rw[show _=[] from hI];refine ah (bp.p.2 _ af) λFv oq PD=>?_;refine call_set_add (knd:=strKind prog w) (k:=y) (strKind_is prog w y t) rfl (PD _ _ oq) (by show k+1 < 4096;exact ar) λh' bL qj=>?_;refine xD (id qj) λbZ es ep tt cR q=>?_;refine aE (bp.setC (tk:=aL.toks+1) (p':=iy prog w (λz=>S z||decide (z=y)) (if S y then k else k+1)) af bL cR (KP qj cR) (NV qj cR)) λdv gh=>?_;exact⟨ad,m,_,dv,((bC.ext az).trans (.ext aR)).trans gh,h⟩
end
theorem MB:typeLookup (.type "list_iterator") "__getattribute__"=pure (some (.builtin "object.__getattribute__")):=by rw[typeLookup_type,mr];kernel_rfl
theorem zi:Slot "list_iterator" "__getattribute__" "object.__getattribute__":=
 .of (owner:="object") (n:="__getattribute__") (by rw[typeLookup_type,mr];kernel_rfl) (by kernel_rfl) (by kernel_rfl) (by kernel_rfl)
  (by first |exact .inl (by decide+kernel) |exact .inr (by decide+kernel)) (by rw[isSubtype_type];kernel_rfl)
theorem Ki:typeLookup (.type "list_iterator") "__next__"=pure (some (.builtin "list_iterator.__next__")):=by rw[typeLookup_type,mr];kernel_rfl
theorem yT:typeOf (.builtin "list_iterator.__next__")=pure (.type "wrapper_descriptor"):=by show builtinType _=_;rw[builtinType_eq_fast];kernel_rfl
theorem y9:Slot "wrapper_descriptor" "__get__" "wrapper_descriptor.__get__":=
 .of (owner:="wrapper_descriptor") (n:="__get__") (by rw[typeLookup_type,mr];kernel_rfl) (by kernel_rfl) (by kernel_rfl) (by kernel_rfl)
  (by first |exact .inl (by decide+kernel) |exact .inr (by decide+kernel)) (by rw[isSubtype_type];kernel_rfl)
theorem MD:typeLookup (.type "wrapper_descriptor") "__set__"=pure none:=by rw[typeLookup_type,mr];kernel_rfl
theorem MR:typeLookup (.type "wrapper_descriptor") "__delete__"=pure none:=by rw[typeLookup_type,mr];kernel_rfl
theorem Jw:entryFor table "wrapper_descriptor.__get__"=some Builtin.«wrapper_descriptor.__get__»:=entryFor_of_tree (by kernel_rfl)
theorem JM(a b c:Value):argsOk "wrapper_descriptor.__get__" ⟨[a,b,c],[]⟩:=by unfold argsOk;kernel_rfl
theorem JE:isSubtype (.type "list_iterator") (.type (".".intercalate ("list_iterator.__next__".cutAt '.').dropLast))=pure true:=by
 rw[show ".".intercalate ("list_iterator.__next__".cutAt '.').dropLast="list_iterator" by kernel_rfl,isSubtype_type];kernel_rfl
section
variable {prog:Program} {w:World} {A:Around} {E:Value->Shared->Prop} {h:Heap} {g:Array GenState} {d:Drawn} {t:Nat} {os:OsState} {a:Addr} {o:Obj}
noncomputable def nz(a:Addr):Obj:={cls:= .type "method-wrapper",data:= .fields #[.builtin "list_iterator.__next__",.ref a]}
theorem Mk{R:Result->Shared->Prop}(ag:h.get? a=some o)(U:o.cls= .type "list_iterator")(aG:R (.ok (.ret (.ref h.objs.size))) ⟨h.push (nz a),g,d,t,os⟩):
  codeAny (model prog w) A (.call (.builtin "wrapper_descriptor.__get__") ⟨[.builtin "list_iterator.__next__",.ref a,.type "list_iterator"],[]⟩) R ⟨h,g,d,t,os⟩:=by
 have bD:(⟨h,g,d,t,os⟩:Shared).TypeIs (.ref a) "list_iterator":=⟨_,ag,U⟩
 have rL:(⟨h,g,d,t,os⟩:Shared).TypeIs (.builtin "list_iterator.__next__") "wrapper_descriptor":=yT;have f8:=JE;refine codeAny_call_builtin y9.plain Jw (y9.check _ _ _ _ _ _ _ _ rL (JM _ _ _) ?_);unfold Builtin.«wrapper_descriptor.__get__»
 repeat (any_goals (first |assumption |wp_step))
 all_goals exact aG
theorem Kp{tk:Tok}{vs:Array Value}{Q:Fin->Shared->Prop}(ag:h.get? a=some {cls:= .type "list_iterator",data:= .fields vs})(aG:Q (.done (.ret (.ref h.objs.size))) ⟨h.push (nz a),g,d,t,os⟩):
  wpAny (model prog w) A (Builtin.«object.__getattribute__» ⟨[.ref a,.str "__next__" tk],[]⟩) Q E ⟨h,g,d,t,os⟩:=by
 have bD:(⟨h,g,d,t,os⟩:Shared).TypeIs (.ref a) "list_iterator":=⟨_,ag,rfl⟩
 have rL:(⟨h,g,d,t,os⟩:Shared).TypeIs (.builtin "list_iterator.__next__") "wrapper_descriptor":=yT;have f4:=Ki;have Vk:=yT;have WW:=y9.lookup;have WQ:=MD;have WR:=MR
 repeat (any_goals (first |assumption |wp_step))
 refine Mk ag rfl ?_
 repeat (any_goals (first |assumption |wp_step))
theorem Li{vs:Array Value}(ag:h.get? a=some {cls:= .type "list_iterator",data:= .fields vs})(aG:∀e2,Q (.ref h.objs.size) ⟨h.push (nz a),g,d,e2,os⟩):
  wpAny (model prog w) A (getAttr (.ref a) "__next__" true) Q E ⟨h,g,d,t,os⟩:=by
 have bD:(⟨h,g,d,t,os⟩:Shared).TypeIs (.ref a) "list_iterator":=⟨_,ag,rfl⟩
 have f2:=MB;have t5:=zi.bind (.ref a);unfold getAttr
 repeat (any_goals (first |assumption |wp_step))
 refine codeAny_call_builtin zi.plain PySem.F.entry_object_getattribute (zi.check _ _ _ _ _ _ _ _ (show(⟨h,g,d,t+1,os⟩:Shared).TypeIs (.ref a) "list_iterator" from⟨_,ag,rfl⟩) (PySem.F.args_object_getattribute_2 _ _) (Kp ag ?_))
 repeat (any_goals (first |assumption |wp_step))
 all_goals exact aG _
end
section
variable {prog:Program} {w:World} {A:Around} {E:Value->Shared->Prop} {s:Shared} {a wp c:Addr} {i k:Nat} {vs:List Value} {R:Result->Shared->Prop}
theorem Jh{M:Model}{Q:Unit->Shared->Prop}(aG:Q () s):wpAny M A (checkBoundCall "list_iterator.__next__" ⟨[.ref a],[]⟩) Q E s:=by
 unfold checkBoundCall
 repeat (any_goals (first |assumption |wp_step))
noncomputable def ow(c:Addr)(i:Nat):Obj:={cls:= .type "list_iterator",data:= .fields #[.ref c,.int i 0]}
theorem D5(hw:s.heap.get? wp=some (nz a))
  (h:wpAny (model prog w) (A.under (.builtin "list_iterator.__next__" ⟨[.ref a],[]⟩)) (Builtin.«list_iterator.__next__» ⟨[.ref a],[]⟩) (λfin s'=>match fin with | .done f=>R (.ok f) s' | .again c'=>c'.quiet=true/\codeAny (model prog w) A c' R s') (λe s'=>R (.error e) s') s):
  codeAny (model prog w) A (.call (.ref wp) ⟨[],[]⟩) R s:=by
 refine codeAny_of_tree ?_;show wpAny _ A.in1 (callAny (.ref wp) ⟨[],[]⟩) _ _ s;unfold callAny;refine aH (wpAny_load hw ?_);show wpAny _ _ (do checkBoundCall "list_iterator.__next__" ⟨[.ref a],[]⟩;return<-again (.builtin "list_iterator.__next__" ⟨[.ref a],[]⟩)) _ _ s;refine aH (Jh ?_);refine aH (bu (bu ⟨plainId_quiet slot_listiter_next.plain _,codeAny_builtin entry_listiter_next h⟩))
theorem Ly{x:Value}(hw:s.heap.get? wp=some (nz a))(hi:s.heap.get? a=some (ow c i))(ao:s.heap.get? c=some {cls:= .type "list",data:= .seq ⟨vs⟩ k})(ag:vs[i]? =some x)
  (h:∀h',SameBut a s.heap h'->h'.get? a=some (ow c (i+1))->R (.ok (.ret x)) {s with heap:=h'}):codeAny (model prog w) A (.call (.ref wp) ⟨[],[]⟩) R s:=by
 refine D5 hw ?_;show wpAny _ _ (field (.ref a) 0 >>=_) _ _ s;refine aH (wpAny_field hi (show(ow c i).data= .fields #[.ref c,.int i 0] from rfl) (x:= .ref c) rfl ?_);show wpAny _ _ (if(Value.ref c==Value.none)=true then _ else _) _ _ s;rw[aI (show¬((Value.ref c==Value.none)=true) from Bool.false_ne_true)];show wpAny _ _ (field (.ref a) 1 >>=_) _ _ s;refine aH (wpAny_field hi (show(ow c i).data= .fields #[.ref c,.int i 0] from rfl) (x:= .int i 0) rfl ?_);show wpAny _ _ (seqItems? (.ref c) >>=_) _ _ s;refine aH (wpAny_seqItems ao rfl ?_);have e:(({toList:=vs}:Array Value)[(i:Int).toNat]?)=some x:=by rw[Int.toNat_natCast];simpa using ag
 simp only[e];exact aH (wpAny_setField hi rfl (by show 1 < 2;decide) (bu (h _ (SameBut.update ..) (get?_update_self _ hi rfl))))
theorem L3(dt:A.handled=none)(hw:s.heap.get? wp=some (nz a))(hi:s.heap.get? a=some (ow c i))(ao:s.heap.get? c=some {cls:= .type "list",data:= .seq ⟨vs⟩ k})(ag:vs[i]? =none)
  (h:∀h₁ h' e,SameBut a s.heap h₁->(∃o,h₁.get? a=some o/\cx o)->NewExc h₁ h' e "StopIteration"->R (.error (.ref e)) {s with heap:=h'}):codeAny (model prog w) A (.call (.ref wp) ⟨[],[]⟩) R s:=by
 refine D5 hw ?_;show wpAny _ _ (field (.ref a) 0 >>=_) _ _ s;refine aH (wpAny_field hi (show(ow c i).data= .fields #[.ref c,.int i 0] from rfl) (x:= .ref c) rfl ?_);show wpAny _ _ (if(Value.ref c==Value.none)=true then _ else _) _ _ s;rw[aI (show¬((Value.ref c==Value.none)=true) from Bool.false_ne_true)];show wpAny _ _ (field (.ref a) 1 >>=_) _ _ s;refine aH (wpAny_field hi (show(ow c i).data= .fields #[.ref c,.int i 0] from rfl) (x:= .int i 0) rfl ?_);show wpAny _ _ (seqItems? (.ref c) >>=_) _ _ s;refine aH (wpAny_seqItems ao rfl ?_);have e:(({toList:=vs}:Array Value)[(i:Int).toNat]?)=none:=by rw[Int.toNat_natCast];simpa using ag
 simp only[e];refine aH (wpAny_rule (aH (wpAny_setField hi rfl (by show 0 < 2;decide) ?_)));show wpAny _ _ (newExc (.type "StopIteration") [] >>=_) _ _ _;refine aH ?_;simp only[newExc,newTuple];refine aH (iq ?_ (by size_fits));refine aH (m:=firstArgMember _ _) (wpAny_of_eq (a:=Value.none) (by first |rfl |(simp only[firstArgMember];rfl)) ?_);refine iq ?_ (by size_fits);simp only[raiseNew];refine aH (wpAny_handled ?_);rw[show(A.under _).handled=none from dt];refine aH (bu (wpAny_throw ?_));refine h _ _ _ (SameBut.update ..) ⟨_,get?_update_self _ hi rfl,.inl (by show Value.type "list_iterator"≠Value.type "code";decide)⟩ ⟨λb o I=>dZ _ (dZ _ I),get?_none_of_le (by simp),?_⟩;exact⟨_,_,dc _ rfl,rfl,rfl⟩
end
def iv(c:Addr)(i:Nat)(o:Obj):Prop:=o=ow c i
def jG(a:Addr)(o:Obj):Prop:=o=nz a
def fD(l:List Addr)(o:Obj):Prop:=∃n,o={cls:= .type "list",data:= .seq ⟨l.map λa=> .ref a⟩ n}
theorem Dk{c:Addr} :cx (ow c i):= .inl (by show Value.type "list_iterator"≠Value.type "code";simp)
theorem JQ{a:Addr}:cx (nz a):= .inl (by show Value.type "method-wrapper"≠Value.type "code";simp)
theorem J4{x:Expr}{c:Addr}{l:List Str}{p:Obj->Prop}(iZ:Ev prog w n env m eL (.val (.builtin "iter")))(ag:aV prog w n env m (ay cs) x (.val (.ref c)))(U:(c,p)∈cs)(aa:∀o,p o->cy l o)
  (cv:(starEach [x] env).any (·.1)=false) (hs:starEach [x] env=[(false,eval x env)])
  (fu:eval (.Call eL [x] [] pos) env=(do callWith pos (<-eval eL env) [] (backTo pos (starEach [x] env)) (backToKw pos (keywordEach [] env)))):fi prog w n env m (ay cs) (.Call eL [x] [] pos) (λp r'=>∃D,p= .val (.ref D)/\r'=ay (cs++[(D,iv c 0)])):=λs₀ W₀ aJ ad A s Q E ai F a4=>by
 rw[fu];refine aH (iZ _ A s _ E ai F.F.st λv au aq az aF=>?_);rw[show v= .builtin "iter" from aq];have aX:=F.ext az aF;have I:=jz (pos:=pos) cv;refine lb (kA I) (hu I (sJ hs (ag _ A au _ E ai aX.F.st aX.dq aX.p λv aL aq aR aY=>?_)));rw[show v= .ref c from aq];have bp:=aX.ext aR aY;refine ah (bp.p.2 _ U) λo aj mO=>?_;refine dP (aa o mO) λvs k aU _=>?_;subst aU;refine Calls.call_function_entry (by kernel_rfl) (by kernel_rfl) kdk_entry_iter (kdk_args_iter _) ?_;unfold Builtin.«iter»;refine aH (m:=someArgs "iter" 1 2 _) (wpAny_of_eq (a:=[Value.ref c]) (by first |rfl |kernel_rfl!) ?_);show wpAny _ _ (pyIter (.ref c) >>=_) _ _ _;refine aH (wpAny_pyIter_list ⟨_,aj,rfl,_,rfl⟩ ?_);obtain⟨aS,k'⟩:=bp.nF (p:=iv c 0) (.push ..) (bp.F.st.g.push _) (eA _) (dc _ rfl) Dk rfl;exact bu ⟨_,rfl,a4 (.val (.ref aL.heap.objs.size)) _ _ _ aS (((bC.ext az).trans (.ext aR)).trans k') rfl trivial ⟨_,rfl,rfl⟩⟩
theorem IM{e:Expr}{r:Rs}{c:Addr}(he:fi prog w n env m r e (λp r'=>∃D,p= .val (.ref D)/\r'=ay (cs++[(D,iv c 0)])))(I:attributeBase e "__next__" env (eval e env)=eval e env):
  fi prog w n env m r (.Attribute e "__next__" pos) (λp r'=>∃D wp,p= .val (.ref wp)/\r'=ay (cs++[(D,iv c 0)]++[(wp,jG D)])):=λs₀ W₀ aJ ad A s Q E ai F a4=>by
 rw[arm_eval_Attribute,I];refine aH (he s₀ W₀ aJ ad A s _ E ai F λp r' v au aX k₁ aq e0 cU=>aH (wpAny_standAt (aH (fY ?_))));refine ah cU λD a7 bk=>?_;subst a7;subst bk;rw[show v= .ref D from aq];refine ah (aX.p.2 (D,iv c 0) (b9 _ (.head _))) λo aj bz=>?_;subst bz;obtain⟨aa,g,d,tk,os⟩:=au;refine Li (a:=D) aj λe2=>?_;refine aH (wpAny_letTemporaryGo (bu ?_));have e:Ext (⟨aa,g,d,tk,os⟩:Shared) ⟨aa.push (nz D),g,d,e2,os⟩:= .keeps λb o e=>dZ _ e;obtain⟨aS,k'⟩:=aX.nF (p:=jG D) e (aX.F.st.g.push _) (eA _) (dc aa rfl) JQ rfl;exact a4 (.val (.ref aa.objs.size)) _ _ _ aS (k₁.trans k') rfl trivial ⟨_,_,rfl,rfl⟩
def fs(prog:Program)(w:World)(ks:List Str)(o:Obj):Prop:=∃kvs:List (Str×Value),o.IsDictOf (strKind prog w) kvs/\kvs.map (·.1)=ks
theorem De{ks:List Str}{o:Obj}(h:fs prog w ks o):cx o:=by
 refine ah h λ_ a7 _=>?_;refine dP a7 λ_ _ ab _=>?_;exact .inl (by rw[ab.1];decide)
theorem JA{y:Str}(h:y∉kvs.map (·.1)):valueAt kvs y=none:=by
 unfold valueAt;rw[List.find?_eq_none.mpr λz hz q=>h (bA.mpr ⟨z,hz,by exact eq_of_beq q⟩)];rfl
theorem Js{y:Str}(h:y∈kvs.map (·.1)):(valueAt kvs y).isSome=true:=by
 unfold valueAt;rw[isSome_map];refine ah (bA.mp h) λz hz bk=>?_;subst bk;exact List.find?_isSome.mpr ⟨z,hz,by walk_at"o"⟩
theorem pop_at{p:List Value}{y:Value}{k:Nat}(aj:s.heap.get? D=some {cls:= .type "list",data:= .seq ⟨p++[y]⟩ k})(hz:p.length < sizeLine)
  (h:∀h',SameBut D s.heap h'->h'.get? D=some {cls:= .type "list",data:= .seq ⟨p⟩ (k+1)}->Q y {s with heap:=h'}):wpAny (model prog w) A (call (.builtin "list.pop") [.ref D]) Q E s:=by
 have ar:(p++[y]).toArray.size - 1=p.length:=by rw[mm,fB];rfl
 have av:(p++[y]).toArray[(p++[y]).toArray.size - 1]? =some y:=by rw[ar];simp
 refine call_meets PySem.F.slot_list_pop ⟨_,aj,rfl⟩ PySem.F.entry_list_pop (PySem.F.args_list_pop_1 _) (PySem.MeetsSeq.list_pop_last D _ k y av (by rw[mm,fB];exact hz)) ⟨aj,h _ (SameBut.update ..) ?_⟩;have q:=PySem.IsL.update aj λx=>x.eraseIdxIfInBounds ((p++[y]).toArray.size - 1);rw[show(p++[y]).toArray.eraseIdxIfInBounds ((p++[y]).toArray.size - 1)=⟨p⟩ by rw[ar,kl_erase,append_nil],aI (by simp)] at q;exact q
theorem IW{o e:Expr}{a:Addr}{l:List Addr}(aj:aV prog w n env m (ay cs) o (.val (.ref a)))(af:(a,fD l)∈cs)(he:fi prog w n env m (ay cs) e Ψ)
  (h:∀p r',Ψ p r'->∃wp cs',p= .val (.ref wp)/\r'=ay cs'/\(a,fD l)∈cs'/\l.length<=1000/\Φ .next m (ay (setC cs' a (fD (l++[wp])))))
  (cv:(starEach [e] env).any (·.1)=false) (BH:starEach [e] env=[(false,eval e env)])
  (ha:attributeBase o "append" env (eval o env)=eval o env)
  (jf:((backTo pos (starEach [e] env)).all (λx=> !x.1)&&(backToKw pos (keywordEach [] env)).all (λx=>x.1.isSome)&&decide ([e].length+([]:List Keyword).length+(if([]:List Keyword).isEmpty then 0 else 1) < 30))=true)
  (gO:(apos.endLine==pos.line)=true) (hi:interactive env=false) (hs:swapsWith (.Call (.Attribute o "append" apos) [e] [] pos) none f5.line env=pure false):
  ek prog w n env m (ay cs) (.Expr (.Call (.Attribute o "append" apos) [e] [] pos) f5) Φ:=λs₀ W₀ aJ ad A s E ai F=>by
 refine wpAny_Expr_any ?_ hi hs;refine mv ha jf gO lR.hG lR.slot lR.ty (aj _ A s _ E ai F.F.st F.dq F.p λv au aq az aF=>?_);rw[show v= .ref a from aq];have aX:=F.ext az aF;refine ah (aX.p.2 _ af) λob gD b7=>?_;refine aP b7 λGL bz=>?_;subst bz;refine⟨⟨_,gD,rfl⟩,λb q=>by(injection q with bB;subst bB);exact⟨_,gD,rfl⟩,?_⟩;have I:=jz (pos:=pos) cv;refine lb (kA I) (hu I (sJ BH (he s₀ W₀ aJ ad A au _ E ai aX λp r' v aL bp k₂ aq e0 cU=>?_)));refine ta (h p r' cU) λwp cs' cC c1 jR hz hT=>?_;subst cC;subst c1;rw[show v= .ref wp from aq];refine ah (bp.p.2 _ jR) λFv oq eS=>?_;refine aP eS λk₁ c2=>?_;subst c2;refine call_meets PySem.F.slot_list_append ⟨_,oq,rfl⟩ PySem.F.entry_list_append (PySem.F.args_list_append_2 _ _) (list_append a ⟨l.map λa=> .ref a⟩ k₁ (.ref wp) (by show(l.map _).length<=_;rw[bO];have:sizeLine=2 ^ 24:=rfl;exact bH ‹_› rfl)) ⟨oq,?_⟩;have bL:SameBut a aL.heap (aL.heap.update a (Obj.mapSeq λx=>x.push (.ref wp))):= .update ..;have cR:(aL.heap.update a (Obj.mapSeq λx=>x.push (.ref wp))).get? a=some {cls:= .type "list",data:= .seq ⟨(l++[wp]).map λa=> .ref a⟩ (k₁+1)}:=by
  rw[get?_update_self _ oq rfl];simp[Obj.mapSeq]
 refine aE (bp.setC (tk:=aL.toks) (p':=fD (l++[wp])) jR bL cR nf ⟨_,rfl⟩) λdv gh=>?_;exact⟨ad,m,_,dv,((bC.ext az).trans k₂).trans gh,hT⟩
theorem Ji{o e:Expr}{d:Addr}{ks:List Str}{y:Str}{i:Int}(he:aV prog w n env m (ay cs) e (.int i))(aj:aV prog w n env m (ay cs) o (.val (.ref d)))(r1:aV prog w n env m (ay cs) m1 (.str y))(hd:(d,fs prog w ks)∈cs)(av:y∉ks)(hz:ks.length<=1000)
  (h:Φ .next m (ay (setC cs d (fs prog w (ks++[y]))))) (hs:swapsWith e (some (.Subscript o m1 f5)) pos.line env=pure false):ek prog w n env m (ay cs) (.Assign [.Subscript o m1 f5] e pos) Φ:=λs₀ W₀ aJ ad A s E ai F=>by
 refine wpAny_Assign_Subscript (he _ A s _ E ai F.F.st F.dq F.p λv au aq az aF=>?_) hs;have aX:=F.ext az aF;refine aj _ A au _ E ai aX.F.st aX.dq aX.p λho aL mS aR aY=>?_;rw[show ho= .ref d from mS];have bp:=aX.ext aR aY;refine r1 _ A aL _ E ai bp.F.st bp.dq bp.p λkv ef fT ee e4=>?_;refine aP fT λt eQ=>?_;subst eQ;have dv:=bp.ext ee e4;refine ah (dv.p.2 _ hd) λik dw fS=>?_;refine ah fS λkvs tE ft=>?_;subst ft;have hlen:kvs.length<=sizeLine:=by
  rw[bO] at hz;have:sizeLine=2 ^ 24:=rfl;exact bH ‹_› rfl
 refine wpAny_setItem_pairs (knd:=strKind prog w) (k:=y) isKey (Heap.dictOf_iff.mpr ⟨ik,dw,tE⟩) (λh' hW bL=>?_) hlen;refine ah (Heap.dictOf_iff.mp hW) λbZ cR hd2=>?_;have e:stored kvs y v=kvs++[(y,v)]:=by
  unfold stored;rw[aI];intro q;refine ah (g8.mp q) λz hz oP=>?_;exact av (bA.mpr ⟨z,hz,by exact eq_of_beq oP⟩)
 rw[e] at hd2;have ar:fs prog w (kvs.map (·.1)++[y]) bZ:=⟨_,hd2,by rw[dY];rfl⟩
 refine aE (dv.setC (tk:=ef.toks+1) (p':=fs prog w (kvs.map (·.1)++[y])) hd bL cR (De ar) ar) λgi mB=>?_;exact⟨ad,m,_,gi,(((bC.ext az).trans (.ext aR)).trans (.ext ee)).trans mB,h⟩
theorem JD{l e:Expr}{y:Str}{a:Addr}{ks:List Str}(ao:aV prog w n env m (ay cs) l (.str y))(bf:aV prog w n env m (ay cs) e (.val (.ref a)))(af:(a,fs prog w ks)∈cs)(jg:(a==sysModules)=false)(av:y∉ks)(hm:behindInMarks .In e=false):gE prog w n env m (ay cs) (.Compare l [.In] [e] pos) false:=λW A s Q E ai x a0 aa h=>by
 refine wpAny_isTrue_Compare1 (ao W A s _ E ai x a0 aa λv au aq az aF=>bf W A au _ E ai (x.ext az aF) a0 (Rs.ext a0 x.low az aa) λu aL bE aR aY=>?_) hm;refine aP aq λt gg=>?_;subst gg;rw[show u= .ref a from bE];have c4:=x.ext az aF;refine ah ((Rs.ext (r:=ay cs) a0 c4.low aR (Rs.ext a0 x.low az aa)).2 _ af) λo aj iA=>?_;refine ah iA λkvs tE iz=>?_;subst iz;refine wpAny_in_of (knd:=strKind prog w) (k:=y) isKey jg (Heap.dictOf_iff.mpr ⟨o,aj,tE⟩).mapOf ?_;rw[JA av];exact mu (h _ ((az.trans aR).trans (.tok aL _)) aY)
theorem I4:fi prog w n env m (ay cs) (.Dict [] [] qy) (λp r'=>∃D,p= .val (.ref D)/\r'=ay (cs++[(D,fs prog w [])])/\(D==sysModules)=false):=λs₀ W₀ aJ ad A s Q E ai F a4=>by
 refine wpAny_Dict_empty ?_;obtain⟨aS,k'⟩:=F.nF (p:=fs prog w []) (.push ..) (F.F.st.g.push _) (eA _) (dc _ rfl) y4 ⟨[],⟨#[],0,⟨rfl,rfl,rfl⟩,rfl,λ_ he=>by simp at he,.nil,nodup_nil⟩,rfl⟩;exact a4 (.val (.ref s.heap.objs.size)) _ _ _ aS k' rfl trivial ⟨_,rfl,rfl,F.F.st.g.noSys (ea _)⟩
theorem I6:fi prog w n env m (ay cs) (.List [] qy) (λp r'=>∃D,p= .val (.ref D)/\r'=ay (cs++[(D,fD [])])):=λs₀ W₀ aJ ad A s Q E ai F a4=>by
 refine PyProof.Rows.List_ (lS ?_);refine iq ?_ (by show(0:Nat)<=_;exact c0 _);obtain⟨aS,k'⟩:=F.nF (p:=fD []) (.push ..) (F.F.st.g.push _) (eA _) (dc _ rfl) nf ⟨0,rfl⟩;exact a4 (.val (.ref s.heap.objs.size)) _ _ _ aS k' rfl trivial ⟨_,rfl,rfl⟩
theorem O9(h:Heap):∀l:List Addr,∃base:Heap,(∀b∈l,base.get? b=none)/\∀b,b∉l->base.get? b=h.get? b:=by
 intro ba;induction ba with
 |nil=>
  exact⟨h,λ_ I=>absurd I b8,λ_ _=>rfl⟩
 |cons a l aw=>
  refine ah aw λbase ab ae=>?_;have key:(base.update a λ_=>{cls:= .none,data:= .freed}).get? a=none:=by
   unfold Heap.get? Heap.update;simp only[Array.getElem?_modify,if_true]
   (induction base.objs[a]?)<;>rfl
  refine⟨base.update a λ_=>{cls:= .none,data:= .freed},λb I=>?_,λb I=>?_⟩
  ·by_cases e:b=a
   ·rw[e];exact key
   ·rw[get?_update_other _ _ (Ne.symm e)];exact ab b ((bI.mp I).resolve_left e)
  ·rw[get?_update_other _ _ λe=>I (by rw[e];exact .head _)];exact ae b λq=>I (.tail _ q)
theorem bP.drop{ad:Str->Addr}{r:Rs}(F:bP w s₀ env W₀ aJ ad m r s)(a0:∀a,r'.J a->r.J a)(b5:∀h,r.P h->r'.P h):bP w s₀ env W₀ aJ ad m r' s/\bC (cD env m ad r) (cD env m ad r') s s:=
 ⟨⟨F.F.uF λa af=>af.imp id (a0 a),λa af q=>F.fV a af (a0 a q),b5 _ F.p⟩,(bC.refl _ s).trans λb o I aM e=>⟨e,λq=>I (q.imp id (a0 b))⟩⟩
theorem bP.Pu{ad:Str->Addr}(F:bP w s₀ env W₀ aJ ad m (ay cs) s)(he:br cs'=br cs)(k:∀b o,b∉br cs->b≠env.locals->s.heap.get? b=some o->h'.get? b=some o)
  (tR:∀o,s.heap.get? env.locals=some o->∃bQ,h'.get? env.locals=some {o with slots:=bQ}) (aa:∀c∈cs',∃o,h'.get? c.1=some o/\cx o/\c.2 o):
  bP w s₀ env W₀ aJ ad m (ay cs') {s with heap:=h',toks:=tk}/\bC (cD env m ad (ay cs)) (cD env m ad (ay cs')) s {s with heap:=h',toks:=tk}:=by
 have ao:∃o,s.heap.get? env.locals=some o/\cx o:=by
  refine vg F.F.ns λcH o es ep e hd _=>?_;exact⟨o,e,.inr λvs q=>by rw[hd] at q;injection q⟩
 have g:G w h':=F.F.dM.chg (X:=λa=>a∈br cs\/a=env.locals) F.F.st.g (λa af=>?_) λb o I e=>k b o (λq=>I (.inl q)) (λq=>I (.inr q)) e
 ·refine⟨⟨F.F.z9 (λa af=>?_) ⟨h',tk,rfl⟩ (λb o ab ae aC e=>k b o (λq=>ab (.inr q)) ae e) tR g,λa af q=>F.fV a af (he▸q:a∈br cs),by show(br cs').Nodup;rw[he];exact F.p.1,λc U=>dK (aa c U) λo e _ q=>⟨o,e,q⟩⟩,λb o I aM e=>⟨k b o (λq=>I (.inr q)) (λq=>I (.inl (.inl q))) e,λq=>I (q.imp id λq=>(he▸q:b∈br cs))⟩⟩;rcases af with af |af
  ·refine aE (F.F.st.low a (.dy (.inl af))) λaU aM=>?_;refine ah aU λo e cF=>?_;exact⟨.inl (.inl af),o,k a o (F.fV a af) (F.F.eg a (.inl af)).2.1 e,cF⟩
  ·refine ah (bA.mp af) λc U a7=>?_;subst a7;refine dK (aa c U) λo e cZ _=>?_;exact⟨.inl (.inr (he▸af:c.1∈br cs)),o,e,cZ⟩
 ·rcases af with af |rfl
  ·refine cB (F.pW a af) λab ae _=>?_;exact⟨ab,ae⟩
  ·exact⟨F.F.new,ao⟩
def rD(cs:dW)(e:Env):Prop:=e.scope.kind≠ .module/\e.frame=some e.locals/\∃o,pJ o/\(e.locals,jD o)∈cs
theorem JF{base:Heap}:∀{l:List Env},(∀e∈l,e.scope.kind≠ .module/\e.frame=some e.locals/\base.get? e.locals=none/\∃o,h.get? e.locals=some o/\pJ o)->h.FunFrames base l:=by
 intro ba;induction ba with
 |nil=>
  intro _;exact trivial
 |cons e l aw=>
  intro x;refine eR (x e (.head _)) λab ae aC bk=>?_;refine ah bk λo bc dA=>?_;exact⟨ab,⟨e.locals,o,ae,aC,bc,dA⟩,aw λaO he=>x aO (.tail _ he)⟩
theorem L1{y:Str}{v:Value}(fn:env.scope.kind= .function)(gl:env.globals=3)(bi:env.builtins=0)(g:G w s.heap)(ar:env.kindOf y=some .globalImplicit)(aq:nsIn (KF w) 3 y=some none)(I:bootBuiltins y=some v)(av:y≠"__name__")(hd:(y==("__debug__":Str))=false)
  (h:Q v s):wpAny (model prog w) A (eval (.Name y pos) env) Q E s:=by
 refine Calls.Name_function_global fn ar ?_ hd;unfold loadGlobal;refine aH ?_;rw[gl,bi];refine looks_nsIn g.K aq A _ E s (λ_ _ e=>e) ?_;refine ah g.B λmb ab ae=>?_;refine aH (wpAny_nsGet ab ?_);rw[ae y av,I];exact bu h
theorem Et{ad:Str->Addr}{r:Rs}{y:Str}{a:Addr}{M:Model}(F:bP w s₀ env W₀ aJ ad m r s)(ao:m.lookup y=some (.val (.ref a)))(hd:(y==("__debug__":Str))=false)(h:Q (.ref a) s):wpAny M A (eval (.Name y pos) env) Q E s:=by
 refine ah (F.F.st.has y _ ao) λv aq bf=>?_;rw[show v= .ref a from bf] at aq;exact wpAny_Name (aq.load F.F.st.fn h) hd
theorem bP.OG{p3:dW}{ad:Str->Addr}{it e:Addr}{cX:Heap}{Q:Unit->Shared->Prop}{cls:String}(d6:A.frames=some (env::fr))(F:bP w s₀ env W₀ aJ ad m (ay cs) s)(e9:∀e∈fr,rD cs e)(ar:env.scope.kind≠ .module)(lr:env.frame=some env.locals)
  (hit:it∈br cs) (bL:SameBut it s.heap h₁) (mW:∃o,h₁.get? it=some o/\cx o) (qd:∀e∈fr,e.locals≠it) (ag:NewExc h₁ cX e cls) (u1:br p3=br cs) (Ta:∀c∈p3,c=(it,λ_=>True)\/c∈cs/\c.1≠it)
  (h:∀b2,bP w s₀ env W₀ aJ ad m (ay p3) b2->b2.TypeIs (.ref e) cls->(∀(Ir:Around) (cJ:Unit->Shared->Prop) (c6:Value->Shared->Prop),(∀s',bP w s₀ env W₀ aJ ad m (ay p3) s'->bC (cD env m ad (ay cs)) (cD env m ad (ay p3)) s s'->cJ () s')->wpAny (model prog w) Ir (setFlight (.ref e) none) cJ c6 b2)->Q () b2):
  wpAny (model prog w) A (noteFrame (.ref e) env) (λ_ s'=>wpAny (model prog w) A (setFlight (.ref e) none) Q E s') E {s with heap:=cX}:=by
 refine ah (O9 cX (e::(env::fr).map (·.locals))) λbase Bo qa=>?_;refine bj ag.there λob ma he iU hd=>?_;obtain⟨ol,A0,tw⟩:∃o,s.heap.get? env.locals=some o/\pJ o:=by
  refine vg F.F.ns λcH o es ep e hd _=>?_;exact⟨o,e,λvs q=>by rw[hd] at q;injection q⟩
 have Rf:env.locals≠it:=λq=>(F.F.eg it (.inr hit)).2.1 q.symm;have up:∀b o,b≠it->s.heap.get? b=some o->cX.get? b=some o:=λb o I q=>ag.keeps b o (bL.extBut b o I q);have tC:∀b∈(env::fr).map (·.locals),∃o,s.heap.get? b=some o/\pJ o/\b≠it:=λb I=>by
  refine ah (bA.mp I) λaO gj bz=>?_;subst bz;rcases bI.mp gj with rfl |gj
  ·exact⟨ol,A0,tw,Rf⟩
  ·refine cB (e9 aO gj) λ_ _ b7=>?_;refine ah b7 λAM aA hm=>?_;refine ah (F.p.2 _ hm) λo aj c1=>?_;refine aP c1 λbQ cC=>?_;subst cC;exact⟨_,aj,aA,qd aO gj⟩
 have Vj:cX.FunFrames base (env::fr):=JF λaO gj=>by
  refine dK (tC aO.locals (fX gj)) λo aj aA bY=>?_;refine⟨?_,?_,Bo _ (.tail _ (fX gj)),o,up _ _ bY aj,aA⟩
  ·rcases bI.mp gj with rfl |gj
   ·exact ar
   ·exact(e9 aO gj).1
  ·rcases bI.mp gj with rfl |gj
   ·exact lr
   ·exact(e9 aO gj).2.1
 have Hx:s.heap.get? e=none:=by
  induction q:s.heap.get? e with
  |none=>rfl
  |some o=>
   by_cases Hr:e=it
   ·refine ah mW λbZ cR _=>?_;have:=ag.new;rw[Hr,cR] at this;injection this
   ·have:=ag.new;rw[bL.extBut e o Hr q] at this;injection this
 have Wq:e∉(env::fr).map (·.locals):=λq=>by
  refine ah (tC e q) λo aj _=>?_;rw[Hx] at aj;injection aj
 have T:∀h',(∀b o,b≠it->b∉(env::fr).map (·.locals)->s.heap.get? b=some o->h'.get? b=some o)->(∀b∈(env::fr).map (·.locals),∀o,s.heap.get? b=some o->∃bQ,h'.get? b=some {o with slots:=bQ})->(∃o,h'.get? it=some o/\cx o)->
   bP w s₀ env W₀ aJ ad m (ay p3) {s with heap:=h'}/\bC (cD env m ad (ay cs)) (cD env m ad (ay p3)) s {s with heap:=h'}:=λh' bR cI gG=>by
  refine F.Pu u1 (λb o I G9 q=>bR b o (λz=>I (z▸hit)) (λz=>?_) q) (λo q=>cI _ (fX (.head _)) o q) λc U=>?_
  ·refine ah (bA.mp z) λaO gj c2=>?_;subst c2;rcases bI.mp gj with rfl |gj
   ·exact G9 rfl
   ·refine cB (e9 aO gj) λ_ _ eS=>?_;refine ah eS λAM aA hm=>?_;exact I (oc hm)
  ·rcases Ta c U with rfl |⟨kQ,Sv⟩
   ·refine ah gG λo aj cZ=>?_;exact⟨o,aj,cZ,trivial⟩
   ·refine ah (F.p.2 c kQ) λo aj r0=>?_;refine cB (F.pW c.1 (fX kQ)) λ_ eQ _=>?_;refine ah eQ λbZ cR cZ=>?_;rw[aj] at cR;obtain rfl:=bT cR;by_cases hz:c.1∈(env::fr).map (·.locals)
    ·refine aP (cI _ hz o aj) λbQ q=>?_;refine ah (bA.mp hz) λaO gj HQ=>?_;rcases bI.mp gj with rfl |gj
     ·exact absurd HQ.symm (F.F.eg c.1 (.inr (fX kQ))).2.1
     ·refine cB (e9 aO gj) λ_ _ ft=>?_;refine ah ft λAM aA hm=>?_;have Sh:c.2=jD AM:=DB F.p.1 (a:=c.1) kQ (by rw[<-HQ];exact hm);rw[Sh] at r0 ⊢;refine aP r0 λyf fS=>?_;subst fS;exact⟨_,q,.inr λvs=>aA vs,bQ,rfl⟩
    ·exact⟨o,bR _ o Sv hz aj,cZ,r0⟩
 unfold noteFrame;simp only[lr];refine aH (wpAny_field he hd (x:= .none) rfl ?_);rw[aI (by decide)];refine wpAny_newEntry d6 Vj lr he (λb o q=>?_) (Bo e (.head _)) hd (Nat.lt_of_lt_of_eq (Nat.lt_of_sub_eq_succ rfl:1 < 6) rfl) λh' i5=>?_
 ·by_cases I:b∈e::(env::fr).map (·.locals)
  ·rw[Bo b I] at q;injection q
  ·rw[<-qa b I];exact q
 refine eR i5 λdH dh gg jY=>?_;refine Qd gg λVJ vs t WT U2 Iu gJ U1 t1 jr Tv Iw Hc t3=>?_;have ne:∀b o,s.heap.get? b=some o->b≠e:=λb o q z=>by rw[z,Hx] at q;injection q
 have dT:∀b o,b∉(env::fr).map (·.locals)->cX.get? b=some o->b≠e->h'.get? b=some o:=λb o I q UN=>dH b o (by
  rw[qa b λz=>(bI.mp z).elim UN I];exact q)
 have cI:∀b∈(env::fr).map (·.locals),∀o,s.heap.get? b=some o->∃bQ,h'.get? b=some {o with slots:=bQ}:=λb I o q=>by
  refine dK (tC b I) λbZ cR gS bY=>?_;rw[q] at cR;obtain rfl:=bT cR;exact jY b o (up b o bY q) gS
 refine ah mW λpg nW G0=>?_;have Hi:it∉(env::fr).map (·.locals):=λz=>by refine dK (tC it z) λ_ _ _ q=>?_;exact q rfl
 have ite:it≠e:=λz=>by have:=ag.new;rw[<-z,nW] at this;injection this
 have u2:h'.get? it=some pg:=dT it pg Hi (ag.keeps _ _ nW) ite;have bR:∀b o,b≠it->b∉(env::fr).map (·.locals)->s.heap.get? b=some o->h'.get? b=some o:=λb o ab ae q=>dT b o ae (up b o ab q) (ne b o q);refine aE (T h' bR cI ⟨pg,u2,G0⟩) λCk W2=>?_;refine h _ Ck ⟨VJ,Iu,by rw[gJ,iU]⟩ λIr cJ c6 h=>?_;refine wpAny_setFlight_none Iu U1 t1 Iw Hc (Array.getElem?_eq_some_iff.mp t3).1 ?_;have yw:∀b o,s.heap.get? b=some o->b≠it->t≠b:=λb o q vx z=>by
  subst z;by_cases I:t∈(env::fr).map (·.locals)
  ·refine dK (tC t I) λbZ cR gS bY=>?_;refine aP (cI t I bZ cR) λbQ q'=>?_;rw[Iw] at q';obtain rfl:=bT q';exact gS U2 Hc
  ·have:=qa t λz=>(bI.mp z).elim (ne t o q) I;rw[jr,up t o vx q] at this;injection this
 have Uq:t≠it:=λz=>by
  have:=qa t λy=>(bI.mp y).elim Tv λy=>Hi (z▸y);rw[jr,z,ag.keeps _ _ nW] at this;injection this
 obtain⟨CG,VL⟩:=T (h'.update t (Obj.mapFields (·.setIfInBounds 3 .none))) (λb o ab ae q=>by rw[get?_update_other _ _ (yw b o q ab)];exact bR b o ab ae q)
  (λb I o q=>by
   refine aP (cI b I o q) λbQ q'=>?_;refine dK (tC b I) λ_ _ _ bY=>?_;exact⟨bQ,by rw[get?_update_other _ _ (yw b o q bY)];exact q'⟩)
  ⟨pg,by rw[get?_update_other _ _ Uq];exact u2,G0⟩
 exact h _ CG VL
theorem K1{a:Addr}{l:List Addr}(hz:(a,fD l)∈cs)(W:Addr->Prop)(h:Heap)(a0:∀b,(ay cs).J b->W b)(aa:(ay cs).P h)(v:Value)(aq:a6 w h W (.val (.ref a)) v):a6 w h W (.bw (l.map λa=> .val (.ref a))) v:=by
 refine ah (aa.2 _ hz) λo aj a7=>?_;refine aP a7 λk aU=>?_;subst aU;exact⟨a,_,k,aq,a0 a (oc hz),aj,Eh⟩
theorem Jj{a wp:Addr}(hw:s.heap.get? wp=some (nz a))(h:codeAny (model prog w) A (.call (.ref wp) ⟨[],[]⟩) (o8 Q E) s):wpAny (model prog w) A (callWith pos (.ref wp) [] [] []) Q E s:=by
 unfold callWith;refine aH (fY (hu (λx ag=>absurd ag b8) (lS (aH (wpAny_standAt ?_)))));refine aH (m:=keeperOf (.ref wp)) ?_;unfold keeperOf;refine aH (wpAny_load hw ?_);show wpAny _ _ (pure Keeper.machine) _ _ _;refine bu ?_;show wpAny _ _ (call (.ref wp) [] [] >>=_) _ _ _;refine aH (wpAny_call ?_);exact codeAny_mono h λr s' q=>by
  induction r with
  |error e=>exact q
  |ok f=>induction f with
   |ret v=>exact aH (fY (wpAny_point (bu q)))
   |_=>exact q
theorem Ep{eK wp it:Addr}{ad:Str->Addr}(ai:bK n A)(F:bP w s₀ env W₀ aJ ad m (ay cs) s)(ag:m.lookup ("itstack":Str)=some (.val (.ref eK)))(hi:(eK,fD (ws++[wp]))∈cs)(hw:(wp,jG it)∈cs)(hz:ws.length<=1000)
  (h:∀s',Ext s s'->G w s'.heap->codeAny (model prog w) A (.call (.ref wp) ⟨[],[]⟩) (o8 Q E) s'):
  wpAny (model prog w) A (eval (.Call (.Subscript (.Name "itstack" bX) (.UnaryOp .USub (.Constant (.int 1) 0 cf) fU) fG) [] [] iI) env) Q E s:=by
 rw[show eval (.Call (.Subscript (.Name "itstack" bX) (.UnaryOp .USub (.Constant (.int 1) 0 cf) fU) fG) [] [] iI) env=(do callWith iI (<-eval (.Subscript (.Name "itstack" bX) (.UnaryOp .USub (.Constant (.int 1) 0 cf) fU) fG) env) [] [] []) from rfl];have ax:aV prog w n env m (ay cs) (.Subscript (.Name "itstack" bX) (.UnaryOp .USub (.Constant (.int 1) 0 cf) fU) fG) (.val (.ref wp)):=by
  refine aV.item (n8 (aV.name ag (by kernel_rfl)) (K1 hi)) (Ev.R (lN Ev.int)) Typed.bw fN.lookup (C0 (by decide) ?_ ?_ ?_) λ_ _=>rfl
  ·rw[bO,fB];show -((ws.length+1:Nat):Int)<= -1;walk_at"o"
  ·rw[bO,fB,dY];show(ws.map _++[ak.val (.ref wp)])[(-1+((ws.length+1:Nat):Int)).toNat]? =_;rw[show(-1+((ws.length+1:Nat):Int)).toNat=(ws.map λa=>ak.val (.ref a)).length by rw[bO];walk_at"o"];simp
  ·rw[bO,fB];show ws.length+1<=2 ^ 24;walk_at"o"
 refine aH (ax _ A s _ E ai F.F.st F.dq F.p λv au aq az aF=>?_);rw[show v= .ref wp from aq];refine ah ((F.ext az aF).p.2 _ hw) λo aj bk=>?_;subst bk;exact Jj aj (h au az aF)
theorem IV{K:Around->Prop}(bx:∀A,K A->bK n A){eK wp it c:Addr}{l:List Str}{j:Nat}{x:Str}{p:Obj->Prop}{h₀:ExceptHandler}{hs:List ExceptHandler}(ag:m.lookup ("itstack":Str)=some (.val (.ref eK)))(hi:(eK,fD (ws++[wp]))∈cs)(hw:(wp,jG it)∈cs)(hit:(it,iv c j)∈cs)(U:(c,p)∈cs)(aa:∀o,p o->cy l o)(hz:ws.length<=1000)(aN:l[j]? =some x)
  (ar:env.kindOf "node"=some .local) (h:Φ .brk (("node",.str x)::m) (ay (setC cs it (iv c (j+1))))) (jn:swapsWith (.Call (.Subscript (.Name "itstack" bX) (.UnaryOp .USub (.Constant (.int 1) 0 cf) fU) fG) [] [] iI) (some (.Name "node" mZ)) qz.line env=pure false):
  dC prog w K env m (ay cs) (.Try [.Assign [.Name "node" mZ] (.Call (.Subscript (.Name "itstack" bX) (.UnaryOp .USub (.Constant (.int 1) 0 cf) fU) fG) [] [] iI) qz,.Break tU] (h₀::hs) [] [] tX) Φ:=λs₀ W₀ aJ ad A s E ai F=>by
 refine oK λcJ kr=>?_;refine wpAny_Try_except (wpAny_execs_cons (wpAny_Assign_Name (Ep (bx A ai) F ag hi hw hz λau az aF=>?_) jn));have aX:=F.ext az aF;refine fh λfz cE=>?_;refine ah (aX.p.2 _ hw) λih how bz=>?_;subst bz;refine ah (aX.p.2 _ hit) λpg nW b7=>?_;subst b7;refine ah (aX.p.2 _ U) λcP ts Cf=>?_;refine dP (aa cP Cf) λvs k cC bb=>?_;subst cC;obtain⟨v,aq,t,rfl⟩:=(bb.vQ (w:=w) (h:=au.heap) (W:=λ_=>False)).at (i:=j) (p:= .str x) (by rw[eb,aN];rfl);refine cE ?_;refine Ly how nW ts aq λh' bL fv=>?_;refine aE (aX.setC (tk:=au.toks) (p':=iv c (j+1)) hit bL fv Dk rfl) λbp k₂=>?_;refine bp.F.put (p:= .str x) ⟨t,rfl⟩ trivial (.inl ar) λs' aS k'=>?_;refine aE (bp.turn aS k') λdv gh=>?_;exact wpAny_execs_cons (wpAny_Break (kr _ _ ⟨ad,_,_,dv,((bC.ext az).trans k₂).trans gh,h⟩))
theorem zk{a:Addr}{p:Obj->Prop}{R:dW}(h:a∉br R):setC ((a,p)::R) a p'=(a,p')::R:=by
 unfold setC;rw[eE,aQ rfl];congr 1
 conv=>rhs;rw[<-List.map_id R]
 exact g7 λz hz=>aI λe:z.1=a=>h (e▸fX hz)
theorem zr{a b:Addr}{p:Obj->Prop}{R:dW}(h:b≠a):setC ((b,p)::R) a p'=(b,p)::setC R a p':=by
 unfold setC;rw[eE,aI h]
theorem s9:Meth "list" "pop" "list.pop":=⟨PySem.F.plainAttrs_list,PySem.F.slot_list_pop,PySem.F.type_list_pop⟩
theorem EU{l:List Str}{y:Str}(h:je (l++[y]) vs):∃us t,vs=us++[.str y t]/\je l us:=by
 obtain⟨ls,aU,h⟩:=h;subst aU;obtain⟨l₁,l₂,a7,ab,ae⟩:=List.map_eq_append_iff.mp h;subst a7;obtain⟨z,bk,bz⟩:=List.map_eq_singleton_iff.mp ae;subst bk;subst bz;exact⟨strValues l₁,z.2,by unfold strValues;rw[dY];rfl,l₁,rfl,ab⟩
section
variable {prog:Program} {w:World} {n:Nat} {env:Env} {m:Loc} {R:dW} {A:Around} {s:Shared} {E:Value->Shared->Prop} {Φ:dp->Loc->Rs->Prop}
theorem N4{d:Addr}{o:Obj}{ks:List Str}{y:Str}{t:Tok}{Q:Unit->Shared->Prop}(aj:s.heap.get? d=some o)(hd:fs prog w (ks++[y]) o)(hz:ks.length<=1000)
  (h:∀h' bZ,SameBut d s.heap h'->h'.get? d=some bZ->fs prog w ks bZ->Q () {s with heap:=h',toks:=s.toks+1}):wpAny (model prog w) A (delItem (.ref d) (.str y t)) Q E s:=by
 refine ah hd λkvs tE ar=>?_;have gq:s.heap.DictOf (strKind prog w) d kvs:=Heap.dictOf_iff.mpr ⟨o,aj,tE⟩;have bo:(ks++[y]).Nodup:=by refine ta tE λ_ _ _ _ _ _ q=>?_;rw[<-ar];exact q
 have hlen:kvs.length<=sizeLine:=by
  have:=congrArg List.length ar;rw[bO,fB] at this;have ae:sizeLine=2 ^ 24:=rfl;have aC:[y].length=1:=rfl;walk_at"o"
 have hw:(without kvs y).map (·.1)=ks:=by
  refine bj (List.map_eq_append_iff.mp ar) λbR cI b7 ab ae=>?_;subst b7;refine ah (List.map_eq_singleton_iff.mp ae) λz cC c1=>?_;subst cC;subst c1;have aA:z.1∉ks:=λq=>(gL.mp bo).2.2 _ q _ (.head _) rfl;have e:without (bR++[z]) z.1=without bR z.1++without [z] z.1:=j7 ..;have aD:without [z] z.1=[]:=by unfold without;simp
  rw[e,without_of_not_mem bR z.1 (ab▸aA),aD,append_nil,ab]
 unfold delItem
 try with_reducible refine fY ?_
 refine aH (wpAny_sequenceKey gq.typeIs (by decide) ?_);refine aH (wpAny_callSpecial?_slot (name:=Str.ofString "__delitem__") gq.typeIs PySem.F.slot_dict_delitem
  (call_meetsIn PySem.F.slot_dict_delitem gq.typeIs PySem.F.entry_dict_delitem (PySem.F.args_dict_delitem_2 _ _) (meets_dict_delitem_pairs (strKind prog w) d isKey) ⟨kvs,gq,hlen,Js (by rw[ar];exact b9 _ (.head _)),λh' TA hs=>?_⟩))
 refine ah (Heap.dictOf_iff.mp TA) λbZ cR hW=>?_;exact bu (h h' bZ hs cR ⟨_,hW,hw⟩)
theorem EW{x:Str}{p:List Value}{v:Value}{k:Nat}{ad:Str->Addr}{r:Rs}(F:bP w s₀ env W₀ aJ ad m r s)(ao:m.lookup x=some (.val (.ref D)))(hd:(x==("__debug__":Str))=false)(I:attributeBase (.Name x bX) "pop" env (eval (.Name x bX) env)=eval (.Name x bX) env)(gO:(cf.endLine==fU.line)=true)
  (aj:s.heap.get? D=some {cls:= .type "list",data:= .seq ⟨p++[v]⟩ k}) (hz:p.length < sizeLine) (h:∀h',SameBut D s.heap h'->h'.get? D=some {cls:= .type "list",data:= .seq ⟨p⟩ (k+1)}->Q v {s with heap:=h'}):
  wpAny (model prog w) A (eval (.Call (.Attribute (.Name x bX) "pop" cf) [] [] fU) env) Q E s:=by
 refine mv I rfl gO s9.hG s9.slot s9.ty (Et F ao hd ⟨⟨_,aj,rfl⟩,λb q=>by(injection q with bB;subst bB);exact⟨_,aj,rfl⟩,?_⟩);exact lb rfl (hu (λx ag=>absurd ag b8) (lS (pop_at aj hz h)))
theorem Jo{st eK fJ wp it c:Addr}{bQ l:List Str}{y:Str}{j:Nat}{p:Obj->Prop}{qx H7 Vv Vw H8 CD B7 GY Sw:Pos}
  (ag:m.lookup ("itstack":Str)=some (.val (.ref eK))) (BZ:m.lookup ("stack":Str)=some (.val (.ref st))) (nO:m.lookup ("node2stacki":Str)=some (.val (.ref fJ))) (U:(c,p)∈R) (aa:∀o,p o->cy l o) (hz:ws.length<=1000) (WB:bQ.length<=1000) (aN:l[j]? =none)
  (e9:∀e∈fr,rD R e) (lr:env.frame=some env.locals) (TN:env.kindOf "StopIteration"=some .globalImplicit) (gF:interactive env=false) (vI:(qx.endLine==H7.line)=true) (x5:(CD.endLine==B7.line)=true)
  (h:Φ .next m (ay ((st,cy bQ)::(eK,fD ws)::(fJ,fs prog w bQ)::R))) (jn:swapsWith (.Call (.Subscript (.Name "itstack" bX) (.UnaryOp .USub (.Constant (.int 1) 0 cf) fU) fG) [] [] iI) (some (.Name "node" mZ)) qz.line env=pure false) (Rb:swapsWith (.Call (.Attribute (.Name "itstack" H8) "pop" CD) [] [] B7) none GY.line env=pure false):
  dC prog w (qt n (env::fr)) env m (ay ((st,cy (bQ++[y]))::(eK,fD (ws++[wp]))::(fJ,fs prog w (bQ++[y]))::(it,iv c j)::(wp,jG it)::R))
   (.Try [.Assign [.Name "node" mZ] (.Call (.Subscript (.Name "itstack" bX) (.UnaryOp .USub (.Constant (.int 1) 0 cf) fU) fG) [] [] iI) qz,.Break tU]
    [.ExceptHandler (some (.Name "StopIteration" dz)) none [.Delete [.Subscript (.Name "node2stacki" bN) (.Call (.Attribute (.Name "stack" hI) "pop" qx) [] [] H7) Vv] Vw,.Expr (.Call (.Attribute (.Name "itstack" H8) "pop" CD) [] [] B7) GY] Sw] [] [] tX) Φ:=λs₀ W₀ aJ ad A s E ai F=>by
 have de:sizeLine=2 ^ 24:=rfl;refine oK λcJ kr=>?_;refine wpAny_Try_except (wpAny_execs_cons (wpAny_Assign_Name (Ep ai.1 F ag (.tail _ (.head _)) (.tail _ (.tail _ (.tail _ (.tail _ (.head _))))) hz λau az aF=>?_) jn));have aX:=F.ext az aF;have bo:(st::eK::fJ::it::wp::br R).Nodup:=aX.p.1;simp only[nodup_cons,mem_cons,not_or] at bo;refine fh λfz cE=>?_;refine uT bo λc2 eS eQ ft WA SX=>?_;refine F9 c2 λkY Bd IA Vu Ig=>?_;refine eR eS λCo Im U5 Ih=>?_;refine cB eQ λG7 Ts HD=>?_;refine aE ft λUG G4=>?_;refine ah (aX.p.2 (wp,jG it) (.tail _ (.tail _ (.tail _ (.tail _ (.head _)))))) λih how fS=>?_;subst fS;refine ah (aX.p.2 (it,iv c j) (.tail _ (.tail _ (.tail _ (.head _))))) λpg nW gg=>?_;subst gg;refine ah (aX.p.2 _ (.tail _ (.tail _ (.tail _ (.tail _ (.tail _ U)))))) λcP ts Cf=>?_;refine dP (aa cP Cf) λvs k iz bb=>?_;subst iz;refine cE ?_;have TZ:vs[j]? =none:=by
  rw[List.getElem?_eq_none_iff] at aN ⊢;rw[bb.len];exact aN
 refine L3 ai.1.calm how nW ts TZ λh₁ cX e bL mW qe=>?_;have QV:∀e∈fr,rD ((st,cy (bQ++[y]))::(eK,fD (ws++[wp]))::(fJ,fs prog w (bQ++[y]))::(it,iv c j)::(wp,jG it)::R) e:=λe he=>let⟨a1,a2,o,dG,fo⟩:=e9 e he;⟨a1,a2,o,dG,.tail _ (.tail _ (.tail _ (.tail _ (.tail _ fo))))⟩
 refine aX.OG (p3:=(st,cy (bQ++[y]))::(eK,fD (ws++[wp]))::(fJ,fs prog w (bQ++[y]))::(it,λ_=>True)::(wp,jG it)::R) ai.2 QV (by rw[F.F.st.fn];decide) lr (.tail _ (.tail _ (.tail _ (.head _)))) bL mW (λe he q=>?_) qe rfl (λc U=>?_) λef dv bD p6=>?_
 ·refine fh λfz cE=>?_;refine cB (e9 e he) λ_ _ iA=>?_;refine ah iA λo _ fo=>?_;refine cE ?_;have q':e.locals=it:=q;exact G4 (by rw[<-q'];exact oc fo)
 ·rcases bI.mp U with rfl |U
  ·exact .inr ⟨.head _,λq=>IA q⟩
  rcases bI.mp U with rfl |U
  ·exact .inr ⟨.tail _ (.head _),λq=>Im q⟩
  rcases bI.mp U with rfl |U
  ·exact .inr ⟨.tail _ (.tail _ (.head _)),λq=>G7 q⟩
  rcases bI.mp U with rfl |U
  ·exact .inl rfl
  rcases bI.mp U with rfl |U
  ·exact .inr ⟨.tail _ (.tail _ (.tail _ (.tail _ (.head _)))),λq=>UG q.symm⟩
  ·exact .inr ⟨.tail _ (.tail _ (.tail _ (.tail _ (.tail _ U)))),λq=>G4 (by have q':c.1=it:=q;rw[<-q'];exact fX (f:=λz=>z.1) U)⟩
 refine wpAny_handleBy_builtin (X:="StopIteration") (T:="StopIteration") (b:=true) (by rw[isSubtype_type];kernel_rfl) (by rw[isSubtype_type];kernel_rfl) (by rw[isSubtype_type];kernel_rfl) (L1 dv.F.st.fn dv.F.st.gl dv.F.st.bi dv.F.st.g TN (by exact rfl) (by kernel_rfl) (by decide+kernel) (by kernel_rfl) ⟨rfl,bD,?_⟩);rw[aQ rfl];refine p6 _ _ _ λc9 gi mB=>?_;refine fh λfz cE=>?_;refine ah (gi.p.2 (st,cy (bQ++[y])) (.head _)) λos rP oB=>?_;refine dP oB λus ks ll ie=>?_;subst ll;refine dP (EU ie) λkm t oE xF=>?_;subst oE;refine cE ?_;refine wpAny_execs_cons (wpAny_Delete (wpAny_deleteEach_cons (PyProof.Rows.delete_Subscript (Et gi nO (by kernel_rfl) (EW gi BZ (by kernel_rfl) rfl vI rP (by rw[xF.len];exact o2 ‹_› rfl) λh' Qr cR=>?_)))));refine fh λfz cE=>?_;refine aE (gi.setC (tk:=c9.toks) (p':=cy bQ) (.head _) Qr cR nf ⟨km,_,rfl,xF⟩) λiX p1=>?_;rw[zk (by simp only[br,map_cons,mem_cons,not_or];exact⟨kY,Bd,IA,Vu,Ig⟩)] at iX p1;replace iX:=iX;refine ah (iX.p.2 (fJ,fs prog w (bQ++[y])) (.tail _ (.tail _ (.head _)))) λik dw A3=>?_;refine cE ?_;refine N4 dw A3 (by assumption) λhR VY Oi Pp Fy=>wpAny_deleteEach_nil ?_;refine aE (iX.setC (tk:=c9.toks+1) (p':=fs prog w bQ) (.tail _ (.tail _ (.head _))) Oi Pp (De Fy) Fy) λpX F0=>?_;rw[zr Bd,zr Co,zk (by simp only[br,map_cons,mem_cons,not_or];exact⟨G7,Ts,HD⟩)] at pX F0;replace pX:=pX;refine fh λfz cE=>?_;refine ah (pX.p.2 (eK,fD (ws++[wp])) (.tail _ (.head _))) λpg nW ru=>?_;refine aP ru λU8 rE=>?_;subst rE;refine cE ?_;rw[dY] at nW;refine wpAny_execs_cons (wpAny_Expr_any (EW pX ag (by kernel_rfl) rfl x5 nW (by rw[bO];exact o2 ‹_› rfl) λVW Om Pn=>?_) gF Rb);refine aE (pX.setC (tk:=c9.toks+1) (p':=fD ws) (.tail _ (.head _)) Om Pn nf ⟨_,rfl⟩) λGx Gf=>?_;rw[zr kY,zk (by simp only[br,map_cons,mem_cons,not_or];exact⟨Co,Im,U5,Ih⟩)] at Gx Gf;have d1:∀a,(ay ((st,cy bQ)::(eK,fD ws)::(fJ,fs prog w bQ)::R)).J a->(ay ((st,cy bQ)::(eK,fD ws)::(fJ,fs prog w bQ)::(it,λ_=>True)::(wp,jG it)::R)).J a:=λa af=>by
  have jR:a∈st::eK::fJ::br R:=af;show a∈st::eK::fJ::it::wp::br R;simp only[mem_cons] at jR ⊢;rcases jR with q |q |q |q
  ·exact .inl q
  ·exact .inr (.inl q)
  ·exact .inr (.inr (.inl q))
  ·exact .inr (.inr (.inr (.inr (.inr q))))
 obtain⟨Qi,P0⟩:=Gx.drop d1 λh b5=>⟨by
   show(st::eK::fJ::br R).Nodup;simp only[nodup_cons,mem_cons,not_or];exact⟨⟨kY,Bd,Ig⟩,⟨Co,Ih⟩,HD,SX⟩,λc U=>b5.2 c (by
   simp only[mem_cons] at U ⊢;rcases U with q |q |q |q
   ·exact .inl q
   ·exact .inr (.inl q)
   ·exact .inr (.inr (.inl q))
   ·exact .inr (.inr (.inr (.inr (.inr q)))))⟩
 exact wpAny_execs_nil <| kr _ _ ⟨ad,m,_,Qi,(((((bC.ext az).trans mB).trans p1).trans F0).trans Gf).trans P0,h⟩
end
theorem zF:Meth "dict" "values" "dict.values":=⟨PySem.F.plainAttrs_dict,PySem.F.slot_dict_values,PySem.F.type_dict_values⟩
theorem KD{o:Expr}{l:List (Str×Addr)}{d:Addr}(ai:bK n A)(st:St w env W m s.heap)(a0:∀a,(ay cs).J a->W a)(aa:(ay cs).P s.heap)(aj:aV prog w n env m (ay cs) o (.val (.ref d)))(hd:(d,eO w l)∈cs)(jg:(d==sysModules)=false)
  (ha:attributeBase o "values" env (eval o env)=eval o env) (gO:(apos.endLine==pos.line)=true):mx prog w W A s (eval (.Call (.Attribute o "values" apos) [] [] pos) env) (l.map λz=> .val (.ref z.2)):=λR E h=>by
 refine mv ha rfl gO zF.hG zF.slot zF.ty (aj W A s _ E ai st a0 aa λv au aq az aF=>?_);rw[show v= .ref d from aq];have PM:=Rs.ext (r:=ay cs) a0 st.low az aa;refine ah (PM.2 _ hd) λik dw a7=>?_;refine iC a7 λes k aU ab ae aC=>?_;subst aU;have gq:=q6 (prog:=prog) dw ab ae;refine⟨⟨_,dw,rfl⟩,λb q=>by(injection q with bB;subst bB);exact⟨_,dw,rfl⟩,?_⟩;refine lb rfl (hu (λx ag=>absurd ag b8) (lS ?_));refine call_meetsIn PySem.F.slot_dict_values ⟨_,dw,rfl⟩ PySem.F.entry_dict_values (PySem.F.args_dict_values_1 _) (meets_dict_values (strKind prog w) d jg) ⟨⟨_,gq.dictOf⟩,?_⟩
 let aL:Shared:={au with heap:=au.heap.push {cls:= .type "dict_values",data:= .fields #[.ref d]}}
 have aR:Ext au aL:= .push ..;have Aj:aL.heap.DictAt (strKind prog w) d _ k:=gq.push _;refine wpAny_pyIter_values (s:=aL) ⟨_,dc _ rfl,rfl,rfl⟩ Aj ?_;have bY:d≠aL.heap.objs.size:=Nat.ne_of_lt Aj.lt_size;have aW:=Walks.dictValues (prog:=prog) (w:=w) (knd:=strKind prog w) ai.calm aL.heap.objs.size d bY ((l.map (·.1)).zip (es.map (·.val))) k;have ao:((l.map (·.1)).zip (es.map (·.val))).length=l.length:=by
  rw[aC,zw,bO]
 have e:((l.map (·.1)).zip (es.map (·.val))).length=(l.map λz=>ak.val (.ref z.2)).length:=by rw[ao,bO]
 rw[e] at aW;refine h aL _ _ _ _ _ _ (az.trans aR) (aF.push _) (.push ..) ((aF.push _).push _) aW ⟨?_,Aj.push _⟩ (λb I=>?_) (λb I=>?_) (λi h bD b I=>?_) λi u bE=>?_
 ·rw[<-e];exact⟨_,dc _ rfl,rfl,rfl⟩
 ·rw[cQ.mp I];exact eA _
 ·rcases bI.mp I with rfl |I
  ·exact⟨⟨_,dc _ rfl⟩,(aF.push _).fC (eA _)⟩
  ·rw[cQ.mp I];exact⟨⟨_,dZ _ (dZ _ dw)⟩,aF.gf dw eN⟩
 ·rw[cQ.mp I];refine aE bD λbk _=>?_;refine dK bk λo ax aD _=>?_;exact⟨o,ax,.inl (by rw[aD];intro q;injection q with q;exact absurd q (by decide))⟩
 ·refine aP bE λy av=>?_;rw[aC,zw,eb] at av;refine ah (h7.mp av) λz hz q=>?_;cases q
  exact⟨.val (.ref z.2),by rw[eb,hz];rfl,rfl⟩
theorem I5{iter:Expr}{x:Str}{f:ak->ak}{c:Bool}{sc:Scope}{l:List Str}(aq:∀y p,m.lookup y=some p->∃u,p= .val u)(a9:c5 env sc)
  (src:∀(W:Addr->Prop) (A:Around) (s:Shared),bK n A->St w env W m s.heap->(∀a,(ay cs).J a->W a)->(ay cs).P s.heap->mx prog w W A s (eval iter env) ps) (S:i6 scope sc x c)
  (gn:∀y p,mf.lookup y=some p->m.lookup y=some p/\scope.names.lookup y=some .free) (hz:ps.length<=sizeLine) (cN:∀p∈ps,t p=true->cb (f p))
  (tests:∀p∈ps,∀cenv,c5 cenv scope->om prog w n cenv ((x,p)::mf) (ay cs).J (ay cs).P ifs (t p)) (elts:∀p∈ps,t p=true->∀cenv,c5 cenv scope->aV prog w n cenv ((x,p)::mf) (ay cs) elt (f p))
  (hs:∀v,foldedSetIterable iter env v=pure v) (ao:(ps.filter t).map f=aB l):fi prog w n env m (ay cs) (.ListComp elt [⟨.Name x px,iter,ifs,0⟩] scope pos) (λp r'=>∃D,p= .val (.ref D)/\r'=ay (cs++[(D,cy l)])):=λs₀ W₀ aJ ad A s Q E ai F a4=>by
 have low:eI (λa=>(∃o,s.heap.get? a=some o/\cx o)/\¬cc a) s.heap:=λa h=>h;have st:St w env (λa=>(∃o,s.heap.get? a=some o/\cx o)/\¬cc a) m s.heap:=⟨F.F.st.fn,F.F.st.gl,F.F.st.bi,F.F.st.g,low,F.F.st.nl,F.F.st.cZ,λy p av=>by
  refine ah (F.F.st.has y p av) λv ab ae=>?_;refine aP (aq y p av) λu bz=>?_;subst bz;exact⟨v,ab,ae⟩⟩
 have a0:∀a,(ay cs).J a->((∃o,s.heap.get? a=some o/\cx o)/\¬cc a):=λa af=>(F.pW a af).2;refine Ec ai st a0 (λh h' k p=>(ay cs).st h h' (λb o I e=>k b o (a0 b I).2 e) p) F.p a9 (src _ A s ai st a0 F.p) S gn hz cN tests (λp aa aM cenv dR=>elts p aa aM cenv dR) hs λv s' aq e g=>?_;rw[ao] at aq;refine cg aq λa vs k b7 aW aj bb=>?_;subst b7;have aA:s.heap.get? a=none:=by
  induction q:s.heap.get? a with
  |none=>rfl
  |some o=>
   have aM:=g.gf aj eN;have:=e.keep a o aM q;rw[aj] at this;obtain rfl:=bT this;exact absurd ⟨⟨_,q,nf⟩,aM⟩ aW
 refine aE (F.nF (p:=cy l) e g aA aj nf ⟨vs,k,rfl,je.of bb⟩) λaS k'=>?_;exact a4 (.val (.ref a)) _ _ _ aS k' rfl trivial ⟨a,rfl,rfl⟩
theorem MZ{α:Type}(l:List α):(range l.length).filterMap (λk=>l[l.length - 1 - k]?)=l.reverse:=by
 have e:(range l.length).map (λk=>l[l.length - 1 - k]?)=l.reverse.map some:=by
  refine ext_getElem? λi=>?_;rw[eb,eb];rcases Nat.lt_or_ge i l.length with h |h
  ·have aN:l.length - 1 - i < l.length:=by walk_at"o"
   rw[getElem?_range h,getElem?_reverse h,map_some,cm aN];rfl
  ·rw[getElem?_eq_none (by rw[length_range];exact h),getElem?_eq_none (by rw[length_reverse];exact h)];rfl
 have:=congrArg (filterMap _root_.id) e;rw[filterMap_map,filterMap_map] at this;rw[show(λk=>l[l.length - 1 - k]?)=_root_.id∘(λk=>l[l.length - 1 - k]?) from rfl,this];exact filterMap_some
theorem Mj{α β:Type}{f g:α->Option β}:∀{L:List α},(∀k∈L,f k=g k)->L.filterMap f=L.filterMap g:=by
 intro ba;induction ba with
 |nil=>
  intro _;exact rfl
 |cons a L aw=>
  intro h;rw[filterMap_cons,filterMap_cons,h a (.head _),aw λk ar=>h k (.tail _ ar)]
theorem II{bQ:Addr}{Q:Int×Int×Nat->Shared->Prop}(hs:s.heap.IsSliceOf bQ .none .none (.int (-1) u))(h:Q ((n:Int) - 1,-1,n) s):
  wpAny (model prog w) A (Builtin.Slice.sliceApplied (.ref bQ) (pure (n:Int))) Q E s:=by
 refine dK (_root_.id hs) λos rP vu Bn=>?_;unfold Builtin.Slice.sliceApplied Builtin.Slice.sliceFields;refine aH (aH (wpAny_field rP Bn (x:= .none) rfl (aH (wpAny_field rP Bn (x:= .none) rfl (aH (wpAny_field rP Bn (x:= .int (-1) u) rfl (bu ?_)))))));refine aH (PyProof.Rows.slicePart_int ?_);show wpAny _ _ (if((-1:Int)==0)=true then _ else _) _ _ s;rw[aI (by decide)];refine aH (PyProof.Rows.slicePart_none (aH (PyProof.Rows.slicePart_none (aH (bu ?_)))));show wpAny _ _ (match Builtin.Slice.sliceAdjust none none (-1) (n:Int) with |(lo,hi)=>pure (lo,(-1:Int),Builtin.Slice.slicePlaces lo hi (-1))) _ _ s;have ax:Builtin.Slice.sliceAdjust none none (-1) (n:Int)=((n:Int) - 1,-1):=rfl;have aD:Builtin.Slice.slicePlaces ((n:Int) - 1) (-1) (-1)=n:=by
  unfold Builtin.Slice.slicePlaces;have ab:¬((-1:Int) > 0):=by walk_at"o"
  simp only[ab,if_false];rw[show(-(-1):Int)=1 from rfl,Int.ediv_one];split<;>walk_at"o"
 rw[ax];show wpAny _ _ (pure ((n:Int) - 1,(-1:Int),Builtin.Slice.slicePlaces ((n:Int) - 1) (-1) (-1))) _ _ s;rw[aD];exact bu h
theorem IE{t bQ:Addr}{items:List Value}{k:Nat}(aM:s.heap.get? t=some {cls:= .type "tuple",data:= .seq ⟨items⟩ k})(hs:s.heap.IsSliceOf bQ .none .none (.int (-1) u))
  (h:Q (.ref s.heap.objs.size) {s with heap:=s.heap.push {cls:= .type "tuple",data:= .seq ⟨items.reverse⟩}}) (hC:items.length<=sizeLine):wpAny (model prog w) A (getItem (.ref t) (.ref bQ)) Q E s:=by
 have bD:s.TypeIs (.ref t) "tuple":=⟨_,aM,rfl⟩
 have S7:s.TypeIs (.ref bQ) "slice":=dK hs λos rP vu _=>⟨os,rP,vu⟩
 unfold getItem
 try with_reducible refine fY ?_
 first |refine aH (bu ?_) |skip
 refine aH (wpAny_sequenceKey bD (by decide) ?_);refine aH (wpAny_callSpecial?_slot (name:=Str.ofString "__getitem__") bD PySem.F.slot_tuple_getitem
  (wpAny_call_entry PySem.F.slot_tuple_getitem bD PySem.F.entry_tuple_getitem ?_ (PySem.F.args_tuple_getitem_2 _ _)))
 show wpAny _ _ (Builtin.Tuple.tupleItemsOf (.ref t) >>=_) _ _ s;refine aH (PyProof.Rows.tupleItemsOf_ ⟨_,aM,rfl,_,rfl⟩ ?_);refine aH (wpAny_typeOf S7 ?_);rw[aQ (by decide)];refine aH (II hs ?_);show wpAny _ _ (if(((items.length:Int) - 1)==0&&(-1:Int)==1&&items.length==items.length)=true then _ else _) _ _ s;rw[aI (by walk_at"o")];have e:((range items.length).filterMap λ(k:Nat)=>(⟨items⟩:Array Value)[(((items.length:Int) - 1)+(k:Int)* -1).toNat]?).toArray=⟨items.reverse⟩:=by
  rw[<-MZ];refine congrArg List.toArray (Mj λk ar=>?_);rw[show(((items.length:Int) - 1)+(k:Int)* -1).toNat=items.length - 1 - k by have:=j6.mp ar;walk_at"o"];simp
 show wpAny _ _ (do return<-ret (<-Builtin.Tuple.tupleExact ((range items.length).filterMap λ(k:Nat)=>(⟨items⟩:Array Value)[(((items.length:Int) - 1)+(k:Int)* -1).toNat]?).toArray)) _ _ s;rw[e];have xl:sizeOk (.seq (⟨items.reverse⟩:Array Value)):=by show items.reverse.length<=_;rw[length_reverse];exact hC
 first
  |exact aH (m:=Builtin.Tuple.tupleExact _) (iq (bu ⟨_,rfl,bu h⟩) xl)
  |exact aH (m:=Builtin.Tuple.tupleExact _) (iq (aH (bu (bu ⟨_,rfl,bu h⟩))) xl)
  |exact aH (aH (m:=Builtin.Tuple.tupleExact _) (iq (bu (bu ⟨_,rfl,bu h⟩)) xl))
  |exact aH (aH (m:=Builtin.Tuple.tupleExact _) (iq (bu ⟨_,rfl,bu h⟩) xl))
theorem IT{v:Expr}{r:Rs}{l:List Str}{Ψ:Rs->Prop}(he:fi prog w n env m r v (λp r'=>p= .tup (aB l)/\Ψ r'))(hz:l.length<=sizeLine):
  fi prog w n env m r (.Subscript v (.Slice none none (some (.UnaryOp .USub (.Constant (.int 1) 0 bX) cf)) sp) pos) (λp r'=>p= .tup (aB l.reverse)/\Ψ r'):=λs₀ W₀ aJ ad A s Q E ai F a4=>by
 refine PyProof.Rows.Subscript_ (he s₀ W₀ aJ ad A s _ E ai F λp r' o au aX k₁ aj _ cU=>?_);obtain⟨aU,cU⟩:=cU;subst aU;show wpAny _ _ (do
  let l<-valueOrNone (evalOpt none env)
  let u<-holding [l] (valueOrNone (evalOpt none env))
  let t<-holding [l,u] (valueOrNone (evalOpt (some (.UnaryOp .USub (.Constant (.int 1) 0 bX) cf)) env))
  newFields "slice" [l,u,t]) _ _ _
 have c4:=aX.F.st;refine aH (oh (i:=none) (e:=none) trivial ai c4 λg0 aL e1 aR aY=>aH (fY (oh (i:=none) (e:=none) trivial ai (c4.ext aR aY) λg5 ef pu ee e4=>aH (fY (oh (i:=some (-1)) (e:=some _) (lN Ev.int) ai ((c4.ext aR aY).ext ee e4) λi3 c9 pt jI nC=>?_)))));refine iq ?_ (by show(3:Nat)<=_;decide);have kg:Ext c9 {c9 with heap:=c9.heap.push {cls:= .type "slice",data:= .fields [g0,g5,i3].toArray}}:= .push ..;have jM:=nC.push {cls:= .type "slice",data:= .fields [g0,g5,i3].toArray};have ax:=((aR.trans ee).trans jI).trans kg;have rU:=aj.ext c4.g ax;have de:(c9.heap.push {cls:= .type "slice",data:= .fields [g0,g5,i3].toArray}).IsSliceOf c9.heap.objs.size g0 g5 i3:= .new ..;refine cg rU λadr us k a7 aW iW ie=>?_;subst a7;cases e1
 cases pu
 cases pt
 rename_i u;refine PyProof.Rows.tail_any ⟨_,iW,rfl⟩ PySem.F.slot_tuple_getitem.lookup (IE iW de ?_ (by rw[<-ie.len,cz];exact hz)) rfl;have lq:Ext c9 _:=kg.trans (.push _ {cls:= .type "tuple",data:= .seq ⟨us.reverse⟩});have pX:=aX.ext (((aR.trans ee).trans jI).trans lq) (jM.push _);refine a4 (.tup (aB l.reverse)) r' _ _ pX (k₁.trans (.ext (((aR.trans ee).trans jI).trans lq))) ?_ (show dB _ from d9) ⟨rfl,cU⟩;refine⟨_,us.reverse,0,rfl,?_,dc _ rfl,?_⟩
 ·exact(aX.ext ax jM).F.st.low.fresh
 ·refine ah (je.of ie) λls bk ao=>?_;subst bk;exact je.vQ ⟨ls.reverse,by unfold strValues;rw[map_reverse],by rw[map_reverse,ao]⟩
section
variable {prog:Program} {w:World} {n:Nat} {env:Env} {m:Loc} {r:Rs} {cs G:dW} {Φ:dp->Loc->Rs->Prop}
theorem JR{l:List ak}(hz:l.length+l'.length<=sizeLine):cA prog w (binaryOp .Add) (.bw l) (.list l') (.list (l++l')):=λW A s _ _ Q E r g low fy hX h=>by
 refine cg fy λa vs n e aW aj hs=>?_;refine cg hX λb us k aO qm cR eH=>?_;subst e aO;have hC:(⟨vs⟩:Array Value).size+(⟨us⟩:Array Value).size<=sizeLine:=by show vs.length+us.length<=_;rw[<-hs.len, <-eH.len];exact hz
 refine concat_meets ⟨_,aj,rfl⟩ ⟨_,cR,rfl⟩ noFill_list_add seq_list_add PySem.F.slot_list_add PySem.F.entry_list_add (PySem.F.args_list_add_2 _ _) (PyProof.Rows.list_addW a b ⟨vs⟩ ⟨us⟩ n k none none #[] #[] hC) ⟨aj,cR,?_⟩;refine h _ _ ⟨_,vs++us,0,rfl,low.fresh,?_,(hs.app eH).mono λb o U e=>dZ _ e⟩ (.push ..) (g.push _);have e:(⟨vs⟩:Array Value)++⟨us⟩=⟨vs++us⟩:=by simp
 rw[e];exact dc _ rfl
theorem Kw{o:Expr}{a:Addr}{l:List Str}{y:Str}(aj:aV prog w n env m (ay cs) o (.val (.ref a)))(af:(a,cy (l++[y]))∈cs)(hz:l.length<=1000)
  (ha:attributeBase o "pop" env (eval o env)=eval o env) (gO:(apos.endLine==pos.line)=true):fi prog w n env m (ay cs) (.Call (.Attribute o "pop" apos) [] [] pos) (λp r'=>p= .str y/\r'=ay (setC cs a (cy l))):=λs₀ W₀ aJ ad A s Q E ai F a4=>by
 refine mv ha rfl gO s9.hG s9.slot s9.ty (aj _ A s _ E ai F.F.st F.dq F.p λv au aq az aF=>?_);rw[show v= .ref a from aq];have aX:=F.ext az aF;refine ah (aX.p.2 _ af) λob gD a7=>?_;refine dP a7 λvs k aU bb=>?_;subst aU;refine⟨⟨_,gD,rfl⟩,λb q=>by(injection q with bB;subst bB);exact⟨_,gD,rfl⟩,?_⟩;refine dP (EU bb) λus t bk ie=>?_;subst bk;refine lb rfl (hu (λx ag=>absurd ag b8) (lS (pop_at gD (by rw[ie.len];have:sizeLine=2 ^ 24:=rfl;exact o2 ‹_› rfl) λh' bL cR=>?_)));refine aE (aX.setC (tk:=au.toks) (p':=cy l) af bL cR nf ⟨us,_,rfl,ie⟩) λbp k₂=>?_;exact a4 (.str y) _ _ _ bp ((bC.ext az).trans k₂) ⟨t,rfl⟩ trivial ⟨rfl,rfl⟩
theorem IX{o e:Expr}{a:Addr}{l:List Str}(aj:aV prog w n env m (ay cs) o (.val (.ref a)))(af:(a,cy l)∈cs)(he:fi prog w n env m (ay cs) e Ψ)
  (h:∀p r',Ψ p r'->∃l' cs',p= .tup (aB l')/\b0 r' (ay cs')/\(a,cy l)∈cs'/\l.length+l'.length<=1000/\Φ .next m (ay (setC cs' a (cy (l++l')))))
  (cv:(starEach [e] env).any (·.1)=false) (BH:starEach [e] env=[(false,eval e env)])
  (ha:attributeBase o "extend" env (eval o env)=eval o env)
  (jf:((backTo pos (starEach [e] env)).all (λx=> !x.1)&&(backToKw pos (keywordEach [] env)).all (λx=>x.1.isSome)&&decide ([e].length+([]:List Keyword).length+(if([]:List Keyword).isEmpty then 0 else 1) < 30))=true)
  (gO:(apos.endLine==pos.line)=true) (hi:interactive env=false) (hs:swapsWith (.Call (.Attribute o "extend" apos) [e] [] pos) none f5.line env=pure false):
  ek prog w n env m (ay cs) (.Expr (.Call (.Attribute o "extend" apos) [e] [] pos) f5) Φ:=λs₀ W₀ aJ ad A s E ai F=>by
 refine wpAny_Expr_any ?_ hi hs;refine mv ha jf gO w2.hG w2.slot w2.ty (aj _ A s _ E ai F.F.st F.dq F.p λv au aq az aF=>?_);rw[show v= .ref a from aq];have aX:=F.ext az aF;refine ah (aX.p.2 _ af) λob gD b7=>?_;refine dP b7 λPL GL bz _=>?_;subst bz;refine⟨⟨_,gD,rfl⟩,λb q=>by(injection q with bB;subst bB);exact⟨_,gD,rfl⟩,?_⟩;have I:=jz (pos:=pos) cv;refine lb (kA I) (hu I (sJ BH (he s₀ W₀ aJ ad A au _ E ai aX λp r' v aL bp k₂ aq e0 cU=>?_)));refine ta (h p r' cU) λl' cs' cC le jR hz hT=>?_;subst cC;have pS:=bp.le le;rw[le.vW] at k₂;refine cg aq λb us k c1 yd I ie=>?_;subst c1;refine ah (pS.p.2 _ jR) λFv oq eS=>?_;refine dP eS λvs k₁ c2 bb=>?_;subst c2;have vI:=bb.len;have x5:=(je.of ie).len;have de:sizeLine=2 ^ 24:=rfl;refine call_meets PySem.F.slot_list_extend ⟨_,oq,rfl⟩ PySem.F.entry_list_extend (PySem.F.args_list_extend_2 _ _) (AutoSeq1.list_extend_list_tuple_0 a ⟨vs⟩ k₁ b ⟨us⟩ k ?_ (by show vs.length<=_;walk_at"o") (by show vs.length+us.length<=_;walk_at"o")) ⟨oq,I,?_⟩
 ·have:Builtin.List.listTooLong ((⟨vs⟩:Array Value).size+(⟨us⟩:Array Value).size)=false:=by
   show Builtin.List.listTooLong (vs.length+us.length)=false;unfold Builtin.List.listTooLong;walk_at"o"
  rw[this];walk_at"o"
 have bL:SameBut a aL.heap (aL.heap.update a (Obj.mapSeq λx=>x++⟨us⟩)):= .update ..;have cR:∃cI,(aL.heap.update a (Obj.mapSeq λx=>x++⟨us⟩)).get? a=some {cls:= .type "list",data:= .seq ⟨vs++us⟩ cI}:=by
  rw[get?_update_self _ oq rfl];refine aP (DR (λx=>x++⟨us⟩) (.type "list") ⟨vs⟩ k₁) λcI q=>?_;exact⟨cI,by rw[q];simp⟩
 refine aP cR λcI cR=>?_;refine ah bb λdH eQ ab=>?_;subst eQ;refine ah (je.of ie) λdh ft ae=>?_;subst ft;refine aE (pS.setC (tk:=aL.toks) (p':=cy (l++l')) jR bL cR nf ⟨_,_,rfl,dH++dh,by unfold strValues;rw[dY],by rw[dY,ab,ae]⟩) λdv gh=>?_;exact⟨ad,m,_,dv,((bC.ext az).trans k₂).trans gh,hT⟩
theorem Jg{K:Around->Prop}(inv:Nat->Loc->Rs->Prop)(k:Nat)(h0:inv k m r)(cv:∀whole,isTrue test env whole=(do let v<-whole;standAt test.pos;holding [v] (truthy v)))
  (turn:∀k m' r',inv k m' r'->jJ prog w K env m' r' test (λp AA=>∃b,p= .bool b/\(b=true->bt prog w K env m' AA body (ql (λdF eY=>∃k',k' < k/\inv k' dF eY) Φ))/\(b=false->bt prog w K env m' AA orelse Φ))):
  dC prog w K env m r (.While test body orelse pos) Φ:=λs₀ W₀ aJ ad A s E ai F=>by
 refine wpAny_While (codeAny_whileLoop (λk s'=>∃a3 m' r',bP w s₀ env W₀ aJ a3 m' r' s'/\inv k m' r'/\bC (cD env m ad r) (cD env m' a3 r') s s') ?_ k ⟨ad,m,r,F,h0,.refl _ s⟩);intro k s' dg;refine tu λc6=>oK λcJ kr=>?_;refine gA dg λa3 m' r' aS hi kO=>?_;rw[cv];refine aH (turn k m' r' hi s₀ W₀ aJ a3 A s' _ _ ai aS λp AA v aL bp k₂ aq _ cU=>?_);refine dK cU λb fS I aA=>?_;subst fS;rw[show v= .bool b from aq];refine aH (wpAny_standAt (fY (mu ?_)));refine kr _ _ ?_;induction b with
 |true=>
  simp only[if_true];refine dV (I rfl s₀ W₀ aJ a3 A aL _ ai bp) (λf ef o=>?_) λ_ _ e=>e;have oo:=kO.trans k₂;induction f with
  |next=>refine gA o λmV js jw hF gG gg=>?_;refine ah gg λk' cj jQ=>?_;exact⟨k',cj,mV,js,jw,hF,jQ,oo.trans gG⟩
  |cont=>refine gA o λmV js jw hF gG iz=>?_;refine ah iz λk' cj jQ=>?_;exact⟨k',cj,mV,js,jw,hF,jQ,oo.trans gG⟩
  |brk=>refine gA o λmV js jw hF gG jQ=>?_;exact⟨mV,js,jw,hF,oo.trans gG,jQ⟩
  |ret v=>exact jL.pre oo (f:= .ret v) o
 |false=>
  simp only[Bool.false_eq_true,if_false];refine dV (aA rfl s₀ W₀ aJ a3 A aL _ ai bp) (λf ef o=>?_) λ_ _ e=>e;exact jL.pre (kO.trans k₂) o
theorem eX.frame{f:Addr}{kl:ak->dW->Prop}(h:eX prog w n f args (ay cs) Ψ)(cU:∀p r',Ψ p r'->∃cs',b0 r' (ay cs')/\kl p cs'):eX prog w n f args (ay (cs++G)) (λp r'=>∃cs',r'=ay (cs'++G)/\kl p cs'):=λs₀ s W₀ aJ A vs Q E ai same keep dM g low a0 fV aa bb a4=>by
 have fm:∀cs':dW,br (cs'++G)=br cs'++br G:=λcs'=>dY ..;have bo:(br cs++br G).Nodup:=fm cs▸aa.1;refine cB (gL.mp bo) λrI xO He=>?_;have gF:∀{cs':dW} {a},a∈br (cs'++G)↔a∈br cs'\/a∈br G:=λ{cs' a}=>by rw[fm];exact dk
 have t8:∀cs':dW,(λa=>W₀ a\/(aJ a\/(ay (cs'++G)).J a))=λa=>W₀ a\/((aJ a\/a∈br G)\/(ay cs').J a):=λcs'=>funext λa=>propext (by
  show(W₀ a\/(aJ a\/a∈br (cs'++G)))↔(W₀ a\/((aJ a\/a∈br G)\/a∈br cs'));rw[gF];constructor
  ·rintro(q |q |q |q)
   ·exact .inl q
   ·exact .inr (.inl (.inl q))
   ·exact .inr (.inr q)
   ·exact .inr (.inl (.inr q))
  ·rintro(q |(q |q) |q)
   ·exact .inl q
   ·exact .inr (.inl q)
   ·exact .inr (.inr (.inr q))
   ·exact .inr (.inr (.inl q)))
 have x9:∀a,a∈br G->s₀.heap.get? a=none/\(∃o,s.heap.get? a=some o/\cx o)/\¬cc a:=λa af=>a0 a (.inr (gF.mpr (.inr af)));refine h s₀ s W₀ (λa=>aJ a\/a∈br G) A vs Q E ai same keep dM g low (λa af=>?_) (λa af q=>?_) ⟨rI,λc U=>aa.2 c (b6 _ U)⟩ (t8 cs▸bb) λp v r' s' QC aq e0 B=>?_
 ·rcases af with(af |af) |af
  ·exact a0 a (.inl af)
  ·exact x9 a af
  ·exact a0 a (.inr (gF.mpr (.inl af)))
 ·rcases af with af |af
  ·exact fV a af (gF.mpr (.inl q))
  ·exact He a q a af rfl
 ·refine ah (cU p r' QC) λcs' le QS=>?_;have sq:=B.le le;have CJ:∀a∈br G,∀o,s.heap.get? a=some o->s'.heap.get? a=some o/\a∉br cs':=λa af o e=>sq.k a o (λq=>He a q a af rfl) (x9 a af).2.2 e;refine a4 p v (ay (cs'++G)) s' ⟨cs',rfl,QS⟩ ?_ e0 ⟨sq.ext,sq.g,⟨?_,λc U=>?_⟩,λa af=>?_,λb o I aM e=>?_⟩
  ·rw[t8];have:r'.J=(ay cs').J:=funext λa=>propext (le.1 a);rw[<-this];exact aq
  ·rw[fm];refine gL.mpr ⟨sq.p.1,xO,λa af b I q=>?_⟩;subst q;refine cB (x9 a I) λ_ iA _=>?_;refine ah iA λo e _=>?_;exact(CJ a I o e).2 af
  ·rcases dk.mp U with U |U
   ·exact sq.p.2 c U
   ·refine ah (aa.2 c (b9 _ U)) λo e q=>?_;exact⟨o,(CJ c.1 (fX U) o e).1,q⟩
  ·rcases gF.mp af with af |af
   ·exact sq.j a af
   ·refine cB (x9 a af) λab ll aC=>?_;refine ah ll λo e cZ=>?_;exact⟨ab,⟨o,(CJ a af o e).1,cZ⟩,aC⟩
  ·refine aE (sq.k b o (λq=>I (gF.mpr (.inl q))) aM e) λku h5=>?_;exact⟨ku,λq=>(gF.mp q).elim h5 λq=>I (gF.mpr (.inr q))⟩
end
theorem Lu{x dx f:Addr}{kv:List (Str×ak)}{name:Str}{es:List DictEntry}{k:Nat}(X:(KF w).In s.heap)(ag:s.heap.get? x=some ⟨.ref C,some dx,.plain,bQ⟩)(hd:s.heap.get? dx=some (dictOf es k))(af:jb kv es)
  (iU:hasDictIn (KF w) C=true) (dj:plainGet (KF w) C name=true) (hf:findIn (KF w) (.ref C) name=some (some (.ref f))) (jj:isFn (KF w) (.ref f)=true) (Ca:specialIn (KF w) (.ref f) "__get__"=some (some (.builtin "function.__get__"))) (aM:takesIn (KF w) (.ref f)=some false) (U:copiedNames.contains name=false) (fT:kv.lookup name=none)
  (h:Q (.ref s.heap.objs.size) {s with heap:=s.heap.push (methodObj (.ref f) (.ref x)),toks:=s.toks+1}):wpAny (model prog w) A (getAttr (.ref x) name true) Q E s:=by
 have bh:InstAt s.heap x ⟨.ref C,some dx,.plain,bQ⟩ C (some (dictOf es k)):=⟨ag,rfl,rfl,hd⟩
 have ao:=af.get name;rw[fT] at ao;exact PySem.W.get_bind X bh (plainGet_of dj).1 (findObj_fn iU hf Ca aM U (by show lookIn name (dictOf es k)=_;rw[lookIn_dict];exact ao)) (plainGet_of dj).2
  (wpAny_call (fn_get (s:={s with toks:=s.toks+1}) X (gz.mp jj) (handed_on rfl h)))
theorem Jm{q f x:Addr}{o:Obj}{args:List (Bool×Sem Value)}(Py:args.any (·.1)=true)
  (h:wpAny (model prog w) A (evalArgs (.ref q) true args []) (λa au=>au.heap.get? q=some (methodObj (.ref f) (.ref x))/\au.heap.get? f=some o/\o.data= .func fd/\wpAny (model prog w) A (call (.ref q) a.pos a.kw) Q E au) E s):wpAny (model prog w) A (callWith pos (.ref q) [] args []) Q E s:=by
 unfold callWith;refine aH (fY (dV h (λa au h₁=>aH (wpAny_standAt ?_)) λ_ _ x=>x));refine eR h₁ λab ae aC bc=>?_;refine aH (m:=keeperOf (.ref q)) ?_;unfold keeperOf;refine aH (wpAny_load ab ?_);show wpAny _ _ (load f >>=_) _ _ _;refine aH (wpAny_load ae ?_);rw[aC];refine bu ?_;rw[Py];exact aH (wpAny_operating (dV bc (λr aL bf=>aH (fY (wpAny_point (bu bf)))) λ_ _ x=>x))
theorem IS{o:Expr}{name:Str}{x dx f:Addr}{kv:List (Str×ak)}{of:Obj}(aj:aV prog w n env m (ay cs) o (.val (.ref x)))(ag:(x,fZ C dx)∈cs)(hd:(dx,c8 kv)∈cs)
  (iU:hasDictIn (KF w) C=true) (dj:plainGet (KF w) C name=true) (hf:findIn (KF w) (.ref C) name=some (some (.ref f))) (jj:isFn (KF w) (.ref f)=true) (Ca:specialIn (KF w) (.ref f) "__get__"=some (some (.builtin "function.__get__"))) (aM:takesIn (KF w) (.ref f)=some false) (U:copiedNames.contains name=false) (fT:kv.lookup name=none) (oX:(KF w).lookup f=some of) (oU:of.data= .func fd)
  (af:dd prog w n env m (ay cs) pos es ps) (jl:dB ps) (hm:eX prog w n f (.val (.ref x)::ps) (ay cs) Ψ) (cv:backTo pos (starEach es env)=[]\/∃x r,backTo pos (starEach es env)=(false,x)::r) (Qw:(backTo pos (starEach es env)).any (·.1)=true)
  (ha:attributeBase o name env (eval o env)=eval o env) (PG:methodCallForm (es.length+([]:List Keyword).length) (backTo pos (starEach es env)) (backToKw pos (keywordEach [] env))=false):fi prog w n env m (ay cs) (.Call (.Attribute o name apos) es [] pos) Ψ:=λs₀ W₀ aJ ad A s Q E ai F a4=>by
 rw[arm_eval_Call,ha];refine aH (aj _ A s _ E ai F.F.st F.dq F.p λv au aq az aF=>aH (wpAny_standAt ?_));rw[show v= .ref x from aq];have aX:=F.ext az aF;refine fh λfz cE=>?_;refine ah (aX.p.2 _ ag) λjZ hS a7=>?_;refine aP a7 λbQ aU=>?_;subst aU;refine ah (aX.p.2 _ hd) λik dw bz=>?_;refine dP bz λvB k bk mX=>?_;subst bk;refine cE ?_;unfold methodCall;rw[PG];refine aH (fY ?_);show wpAny _ _ (do pure (<-getAttr (.ref x) name true,([]:List Value))) _ _ _;refine aH (Lu aF.K hS dw mX iU dj hf jj Ca aM U fT (bu ?_));have aR:Ext au {au with heap:=au.heap.push (methodObj (.ref f) (.ref x)),toks:=au.toks+1}:= .keeps λb o e=>dZ _ e;have bp:=aX.ext aR (aF.push _);have aG:(au.heap.push (methodObj (.ref f) (.ref x))).get? au.heap.objs.size=some (methodObj (.ref f) (.ref x)):=dc _ rfl;refine aH (bu ?_);refine Jm (f:=f) (x:=x) (o:=of) (fd:=fd) Qw (y2 cv (af _ A _ _ E ai bp.F.st bp.dq bp.p λvs ef bb ee e4=>?_));have dv:=bp.ext ee e4;have Hh:=ee.keep _ _ ((aF.push _).gf aG eN) aG;refine⟨Hh,e4.K _ _ oX,oU,wpAny_call (method_call Hh ?_)⟩;refine dv.callC hm ai ⟨.ref x,vs,rfl,rfl,bb⟩ ⟨trivial,jl⟩ λp r' v s' aS k' aq e0 cU=>?_;exact a4 p r' v s' aS ((((bC.ext az).trans (.ext aR)).trans (.ext ee)).trans k') aq e0 cU
theorem q1:findIn (KF w) (.ref 97) "__setattr__"=some (some (.builtin "object.__setattr__")):=by kernel_rfl
theorem qX:plainOver (KF w) 97=true:=by kernel_rfl
theorem q4:(clsIn (KF w) 97).isSome=true:=by kernel_rfl
theorem q8(name:Str):plainGet (KF w) 97 name=true:=by kernel_rfl
theorem L4:keepIn (KF w) (.ref 97)=true:=by kernel_rfl
theorem KZ:makesIn (KF w) 97=true:=by kernel_rfl
theorem Mw:findIn (KF w) (.ref 97) "__init__"=some (some (.ref 93)):=by kernel_rfl
theorem TU:typeIn (KF w) (.ref 93)=some (.type "function"):=by kernel_rfl
theorem Ma:findIn (KF w) (.ref 97) "node"=some (some (.ref 98)):=by kernel_rfl
theorem wX:findIn (KF w) (.ref 97) "npredecessors"=some (some (.ref 99)):=by kernel_rfl
theorem zo:findIn (KF w) (.ref 97) "successors"=some (some (.ref 100)):=by kernel_rfl
theorem Np:specialIn (KF w) (.ref 98) "__get__"=some (some (.builtin "member_descriptor.__get__")):=by kernel_rfl
theorem w9:specialIn (KF w) (.ref 99) "__get__"=some (some (.builtin "member_descriptor.__get__")):=by kernel_rfl
theorem zD:specialIn (KF w) (.ref 100) "__get__"=some (some (.builtin "member_descriptor.__get__")):=by kernel_rfl
theorem LJ:takesIn (KF w) (.ref 98)=some true:=by kernel_rfl
theorem wK:takesIn (KF w) (.ref 99)=some true:=by kernel_rfl
theorem ze:takesIn (KF w) (.ref 100)=some true:=by kernel_rfl
theorem Ej:slotIn (KF w) 98 97=some 0:=by kernel_rfl
theorem qW:slotIn (KF w) 99 97=some 1:=by kernel_rfl
theorem wI:slotIn (KF w) 100 97=some 2:=by kernel_rfl
theorem K4:takerIn (KF w) 97 "node"=some (some (.ref 98)):=by kernel_rfl
theorem ur:takerIn (KF w) 97 "npredecessors"=some (some (.ref 99)):=by kernel_rfl
theorem Km:takerIn (KF w) 97 "successors"=some (some (.ref 100)):=by kernel_rfl
theorem MG:typeIn (KF w) (.ref 98)=some (.type "member_descriptor"):=by kernel_rfl
theorem uw:typeIn (KF w) (.ref 99)=some (.type "member_descriptor"):=by kernel_rfl
theorem La:typeIn (KF w) (.ref 100)=some (.type "member_descriptor"):=by kernel_rfl
theorem qV:findIn (KF w) (.ref 194) "__setattr__"=some (some (.builtin "object.__setattr__")):=by kernel_rfl
theorem qU:plainOver (KF w) 194=true:=by kernel_rfl
theorem h6:hasDictIn (KF w) 194=true:=by kernel_rfl
theorem hM(name:Str):plainGet (KF w) 194 name=true:=by kernel_rfl
theorem LA:keepIn (KF w) (.ref 194)=true:=by kernel_rfl
theorem Kf:makesIn (KF w) 194=true:=by kernel_rfl
theorem Lx:findIn (KF w) (.ref 194) "__init__"=some (some (.ref 130)):=by kernel_rfl
theorem P7:typeIn (KF w) (.ref 130)=some (.type "function"):=by kernel_rfl
theorem uD:findIn (KF w) (.ref 194) "_node2info"=some none:=by kernel_rfl
theorem uz:findIn (KF w) (.ref 194) "_ready_nodes"=some none:=by kernel_rfl
theorem EN:findIn (KF w) (.ref 194) "_npassedout"=some none:=by kernel_rfl
theorem E4:findIn (KF w) (.ref 194) "_nfinished"=some none:=by kernel_rfl
theorem L7:takerIn (KF w) 194 "_node2info"=some none:=by kernel_rfl
theorem Ez:takerIn (KF w) 194 "_ready_nodes"=some none:=by kernel_rfl
theorem Ee:takerIn (KF w) 194 "_npassedout"=some none:=by kernel_rfl
theorem Eg:takerIn (KF w) 194 "_nfinished"=some none:=by kernel_rfl
theorem LB:findIn (KF w) (.ref 194) "_get_nodeinfo"=some (some (.ref 137)):=by kernel_rfl
theorem KW:findIn (KF w) (.ref 194) "add"=some (some (.ref 144)):=by kernel_rfl
theorem Lv:findIn (KF w) (.ref 194) "prepare"=some (some (.ref 149)):=by kernel_rfl
theorem Lo:findIn (KF w) (.ref 194) "get_ready"=some (some (.ref 156)):=by kernel_rfl
theorem LF:findIn (KF w) (.ref 194) "is_active"=some (some (.ref 163)):=by kernel_rfl
theorem LS:findIn (KF w) (.ref 194) "done"=some (some (.ref 177)):=by kernel_rfl
theorem Lq:findIn (KF w) (.ref 194) "_find_cycle"=some (some (.ref 184)):=by kernel_rfl
theorem N6:isFn (KF w) (.ref 137)=true:=by kernel_rfl
theorem Nt:isFn (KF w) (.ref 144)=true:=by kernel_rfl
theorem NT:isFn (KF w) (.ref 149)=true:=by kernel_rfl
theorem Nd:isFn (KF w) (.ref 156)=true:=by kernel_rfl
theorem Nq:isFn (KF w) (.ref 163)=true:=by kernel_rfl
theorem NF:isFn (KF w) (.ref 177)=true:=by kernel_rfl
theorem NP:isFn (KF w) (.ref 184)=true:=by kernel_rfl
theorem Jv:nsIn (KF w) 3 "_NodeInfo"=some (some (.ref 97)):=by kernel_rfl
theorem Kc:nsIn (KF w) 3 "TopologicalSorter"=some (some (.ref 194)):=by kernel_rfl
theorem EX:nsIn (KF w) 3 "_NODE_OUT"=some (some (.int (-1) 370)):=by kernel_rfl
theorem LZ:nsIn (KF w) 3 "_NODE_DONE"=some (some (.int (-2) 373)):=by kernel_rfl
theorem wC{y:Str}{k z:Int}{c:Addr}:kf (mA y k c) 1 (.int z)=mA y z c:=by
 funext i;unfold kf mA;by_cases ab:i=1
 ·subst ab;rfl
 ·rw[aI ab,aI ab,aI ab]
theorem Mz{x dx:Addr}{y:Str}:eX prog w 2 93 [.val (.ref x),.str y] (ay (base++[(dx,c8 [])]++[(x,hv 97 dx λ_=>none)])) (λp r'=>p= .none/\∃c,b0 r' (ay (base++e3 ⟨y,x,dx,c,0,[],none⟩))):=by
 refine eX.of (args:=[.val (.ref x),.str y]) (names:=["self","node"]) (c:=92) (by exact⟨rfl,rfl,rfl,rfl,rfl,rfl,rfl,ej (by kernel_rfl),rfl,rfl,rfl,kinds_of (by kernel_rfl),rfl,rfl,rfl,by dsimp only,by dsimp only,by kernel_rfl⟩) (by exact rfl) ⟨trivial,trivial,trivial⟩ ?_ ?_
 ·intro W A s vs cJ c6 g low bb a4;have mC:=bb;refine bj bb λv1 _ ax _ aU=>?_;refine bj aU λv2 _ aD _ bW=>?_;subst ax aD;rw[show _=[] from bW] at mC ⊢;exact wpAny_of_eq (a:=([("self",v1),("node",v2)]:List (Str×Value))) (by rfl) (a4 [v1,v2] s mC (.refl s) g)
 intro env a9 ec fE d6;show aZ prog w 1 env [("self",.val (.ref x)),("node",.str y)] _ _ _;have l4:∀{cs:dW} {pos:Pos},aV prog w 1 env [("self",.val (.ref x)),("node",.str y)] (ay cs) (.Name "self" pos) (.val (.ref x)):=aV.name (by walk_at"l") (by kernel_rfl);have step:∀{f:Nat->Option ak} {i:Nat} {p:ak},b0 (ay (setC (base++[(dx,c8 [])]++[(x,hv 97 dx f)]) x (hv 97 dx (kf f i p)))) (ay (base++[(dx,c8 [])]++[(x,hv 97 dx (kf f i p))])):=by
  intro f i p;refine kb (by simp[br]) (by simp) λc U=>?_;rcases dk.mp U with q |q
  ·exact .inr (b6 _ q)
  ·exact .inl (cQ.mp q)
 refine aZ.cons (wu (f:=λ_=>none) (p:= .str y) (q:=c8 []) (dx:=dx) (mem:=98) (i:=0) (aV.name (by walk_at"l") (by kernel_rfl)) trivial l4 (b9 _ (.head _)) (b6 _ (b9 _ (.head _))) q1 qX K4 MG Ej (by decide) (step.ex ?_) rfl);refine aZ.cons (wu (p:= .int 0) (q:=c8 []) (dx:=dx) (mem:=99) (i:=1) (Ev.R Ev.int) trivial l4 (b9 _ (.head _)) (b6 _ (b9 _ (.head _))) q1 qX ur uw qW (by decide) (step.ex ?_) rfl);refine aZ.cons (IH (x:=x) (q:=c8 []) (dx:=dx) (mem:=100) (i:=2) yR q1 qX Km La wI (by decide) ?_ rfl);intro p r' dg;refine ah dg λD dr e6=>?_;subst dr;subst e6;refine⟨trivial,_,_,.refl _,l4,b6 _ (b9 _ (.head _)),b6 _ (b6 _ (b9 _ (.head _))),aZ.nil ⟨rfl,D,?_⟩⟩;have e:kf (kf (kf (λ_=>none) 0 (.str y)) 1 (.int 0)) 2 (.val (.ref D))=mA y 0 D:=by
  funext i;unfold kf mA;by_cases ae:i=2
  ·subst ae;rfl
  ·rw[aI ae];by_cases ab:i=1
   ·subst ab;rfl
   ·rw[aI ab];by_cases h0:i=0
    ·subst h0;rfl
    ·rw[aI h0,aI h0,aI ab,aI ae]
 rw[e];refine kb ?_ ?_ λc U=>?_
 ·simp[br,e3,kN]
 ·simp[e3,kN]
 ·rcases dk.mp U with q |q
  ·exact .inr (by simp[q,kN])
  ·simp only[e3,mem_cons,not_mem_nil,or_false] at q;replace q:=q;rcases q with q |q |q
   ·exact .inr (by simp[q,kN])
   ·exact .inl q
   ·exact .inr (by simp[q,kN])
theorem Mm{x dx:Addr}:eX prog w 2 130 [.val (.ref x)] (ay (base++[(dx,c8 [])]++[(x,fZ 194 dx)])) (λp r'=>p= .none/\∃d,(d==sysModules)=false/\b0 r' (ay (base++bl.cells w ⟨x,dx,d,[],none,0,0⟩))):=by
 refine eX.of (args:=[.val (.ref x),.none]) (names:=["self","graph"]) (c:=129) (by exact⟨rfl,rfl,rfl,rfl,rfl,rfl,rfl,ej (by kernel_rfl),rfl,rfl,rfl,kinds_of (by kernel_rfl),rfl,rfl,rfl,by dsimp only,by dsimp only,by kernel_rfl⟩) (by exact rfl) ⟨trivial,trivial,trivial⟩ ?_ ?_
 ·intro W A s vs cJ c6 g low bb a4;refine bj bb λv1 _ ax ab bW=>?_;subst ax;rw[show _=[] from bW];show wpAny _ _ (seqItems? (.ref 123) >>=_) _ _ _;have Qq:(KF w).lookup 123=some {cls:= .type "tuple",data:= .seq #[.none]}:=by kernel_rfl
  refine aH (wpAny_seqItems (g.K _ _ Qq) rfl ?_);exact wpAny_of_eq (a:=([("self",v1),("graph",.none)]:List (Str×Value))) (by rfl) (a4 [v1,.none] s ⟨v1,_,rfl,ab,.none,_,rfl,rfl,rfl⟩ (.refl s) g)
 intro env a9 ec fE d6;show aZ prog w 1 env [("self",.val (.ref x)),("graph",.none)] _ _ _;have l4:∀{cs:dW} {pos:Pos},aV prog w 1 env [("self",.val (.ref x)),("graph",.none)] (ay cs) (.Name "self" pos) (.val (.ref x)):=aV.name (by walk_at"l") (by kernel_rfl);refine aZ.cons (CU (x:=x) (dx:=dx) I7 qV qU L7 h6 ?_ rfl);intro p r' e8;refine dK e8 λD hV jm gq=>?_;subst hV;subst jm;refine⟨trivial,_,_,.refl _,l4,b6 _ (b9 _ (.head _)),b6 _ (b6 _ (b9 _ (.head _))),by decide,?_⟩
 let C:List (Str×ak)->dW:=λkv=>base++[(x,fZ 194 dx),(dx,c8 kv),(D,eO w [])]
 have l0:b0 (ay (setC (base++[(dx,c8 [])]++[(x,fZ 194 dx)]++[(D,eO w [])]) dx (c8 (iB "_node2info" (.val (.ref D)) [])))) (ay (C [("_node2info",.val (.ref D))])):=by
  have aa:(base++[(dx,c8 [])]++[(x,fZ 194 dx)]++[(D,eO w [])]:dW).Perm (base++[(x,fZ 194 dx),(dx,c8 []),(D,eO w [])]):=by
   rw[h8,h8];exact Perm.append_left _ (.swap _ _ _)
  refine b0.trans (r':=ay (setC (base++[(x,fZ 194 dx),(dx,c8 []),(D,eO w [])]) dx (c8 (iB "_node2info" (.val (.ref D)) [])))) (uG (aa.map _)) ?_;refine kb (by simp[C,br]) (b9 _ (.tail _ (.head _))) λc U=>?_;simp only[C,mem_append,mem_cons,not_mem_nil,or_false] at U ⊢;replace U:=U;rcases U with U |U |U |U
  ·exact .inr (.inl U)
  ·exact .inr (.inr (.inl U))
  ·exact .inl U
  ·exact .inr (.inr (.inr (.inr U)))
 have step:∀{kv rH:List (Str×ak)},b0 (ay (setC (C kv) dx (c8 rH))) (ay (C rH)):=by
  intro kv rH;refine kb (by simp[C,br]) (by simp[C]) λc U=>?_;simp only[C,mem_append,mem_cons,not_mem_nil,or_false] at U ⊢;replace U:=U;rcases U with U |U |U |U
  ·exact .inr (.inl U)
  ·exact .inr (.inr (.inl U))
  ·exact .inl U
  ·exact .inr (.inr (.inr (.inr U)))
 have CL:∀{kv:List (Str×ak)},(x,fZ 194 dx)∈C kv:=by intro kv;exact b9 _ (.head _)
 have Cs:∀{kv:List (Str×ak)},(dx,c8 kv)∈C kv:=by intro kv;simp[C]
 refine l0.ex ?_;refine aZ.cons (yQ (p:= .none) (Ev.R Ev.none) trivial l4 CL Cs (show(1:Nat)<=100 by decide) qV qU Ez h6 (step.ex ?_) rfl);refine aZ.cons (yQ (p:= .int 0) (Ev.R Ev.int) trivial l4 CL Cs (show(2:Nat)<=100 by decide) qV qU Ee h6 (step.ex ?_) rfl);refine aZ.cons (yQ (p:= .int 0) (Ev.R Ev.int) trivial l4 CL Cs (show(3:Nat)<=100 by decide) qV qU Eg h6 (step.ex ?_) rfl);refine aZ.cons (mh (c:=false) (bV.R (bV.cmp (p:= .none) (q:= .none) (by walk_at"e") Ev.none wx (by with_unfolding_all rfl))) (λh=>by injection h) λ_=>aZ.nil (aZ.nil ⟨rfl,D,gq,?_⟩));refine⟨λa=>?_,λh aa=>aa⟩;exact Iff.rfl
def xB(S:bl)(y:Str)(S':bl)(nd:du):Prop:=nd.x=y/\((nd∈S.bq/\S'=S)\/(y∉S.bq.map (·.x)/\nd.np=0/\nd.cO=[]/\nd.pin=none/\S'={S with bq:=S.bq++[nd]}))
theorem fn_get{y:Str}(g:S.Good)(hf:S.bq.length < 100):eX prog w 4 137 [.val (.ref S.a),.str y] (S.R w) (λp r'=>∃S' nd,b0 r' (S'.R w)/\xB S y S' nd/\p= .val (.ref nd.b)):=by
 refine eX.of (args:=[.val (.ref S.a),.str y]) (names:=["self","node"]) (c:=136) (by exact⟨rfl,rfl,rfl,rfl,rfl,rfl,rfl,ej (by kernel_rfl),rfl,rfl,rfl,kinds_of (by kernel_rfl),rfl,rfl,rfl,by dsimp only,by dsimp only,by kernel_rfl⟩) (by exact rfl) ⟨trivial,trivial,trivial⟩ ?_ ?_
 ·intro W A s vs cJ c6 g low bb a4;have mC:=bb;refine bj bb λv1 _ ax _ a7=>?_;refine bj a7 λv2 _ aD _ bW=>?_;subst ax aD;rw[show _=[] from bW] at mC ⊢;exact wpAny_of_eq (a:=([("self",v1),("node",v2)]:List (Str×Value))) (by rfl) (a4 [v1,v2] s mC (.refl s) g)
 intro env a9 ec fE d6;show aZ prog w 3 env [("self",.val (.ref S.a)),("node",.str y)] _ _ _;have G8:∀{cs:dW} {m:Loc} {bX cf:Pos},bM m "self" (.val (.ref S.a))->(S.a,fZ 194 S.dx)∈cs->(S.dx,c8 S.attrs)∈cs->aV prog w 3 env m (ay cs) (.Attribute (.Name "self" bX) "_node2info" cf) (.val (.ref S.d)):=λh ab ae=>
  lK (aV.name h (by kernel_rfl)) ab ae h6 (hM _) uD (by exact rfl) (λi q=>by cases q) rfl
 refine aZ.cons (CW (x:="result") (p:=((S.pairs.lookup y).map λb=>ak.val (.ref b)).getD .none) (q:= .none) (b:=(S.pairs.lookup y).isNone) ?_ ?_ (.inl (by walk_at"k")) (Ev.R Ev.none) ?_ (by with_unfolding_all rfl) (λI=>?_) λI=>?_)
 ·rw[<-wz];exact Df Az (n8 (G8 (by walk_at"l") S.hq S.hn) (wJ S.wc g.sys)) Typed.eP (dd.cons (aV.name (by walk_at"l") (by kernel_rfl)) dd.nil rfl) Dv rfl rfl rfl rfl
 ·(induction S.pairs.lookup y)<;>exact trivial
 ·induction S.pairs.lookup y with
  |none=>exact Kn
  |some b=>exact uf
 ·
  have ic:S.pairs.lookup y=none:=by exact Option.isNone_iff_eq_none.mp I
  have av:y∉S.pairs.map (·.1):=λq=>by
   refine ah (bA.mp q) λz hz bk=>?_;subst bk;refine ah (bA.mp hz) λnd bo bz=>?_;subst bz;rw[S.find g bo] at ic;injection ic
  have S2:y∉S.bq.map (·.x):=λq=>av (by unfold bl.pairs;rw[dX];exact q);rw[ic];refine aZ.cons (Jk (x:="result") (fi.make (n:=2) (C:=97) (fI:=93) (ps:=[.str y]) (px:=λdx=>hv 97 dx λ_=>none) (Ψ:=λp r'=>∃b hc c,p= .val (.ref b)/\b0 r' (ay (S.cells w++e3 ⟨y,b,hc,c,0,[],none⟩))) (fL (by walk_at"k") Jv (by kernel_rfl)) L4 KZ Mw TU (dd.cons (aV.name (bS (by decide+kernel) (by walk_at"l")) (by kernel_rfl)) dd.nil rfl) ⟨trivial,trivial⟩ (λdx=>⟨#[],rfl,by decide,λi=>rfl⟩) ?_ rfl rfl) (.inl (by walk_at"k")) ?_ rfl rfl)
  ·intro x dx s₀ s W₀ aJ A vs Q E ab ae aC bc dA jt m5 qC qE tN BN;refine Mz s₀ s W₀ aJ A vs Q E ab ae aC bc dA jt m5 qC qE tN λp v r' s' cU=>?_;obtain⟨b7,c,hle⟩:=cU;subst b7;exact BN .none v r' s' ⟨rfl,x,dx,c,rfl,hle⟩
  ·intro p r' gR;refine u6 gR λb hc c kj hle=>?_;subst kj
   let nd:du:=⟨y,b,hc,c,0,[],none⟩
   let S':bl:={S with bq:=S.bq++[nd]}
   refine⟨_,S.d,S.pairs,b,y,hle,rfl,G8 (bS (by decide+kernel) (by walk_at"l")) (b6 _ S.hq) (b6 _ S.hn),aV.name (bS (by kernel_rfl) (by walk_at"l")) (by kernel_rfl),b6 _ S.wc,av,by unfold bl.pairs;rw[bO];exact bH (Nat.le_of_lt ‹_›) rfl,?_⟩;have Sa:b0 (ay (setC (S.cells w++e3 nd) S.d (eO w (S.pairs++[(y,b)])))) (S'.R w):=by
    have e:S'.cells w=[(S.a,fZ 194 S.dx),(S.dx,c8 S.attrs),(S.d,eO w (S.pairs++[(y,b)]))]++oa S.cT++S.bq.flatMap e3++e3 nd:=by
     unfold bl.cells bl.pairs;show [(S.a,fZ 194 S.dx),(S.dx,c8 S.attrs),(S.d,eO w ((S.bq++[nd]).map λnd=>(nd.x,nd.b)))]++oa S.cT++(S.bq++[nd]).flatMap e3=_;rw[dY,flatMap_append, <-h8];exact rfl
    unfold bl.R;rw[e];refine kb ?_ ?_ λz hz=>?_
    ·unfold bl.cells;exact rfl
    ·exact .tail _ (.tail _ (.head _))
    ·unfold bl.cells;rcases dk.mp hz with hz |hz
     ·rcases dk.mp hz with hz |hz
      ·rcases dk.mp hz with hz |hz
       ·rcases bI.mp hz with rfl |hz
        ·exact .inr (b6 _ (b6 _ (b6 _ (.head _))))
        ·rcases bI.mp hz with rfl |hz
         ·exact .inr (b6 _ (b6 _ (b6 _ (.tail _ (.head _)))))
         ·exact .inl (cQ.mp hz)
       ·exact .inr (b6 _ (b6 _ (b9 _ hz)))
      ·exact .inr (b6 _ (b9 _ hz))
     ·exact .inr (b9 _ hz)
   refine Sa.ex (aZ.nil (aZ.cons (ek.ret (p:= .val (.ref b)) (aV.name a5 (by kernel_rfl)) trivial ⟨S',nd,.refl _,⟨rfl,.inr ⟨S2,rfl,rfl,rfl,rfl⟩⟩,rfl⟩)))
 ·obtain⟨b,lu⟩:∃b,S.pairs.lookup y=some b:=by
   induction q:S.pairs.lookup y with
   |none=>rw[q] at I;injection I
   |some b=>exact⟨b,rfl⟩
  refine ah (bA.mp (mem_of_lookup lu)) λnd bo q=>?_;refine aE (Prod.mk.inj q) λdz bN=>?_;refine aZ.nil (aZ.cons (ek.ret (p:= .val (.ref b)) (aV.name (by rw[lu];exact a5) (by kernel_rfl)) trivial ⟨S,nd,.refl _,⟨dz,.inl ⟨bo,rfl⟩⟩,by rw[bN]⟩))
variable {N:dS} {cJ:List (Str×Value)->Shared->Prop}
theorem yV{K:Around->Prop}{r:Rs}{x:Str}{e:Expr}(he:jJ prog w K env m r e Ψ)(ar:env.kindOf x=some .local\/(env.kindOf x=some .cell/\(env.cells.lookup x).isSome=true))(h:∀p r',Ψ p r'->cb p->Φ .next ((x,p)::m) r')
  (hs:swapsWith e (some (.Name x px)) pos.line env=pure false):dC prog w K env m r (.Assign [.Name x px] e pos) Φ:=λs₀ W₀ aJ ad A s E ai F=>by
 refine wpAny_Assign_Name (he s₀ W₀ aJ ad A s _ E ai F λp r' v au aX k₁ aq e0 cU=>?_) hs;exact aX.F.put aq e0 ar λs' aS k=>aE (aX.turn aS k) λab ae=>⟨ad,_,r',ab,k₁.trans ae,h p r' cU e0⟩
theorem pE{r:Rs}{x:Str}{e:Expr}(he:fi prog w n env m r e Ψ)(ar:env.kindOf x=some .local\/(env.kindOf x=some .cell/\(env.cells.lookup x).isSome=true))(h:∀p r',Ψ p r'->cb p->Φ .next ((x,p)::m) r')
  (hs:swapsWith e (some (.Name x px)) pos.line env=pure false):ek prog w n env m r (.Assign [.Name x px] e pos) Φ:=yV he ar h hs
noncomputable abbrev dS:=List (Str×Int×List Str)
noncomputable def bl.bG(S:bl):dS:=S.bq.map λnd=>(nd.x,nd.np,nd.cO)
noncomputable def hx(N:dS)(y:Str):dS:=if y∈N.map (·.1) then N else N++[(y,0,[])]
noncomputable def jK(N:dS)(y:Str)(f:Int×List Str->Int×List Str):dS:=N.map λz=>if z.1=y then(z.1,f z.2) else z
noncomputable def jN(N:dS)(y:Str)(k:Int):dS:=jK N y λq=>(q.1+k,q.2)
noncomputable def s6(N:dS)(p y:Str):dS:=jK N p λq=>(q.1,q.2++[y])
noncomputable def nL(N:dS)(y:Str)(gN:List Str):dS:=gN.foldl (λN p=>s6 (hx N p) p y) (jN (hx N y) y gN.length)
theorem ua:S.bG.map (·.1)=S.bq.map (·.x):=by unfold bl.bG;rw[dX];rfl
theorem uo{y:Str}{f:Int×List Str->Int×List Str}:(jK N y f).map (·.1)=N.map (·.1):=by
 unfold jK;rw[dX];refine g7 λz _=>?_;show(if z.1=y then(z.1,f z.2) else z).1=z.1;split<;>rfl
theorem MU{y:Str}:(hx N y).length<=N.length+1:=by unfold hx;split<;>simp
structure mP (S S':bl):Prop where
 a:S'.a=S.a
 cT:S'.cT=S.cT
 po:S'.po=S.po
 da:S'.da=S.da
theorem mP.refl(S:bl):mP S S:=⟨rfl,rfl,rfl,rfl⟩
theorem mP.trans{HP:bl}(x:mP S S')(y:mP S' HP):mP S HP:=⟨y.a.trans x.a,y.cT.trans x.cT,y.po.trans x.po,y.da.trans x.da⟩
theorem xB.all{y:Str}{nd:du}(g:S.Good)(d6:S.iR)(aA:S.bq.length < 100)(h:xB S y S' nd):S'.Good/\S'.iR/\mP S S'/\S'.bG=hx S.bG y/\nd∈S'.bq/\nd.x=y:=by
 obtain⟨ag,⟨ab,rfl⟩ |⟨ab,ae,aC,bc,rfl⟩⟩:=h
 ·refine⟨g,d6,.refl S',?_,ab,ag⟩;unfold hx;rw[aQ];rw[ua];exact bA.mpr ⟨nd,ab,ag⟩
 ·refine⟨⟨?_,g.sys,by show(S.bq++[nd]).length<=_;rw[fB];simp;walk_at"o"⟩,λz hz=>?_,⟨rfl,rfl,rfl,rfl⟩,?_,b9 _ (.head _),ag⟩
  ·show((S.bq++[nd]).map (·.x)).Nodup;rw[dY,gL];refine⟨g.nd,by simp,λa af b I q=>?_⟩;rw[show b=nd.x from cQ.mp I,ag] at q;exact ab (q▸af)
  ·rcases dk.mp hz with q |q
   ·exact d6 z q
   ·rw[cQ.mp q];exact bc
  ·unfold hx;rw[aI (by rw[ua];exact ab)];show(S.bq++[nd]).map _=_;rw[dY];show _++[(nd.x,nd.np,nd.cO)]=_;rw[ag,ae,aC];rfl
theorem wQ{y:Str}{f:du->du}{f':Int×List Str->Int×List Str}(ag:∀nd,(f nd).x=nd.x)(hf:∀nd,((f nd).np,(f nd).cO)=f' (nd.np,nd.cO)):(S.hP y f).bG=jK S.bG y f':=by
 unfold bl.bG bl.hP jK;rw[dX,dX];refine g7 λnd _=>?_;show((if nd.x=y then f nd else nd).x,(if nd.x=y then f nd else nd).np,(if nd.x=y then f nd else nd).cO)=if nd.x=y then(nd.x,f' (nd.np,nd.cO)) else(nd.x,nd.np,nd.cO)
 split
 ·rw[ag, <-hf]
 ·rfl
theorem wF{y:Str}{f:du->du}(d6:S.iR)(aa:∀nd,(f nd).pin=nd.pin):(S.hP y f).iR:=λz hz=>by
 refine ah (bA.mp hz) λnd bo aU=>?_;subst aU;by_cases q:nd.x=y
 ·rw[aQ q,aa];exact d6 nd bo
 ·rw[aI q];exact d6 nd bo
theorem z2{nd:du}(h:nd∈S.bq):(nd.x,nd.np,nd.cO)∈S.bG:=bA.mpr ⟨nd,h,rfl⟩
theorem LX{pd:Str}{v1 v2:Value}{rest:List Value}{bX cf:ak}{gN:List ak}(g:G w s.heap)(low:eI W s.heap)(hz:rest.length<=sizeLine)
  (I:bindArgs fd ⟨v1::v2::rest,[]⟩=(newTuple rest >>=λt=>pure ([(hK,v1),(h2,v2),(pd,t)]:List (Str×Value)))) (ab:a6 w s.heap W bX v1) (ae:a6 w s.heap W cf v2) (aC:bJ w s.heap W gN rest)
  (a4:∀en au,bJ w au.heap W [bX,cf,.tup gN] en->Ext s au->G w au.heap->cJ ([hK,h2,pd].zip en) au):wpAny (model prog w) A (bindArgs fd ⟨v1::v2::rest,[]⟩) cJ c6 s:=by
 rw[I];refine aH (wpAny_newTuple (bu ?_) hz);have e:Ext s {s with heap:=s.heap.push {cls:= .type "tuple",data:= .seq rest.toArray}}:= .push ..;exact a4 [v1,v2,.ref s.heap.objs.size] _ ⟨v1,_,rfl,ab.ext g e,v2,_,rfl,ae.ext g e,_,_,rfl,⟨_,rest,0,rfl,low.fresh,dc _ rfl,aC.ext g e⟩,rfl⟩ e (g.push _)
theorem OT{y:Str}(g:S.Good)(kd:S.iR)(bf:S.cT=none)(aa:gN.length<=1)(aA:S.bq.length<=90)(Cc:∀z∈S.bG,z.2.2.length<=1000):eX prog w 6 144 (.val (.ref S.a):: .str y::aB gN) (S.R w) (λp r'=>p= .none/\∃S',b0 r' (S'.R w)/\S'.Good/\S'.iR/\mP S S'/\S'.bG=nL S.bG y gN):=by
 have de:sizeLine=2 ^ 24:=rfl;refine eX.of (args:=[.val (.ref S.a),.str y,.tup (aB gN)]) (names:=["self","node","predecessors"]) (c:=143) (by exact⟨rfl,rfl,rfl,rfl,rfl,rfl,rfl,ej (by kernel_rfl),rfl,rfl,rfl,kinds_of (by kernel_rfl),rfl,rfl,rfl,by dsimp only,by dsimp only,by kernel_rfl⟩) (by exact rfl) ⟨trivial,trivial,d9,trivial⟩ ?_ ?_
 ·intro W A s vs cJ c6 g low bb a4;refine bj bb λv1 _ ax ab a7=>?_;refine bj a7 λv2 rest aD ae aC=>?_;subst ax aD;have hlen:=aC.len;rw[cz] at hlen;have I:∀fd:FuncData,(rest=[]->bindArgs fd ⟨[v1,v2],[]⟩=(newTuple [] >>=λt=>pure ([("self",v1),("node",v2),("predecessors",t)]:List (Str×Value))))->(∀pw,rest=[pw]->bindArgs fd ⟨[v1,v2,pw],[]⟩=(newTuple [pw] >>=λt=>pure ([("self",v1),("node",v2),("predecessors",t)]:List (Str×Value))))->bindArgs fd ⟨v1::v2::rest,[]⟩=(newTuple rest >>=λt=>pure ([("self",v1),("node",v2),("predecessors",t)]:List (Str×Value))):=λfd a b=>by
   induction rest with
   |nil=>exact a rfl
   |cons pw r=>
    induction r with
    |nil=>exact b pw rfl
    |cons _ _=>simp at hlen;walk_at"o"
  exact LX g low (by walk_at"o") (I _ (λ_=>by exact rfl) λpw _=>by exact rfl) ab ae aC a4
 intro env a9 ec fE d6;show aZ prog w 5 env [("self",.val (.ref S.a)),("node",.str y),("predecessors",.tup (aB gN))] _ _ _;refine hL λxR oz=>?_;refine aZ.cons (mh (c:=false) (gE.cmp (p:= .none) (q:= .none) (lK (aV.name (by walk_at"l") (by kernel_rfl)) S.hq S.hn h6 (hM _) uz (by unfold bl.attrs;rw[bf];exact rfl) (λi q=>by injection q) rfl) (Ev.R Ev.none) wx (by with_unfolding_all rfl)) (λh=>by injection h) λ_=>aZ.nil ?_);have Gg:∀{S:bl} {m:Loc} {x z:Str} {bX cf fU fG:Pos} {e1:Sem Bool},S.Good->S.bq.length < 100->(eval (.Call (.Attribute (.Name "self" bX) "_get_nodeinfo" cf) [.Name x fU] [] fG) env=(do
   let ho<-eval (.Name "self" bX) env
   standAt cf.atName
   let(f,first)<-holding [ho] (getMethod ho "_get_nodeinfo" e1)
   callWith fG f first (backTo fG (starEach [.Name x fU] env)) (backToKw fG (keywordEach [] env))))->bM m "self" (.val (.ref S.a))->bM m x (.str z)->(x==("__debug__":Str))=false->fi prog w 5 env m (S.R w) (.Call (.Attribute (.Name "self" bX) "_get_nodeinfo" cf) [.Name x fU] [] fG) (λp r'=>∃S' nd,b0 r' (S'.R w)/\xB S z S' nd/\p= .val (.ref nd.b)):=λ{S m x z bX cf fU fG e1} g hf fu ab ae aC=>by
  have:=fn_get (prog:=prog) (w:=w) (y:=z) g hf;refine wA (aV.name ab (by kernel_rfl)) S.hq S.hn (hM _) LB N6 (by exact rfl) (by exact rfl) (by exact rfl) (dd.cons (aV.name ae aC) dd.nil rfl) ⟨trivial,trivial⟩ ?_ (.inr ⟨_,_,rfl⟩) fu;exact λs₀ s W₀ aJ A vs Q E ai=>this s₀ s W₀ aJ A vs Q E (ai.le (by exact gc rfl))
 refine aZ.cons (pE (Gg g (by exact o2 ‹_› rfl) rfl (by walk_at"l") (by walk_at"l") (by kernel_rfl)) (.inl (by walk_at"k")) ?_ rfl);intro p r' dg _;refine bj dg λb3 nd hle iW dr=>?_;subst dr;refine uT (iW.all g kd (by exact o2 ‹_› rfl)) λg1 xK bR mL bo ag=>?_;have rI:b3.bq.length<=91:=by
  have:=MU (N:=S.bG) (y:=y);rw[<-mL] at this;simp only[bl.bG,length_map] at this;walk_at"o"
 refine hle.ex ?_;refine aZ.cons (Dn (x:=nd.b) (dx:=nd.hc) (mem:=99) (ix:=1) (i:=nd.np) (j:=gN.length) (z:=nd.np+gN.length) (aV.name a5 (by kernel_rfl)) (Ev.R (Ev.call (fA (by walk_at"k") og (by exact rfl) (by decide+kernel) (by kernel_rfl)) (.inl ⟨"len",rfl⟩) (aK.cons (Ev.name (bS (by decide+kernel) (by walk_at"l")) (by kernel_rfl)) aK.nil rfl) (cz (a:=gN)▸D6 (by rw[cz];exact bH ‹_› rfl)) rfl rfl)) (b3.qJ bo) (b3.qF bo) (λA s t e2 Q E h=>PySem.AutoIntOps.iadd_0 h) q4 (q8 _) wX w9 wK qW (by decide) rfl q1 qX ur uw ?_);rw[wC]
 let f1:du->du:=λnd=>{nd with np:=nd.np+gN.length}
 have vM:=wY (w:=w) (f:=f1) g1 bo (λ_=>rfl) (λ_=>rfl) (λ_=>rfl) (λ_=>rfl) (a:=nd.b) (p:=hv 97 nd.hc (mA nd.x (nd.np+gN.length) nd.c)) (by exact .tail _ (.head _)) (λc U=>by
  simp only[e3,f1,mem_cons,not_mem_nil,or_false] at U ⊢;replace U:=U;rcases U with U |U |U
  ·exact .inr (.inl U)
  ·exact .inl U
  ·exact .inr (.inr (.inr U)))
 refine vM.ex ?_;have rG:(b3.hP nd.x f1).iR:=wF xK λ_=>rfl;have g2:=b3.qO g1 (y:=nd.x) (f:=f1) λ_=>rfl;have mN:(b3.hP nd.x f1).bG=jN (hx S.bG y) y gN.length:=by
  rw[wQ (f:=f1) (f':=λq=>(q.1+gN.length,q.2)) (λ_=>rfl) λ_=>rfl,mL,ag];rfl
 have cI:mP S (b3.hP nd.x f1):=bR.trans ⟨rfl,rfl,rfl,rfl⟩;have xO:(b3.hP nd.x f1).bq.length<=91:=by show(List.map _ _).length<=_;rw[bO];exact rI
 generalize Wy:b3.hP nd.x f1=cG at*;induction cG using jH;rename_i cG
 have Gp:∀z∈cG.bG,z.2.2.length<=1000:=λz hz=>by
  rw[mN] at hz;refine ah (bA.mp hz) λeU eJ bk=>?_;subst bk;have:eU.2.2.length<=1000:=by
   unfold hx at eJ;split at eJ
   ·exact Cc eU eJ
   ·rcases dk.mp eJ with q |q
    ·exact Cc eU q
    ·rw[cQ.mp q];exact c0 _
  split<;>exact this
 let iN:Nat->Loc->Rs->Prop:=λj m' r'=>bM m' "self" (.val (.ref S.a))/\bM m' "node" (.str y)/\∃S',b0 r' (S'.R w)/\S'.Good/\S'.iR/\mP S S'/\S'.bG=(gN.take j).foldl (λN p=>s6 (hx N p) p y) cG.bG/\(j=0->S'=cG)
 refine aZ.cons (n7 (q:= .tup (aB gN)) (ps:=aB gN) iN (aV.name (bS (by decide+kernel) (by walk_at"l")) (by kernel_rfl)) cw.tup d9 (λp aa=>by refine ah (hN aa) λx _ bz=>?_;subst bz;exact trivial) (.inl (by walk_at"k")) ⟨by walk_at"l",by walk_at"l",cG,.refl _,g2,rG,cI,rfl,λ_=>rfl⟩ ?_ ?_ (λ_=>rfl))
 ·intro j p m' r' gZ e8;refine hL λqb ia=>?_;refine cB e8 λa1 a2 e6=>?_;refine te e6 λff Ar g3 rM gG tL Ur=>?_;rw[eb] at gZ;refine ah (h7.mp gZ) λq aG b7=>?_;subst b7;have aN:j=0:=by have:=i8 aG;walk_at"o"
  subst aN;have:=Ur rfl;subst this;refine Ar.ex ?_;refine aZ.cons (pE (Gg (z:=q) g2 (by exact o2 ‹_› rfl) rfl (by rw[<-cI.a] at a1;exact bS (by kernel_rfl) a1) a5 (by kernel_rfl)) (.inl (by walk_at"k")) ?_ rfl);intro p eY gR _;refine bj gR λpz nX RX Ph hV=>?_;subst hV;refine uT (Ph.all g2 rG (by exact o2 ‹_› rfl)) λtQ yc pb G6 pY B8=>?_;refine RX.ex ?_;have V4:nX.cO.length<=1000:=by
   have hm:=z2 pY;rw[G6] at hm;replace hm:=hm;unfold hx at hm;split at hm
   ·exact Gp _ hm
   ·rcases dk.mp hm with z |z
    ·exact Gp _ z
    ·have:=cQ.mp z;have ae:nX.cO=[]:=congrArg (λz=>z.2.2) this;rw[ae];exact c0 _
  refine aZ.cons (wy (id:="list.append") (a:=nX.c) (l:=nX.cO) (l':=nX.cO++[y]) (ps:=[.str y]) lR (ud (x:=nX.b) (dx:=nX.hc) (mem:=100) (i:=2) (aV.name a5 (by kernel_rfl)) (pz.qJ pY) (pz.qF pY) q4 (q8 _) zo zD ze wI rfl (λi q=>by cases q) rfl) (pz.It pY (yc _ pY)) (dd.cons (aV.name (bS (by kernel_rfl) (bS (by kernel_rfl) a2)) (by kernel_rfl)) dd.nil rfl) ⟨trivial,trivial⟩ (by rw[j5];exact i0.append (by rw[cz];exact bH ‹_› rfl)) ?_ rfl rfl rfl rfl (jB a9) rfl)
  let f4:du->du:=λnd=>{nd with cO:=nd.cO++[y]}
  have Cb:=wY (w:=w) (f:=f4) tQ pY (λ_=>rfl) (λ_=>rfl) (λ_=>rfl) (λ_=>rfl) (a:=nX.c) (p:=cy (nX.cO++[y])) (by simp[e3,f4,kN,yc _ pY]) (λc U=>by
   simp only[e3,f4,yc _ pY,kN,mem_cons,not_mem_nil,or_false] at U ⊢;replace U:=U;rcases U with U |U |U
   ·exact .inr (.inl U)
   ·exact .inr (.inr (.inl U))
   ·exact .inl U)
  subst ia;refine Cb.ex (aZ.nil ⟨by walk_at"l",by walk_at"l",pz.hP nX.x f4,.refl _,pz.qO tQ λ_=>rfl,wF yc λ_=>rfl,(cI.trans pb).trans ⟨rfl,rfl,rfl,rfl⟩,?_,λh=>by injection h⟩);rw[wQ (f:=f4) (f':=λq=>(q.1,q.2++[y])) (λ_=>rfl) λ_=>rfl,G6,B8,hO,aG];rfl
 ·intro m' r' iE;refine cB iE λ_ _ jm=>?_;refine te jm λff Ar g3 rM gG tL _=>?_;rw[cz,take_length] at tL;subst oz;exact aZ.nil (aZ.nil ⟨rfl,ff,Ar,g3,rM,gG,by rw[tL,mN];rfl⟩)
theorem Lw:nsIn (KF w) 3 "tuple"=some none:=by kernel_rfl
theorem M1:nsIn (KF w) 3 "bool"=some none:=by kernel_rfl
theorem bl.has{y:Str}(h:y∈S.bG.map (·.1)):∃nd∈S.bq,nd.x=y:=by
 rw[ua] at h;refine ah (bA.mp h) λnd a b=>?_;exact⟨nd,a,b⟩
theorem DP{nd:du}{d e:Expr}(g:S.Good)(h:nd∈S.bq)(hd:aV prog w n env m (S.R w) d (.val (.ref S.d)))(he:aV prog w n env m (S.R w) e (.str nd.x))(hs:∀o j,subscripted e false o j=operate [o,j] (getItem o j)):aV prog w n env m (S.R w) (.Subscript d e pos) (.val (.ref nd.b)):=
 aV.item (n8 hd (wJ S.wc g.sys)) he Typed.eP mn.lookup (sz (by rw[wz,S.find g h];rfl)) hs
theorem sE{c:Str}{p:ak}(g:G w s.heap)(bb:bJ w s.heap W [p] vs)
  (I:∀v,bindArgs fd ⟨[v],[]⟩=pure ([(c,v)]:List (Str×Value)))
  (a4:∀en au,bJ w au.heap W [p] en->Ext s au->G w au.heap->cJ ([c].zip en) au):wpAny (model prog w) A (bindArgs fd ⟨vs,[]⟩) cJ c6 s:=by
 have mC:=bb;refine bj bb λv1 _ ax _ bW=>?_;subst ax;rw[show _=[] from bW] at mC ⊢;exact wpAny_of_eq (a:=([(c,v1)]:List (Str×Value))) (I v1) (a4 [v1] s mC (.refl s) g)
theorem y8(g:S.Good){nd:du}(h:nd∈S.bq){k:Int}:b0 (ay (setC (S.cells w) nd.b (hv 97 nd.hc (mA nd.x k nd.c)))) ((S.hP nd.x λnd=>{nd with np:=k}).R w):=
 wY (f:=λnd=>{nd with np:=k}) g h (λ_=>rfl) (λ_=>rfl) (λ_=>rfl) (λ_=>rfl) (a:=nd.b) (p:=hv 97 nd.hc (mA nd.x k nd.c)) (.tail _ (.head _)) (λc U=>by
  rcases bI.mp U with U |U
  ·exact .inr (U▸ .head _)
  ·rcases bI.mp U with U |U
   ·exact .inl U
   ·exact .inr (.tail _ (.tail _ U)))
noncomputable def lV(N:dS)(y:Str)(k:Int):dS:=jK N y λq=>(k,q.2)
theorem y6{y:Str}{k:Int}:(S.hP y λnd=>{nd with np:=k}).bG=lV S.bG y k:=wQ (f:=λnd=>{nd with np:=k}) (f':=λq=>(k,q.2)) (λ_=>rfl) λ_=>rfl
structure oC (S S':bl):Prop where
 good:S'.Good
 free:S'.iR
 a:S'.a=S.a
 d:S'.d=S.d
theorem b0.of_eq{r:Rs}(h:r=r'):b0 r r':=h▸ .refl _
theorem MP{l:List Str}(g:S.Good)(kd:S.iR)(bf:S.cT=some (ez,l))(ao:l.length<=1000)(gF:∀y∈l,y∈S.bG.map (·.1)):eX prog w 3 156 [.val (.ref S.a)] (S.R w) (λp r'=>p= .tup (aB l)/\∃S',b0 r' (S'.R w)/\oC S S'/\S'.bG=l.foldl (λN y=>lV N y (-1)) S.bG/\S'.cT=some (ez,[])/\S'.po=S.po+l.length/\S'.da=S.da):=by
 have de:sizeLine=2 ^ 24:=rfl;refine eX.of (args:=[.val (.ref S.a)]) (names:=["self"]) (c:=155) (by exact⟨rfl,rfl,rfl,rfl,rfl,rfl,rfl,ej (by kernel_rfl),rfl,rfl,rfl,kinds_of (by kernel_rfl),rfl,rfl,rfl,by dsimp only,by dsimp only,by kernel_rfl⟩) (by exact rfl) ⟨trivial,trivial⟩ (λW A s vs cJ c6 g low bb a4=>sE g bb (λv=>by exact rfl) a4) ?_;intro env a9 ec fE d6;show aZ prog w 2 env [("self",.val (.ref S.a))] _ _ _;refine hL λxR oz=>?_;have cT:∀{S:bl} {ez:Addr} {l:List Str} {m:Loc} {bX cf:Pos},S.cT=some (ez,l)->bM m "self" (.val (.ref S.a))->aV prog w 2 env m (S.R w) (.Attribute (.Name "self" bX) "_ready_nodes" cf) (.val (.ref ez)):=λ{S ez l m bX cf} bf h=>
  lK (aV.name h (by kernel_rfl)) S.hq S.hn h6 (hM _) uz (by unfold bl.attrs;rw[bf];exact rfl) (λi q=>by cases q) rfl
 refine aZ.cons (mh (c:=false) (gE.cmp (cT bf (by walk_at"l")) (Ev.R Ev.none) uf (by with_unfolding_all rfl)) (λh=>by injection h) λ_=>aZ.nil ?_);refine aZ.cons (mg (p:= .tup (aB l)) (Dq (fA (by walk_at"k") Lw (by exact rfl) (by decide+kernel) (by kernel_rfl)) (dd.cons (n8 (cT bf (by walk_at"l")) (uk (S.yr bf))) dd.nil rfl) (JK (by rw[cz];exact bH ‹_› rfl)) rfl rfl) d9 (.inl (by walk_at"k")) ?_ rfl);refine aZ.cons (mg (p:= .val (.ref S.d)) (lK (aV.name (by walk_at"l") (by kernel_rfl)) S.hq S.hn h6 (hM _) uD (by exact rfl) (λi q=>by cases q) rfl) trivial (.inl (by walk_at"k")) ?_ rfl)
 let iN:Nat->Loc->Rs->Prop:=λj m' r'=>bM m' "self" (.val (.ref S.a))/\bM m' "result" (.tup (aB l))/\bM m' "n2i" (.val (.ref S.d))/\∃S',b0 r' (S'.R w)/\oC S S'/\S'.bG=(l.take j).foldl (λN y=>lV N y (-1)) S.bG/\S'.cT=S.cT/\S'.po=S.po/\S'.da=S.da
 refine aZ.cons (n7 (q:= .tup (aB l)) (ps:=aB l) iN (aV.name (by walk_at"l") (by kernel_rfl)) cw.tup d9 (λp aa=>by refine ah (hN aa) λx _ aU=>?_;subst aU;exact trivial) (.inl (by walk_at"k")) ⟨by walk_at"l",by walk_at"l",by walk_at"l",S,.refl _,⟨g,kd,rfl,rfl⟩,rfl,rfl,rfl,rfl⟩ ?_ ?_ (λ_=>rfl))
 ·intro j p m' r' gZ dg;refine hL λqb ia=>?_;refine eR dg λa1 a2 dG dr=>?_;refine te dr λb3 hle hD mL ax aD a8=>?_;rw[eb] at gZ;refine ah (h7.mp gZ) λy av a7=>?_;subst a7;have iQ:y∈b3.bG.map (·.1):=by
   rw[mL];have:∀(ys:List Str) (N:dS),(ys.foldl (λN y=>lV N y (-1)) N).map (·.1)=N.map (·.1):=λys=>by
    induction ys with
    |nil=>intro N;rfl
    |cons z r aw=>intro N;rw[gM,aw];exact uo
   rw[this];exact gF y (eW av)
  refine ah (bl.has iQ) λnd bo bk=>?_;subst bk;refine hle.ex ?_;rw[<-hD.d] at dG;replace dG:=dG;refine aZ.cons (wu (p:= .int (-1)) (q:=c8 []) (dx:=nd.hc) (mem:=99) (i:=1) (Ev.R (y7 (by walk_at"k") EX (by kernel_rfl))) trivial (DP hD.good bo (aV.name (bS (by kernel_rfl) dG) (by kernel_rfl)) (aV.name a5 (by kernel_rfl)) λ_ _=>rfl) (b3.qJ bo) (b3.qF bo) q1 qX ur uw qW (by decide) ?_ rfl);rw[wC];subst ia;refine(y8 hD.good bo).ex (aZ.nil ⟨by walk_at"l",by walk_at"l",by rw[hD.d] at dG;walk_at"l",b3.hP nd.x λnd=>{nd with np:= -1},.refl _,⟨b3.qO hD.good λ_=>rfl,wF hD.free λ_=>rfl,hD.a,hD.d⟩,?_,ax,aD,a8⟩);rw[y6,mL,hO,av,toList_some,iu];rfl
 ·intro m' r' e8;refine eR e8 λa1 a2 dG e6=>?_;refine te e6 λb3 hle hD mL ax aD a8=>?_;rw[cz,take_length] at mL;refine aZ.nil (hle.ex ?_);rw[<-hD.a] at a1;replace a1:=a1;have l8:=ax.trans bf;refine aZ.cons (wy (id:="list.clear") (a:=ez) (l:=l) (l':=[]) (ps:=[]) OD (cT l8 a1) (b3.yr l8) dd.nil trivial (JV (by rw[cz];exact bH ‹_› rfl)) ?_ rfl rfl rfl rfl (jB a9) rfl)
  let cG:bl:={b3 with cT:=some (ez,[])}
  have oM:b0 (ay (setC (b3.cells w) ez (cy []))) (cG.R w):=Ff l8;have WI:oC S cG:=⟨⟨hD.good.nd,hD.good.sys,hD.good.qo⟩,hD.free,hD.a,hD.d⟩
  refine oM.ex ?_;refine aZ.cons (Dl (i:=b3.po) (j:=l.length) (aV.name a1 (by kernel_rfl)) (Ds (fA (by walk_at"k") og (by exact rfl) (by decide+kernel) (by kernel_rfl)) (dd.cons (aV.name a2 (by kernel_rfl)) dd.nil rfl) (cz (a:=l)▸D6 (by rw[cz];exact bH ‹_› rfl)) rfl rfl) cG.hq cG.hn (show(4:Nat)<=100 by decide) h6 (hM _) EN (by exact rfl) qV qU Ee ?_)
  let ff:bl:={cG with po:=b3.po+l.length}
  have BS:b0 (ay (setC (cG.cells w) cG.dx (c8 (iB "_npassedout" (.int (b3.po+l.length)) cG.attrs)))) (ff.R w):=Eo (S':=ff) rfl rfl rfl rfl rfl;subst oz;refine BS.ex (aZ.cons (ek.ret (p:= .tup (aB l)) (aV.name a2 (by kernel_rfl)) d9 ⟨rfl,ff,.refl _,⟨⟨hD.good.nd,hD.good.sys,hD.good.qo⟩,hD.free,hD.a,hD.d⟩,mL,rfl,by show b3.po+_=_;rw[aD],a8⟩))
theorem Ln{l:List Str}(bf:S.cT=some (ez,l))(ao:l.length<=1000):eX prog w 3 163 [.val (.ref S.a)] (S.R w) (λp r'=>p= .bool (decide (S.da < S.po)|| !l.isEmpty)/\b0 r' (S.R w)):=by
 have de:sizeLine=2 ^ 24:=rfl;refine eX.of (args:=[.val (.ref S.a)]) (names:=["self"]) (c:=162) (by exact⟨rfl,rfl,rfl,rfl,rfl,rfl,rfl,ej (by kernel_rfl),rfl,rfl,rfl,kinds_of (by kernel_rfl),rfl,rfl,rfl,by dsimp only,by dsimp only,by kernel_rfl⟩) (by exact rfl) ⟨trivial,trivial⟩ (λW A s vs cJ c6 g low bb a4=>sE g bb (λv=>by exact rfl) a4) ?_;intro env a9 ec fE d6;show aZ prog w 2 env [("self",.val (.ref S.a))] _ _ _;have l4:∀{p:Pos},aV prog w 2 env [("self",.val (.ref S.a))] (S.R w) (.Name "self" p) (.val (.ref S.a)):=aV.name (by walk_at"l") (by kernel_rfl);have cT:∀{bX cf:Pos},aV prog w 2 env [("self",.val (.ref S.a))] (S.R w) (.Attribute (.Name "self" bX) "_ready_nodes" cf) (.val (.ref ez)):=
  lK l4 S.hq S.hn h6 (hM _) uz (by unfold bl.attrs;rw[bf];exact rfl) (λi q=>by cases q) rfl
 refine aZ.cons (mh (c:=false) (gE.cmp cT (Ev.R Ev.none) uf (by with_unfolding_all rfl)) (λh=>by injection h) λ_=>aZ.nil ?_);refine aZ.cons (ek.ret (LR (x:=decide (S.da < S.po)) (y:= !l.isEmpty) (aV.cmp (p:= .int S.da) (q:= .int S.po) (lK l4 S.hq S.hn h6 (hM _) E4 (by exact rfl) (λi q=>by injection q) rfl) (lK l4 S.hq S.hn h6 (hM _) EN (by exact rfl) (λi q=>by injection q) rfl) zj (by with_unfolding_all rfl)) λ_=>?_) trivial ⟨rfl,.refl _⟩);have:(!l.isEmpty)= !(aB l).isEmpty:=by(induction l)<;>rfl
 rw[this];exact Dq (fA (by walk_at"k") M1 (by exact rfl) (by decide+kernel) (by kernel_rfl)) (dd.cons (n8 cT (uk (S.yr bf))) dd.nil rfl) (Ku (by rw[cz];exact bH ‹_› rfl)) rfl rfl
theorem DQ{c:Addr}{p:Obj->Prop}(le:b0 (ay (setC cs c p)) r'):r'.J=(ay cs).J/\∀h,(ay cs).P h->(∃o,h.get? c=some o/\p o)->r'.P h:=by
 refine⟨funext λa=>propext ⟨λq=>?_,λq=>?_⟩,λh aa aj=>le.2 h ⟨?_,λz hz=>?_⟩⟩
 ·have:a∈br (setC cs c p):=(le.1 a).mpr q;rw[qR] at this;exact this
 ·refine(le.1 a).mp ?_;show a∈br (setC cs c p);rw[qR];exact q
 ·rw[qR];exact aa.1
 ·refine ah (bA.mp hz) λeU eJ aU=>?_;subst aU;by_cases q:eU.1=c
  ·rw[aQ q];refine ah aj λo e ae=>?_;exact⟨o,q▸e,ae⟩
  ·rw[aI q];exact aa.2 eU eJ
noncomputable def bl.s8(S:bl)(y:Str)(o:Option Obj):bl:=S.hP y λnd=>{nd with pin:=o}
theorem Ew(g:S.Good){nd:du}(h:nd∈S.bq)(o:Option Obj):b0 (ay (setC (S.cells w) nd.c (kN o nd.cO))) ((S.s8 nd.x o).R w):=
 wY (f:=λnd=>{nd with pin:=o}) g h (λ_=>rfl) (λ_=>rfl) (λ_=>rfl) (λ_=>rfl) (.tail _ (.tail _ (.head _))) (λc U=>by
  rcases bI.mp U with U |U
  ·exact .inr (U▸ .head _)
  ·rcases bI.mp U with U |U
   ·exact .inr (U▸ .tail _ (.head _))
   ·exact .inl (cQ.mp U))
theorem En{y:Str}{o:Option Obj}:(S.s8 y o).bG=S.bG:=by
 unfold bl.s8;rw[wQ (f:=λnd=>{nd with pin:=o}) (f':=id) (λ_=>rfl) λ_=>rfl];unfold jK;exact(g7 λz _=>by show(if z.1=y then(z.1,z.2) else z)=z;split<;>rfl).trans (List.map_id _)
noncomputable def oY(N:dS)(y:Str):Int:=((N.lookup y).map (·.1)).getD 0
noncomputable def nM(N:dS)(y:Str):List Str:=((N.lookup y).map (·.2)).getD []
theorem bl.zM(g:S.Good){nd:du}(h:nd∈S.bq):S.bG.lookup nd.x=some (nd.np,nd.cO):=
 wq (y:=(nd.x,nd.np,nd.cO)) (by rw[ua];exact g.nd) (z2 h)
noncomputable def fQ(q:dS×List Str)(z:Str):dS×List Str:=(jN q.1 z (-1),if oY (jN q.1 z (-1)) z=0 then q.2++[z] else q.2)
noncomputable def kc(N:dS)(l:List Str)(y:Str):dS×List Str:=(nM N y).foldl fQ (lV N y (-2),l)
theorem KA{q:dS×List Str}:(fQ q z).1.map (·.1)=q.1.map (·.1):=by
 show(jN q.1 z (-1)).map (·.1)=_;unfold jN;exact uo
theorem K9{q:dS×List Str}:(fQ q z).2.length<=q.2.length+1:=by
 unfold fQ;dsimp only;split<;>simp
theorem JS:∀{zs:List Str} {q:dS×List Str},(zs.foldl fQ q).1.map (·.1)=q.1.map (·.1):=by
 intro ba;induction ba with
 |nil=>
  intro q;exact rfl
 |cons z r aw=>
  intro q;rw[gM,aw,KA]
theorem Kb:∀{zs:List Str} {q:dS×List Str},(zs.foldl fQ q).2.length<=q.2.length+zs.length:=by
 intro ba;induction ba with
 |nil=>
  intro q;exact ea _
 |cons z r aw=>
  intro q;rw[gM];have ab:=aw (q:=fQ q z);have ae:=K9 (z:=z) (q:=q);rw[dJ];walk_at"o"
theorem MI{bX cf:ak}(g:G w s.heap)(low:eI W s.heap)(bb:bJ w s.heap W [bX,cf] vs)
  (I:∀v1 v2,bindArgs fd ⟨[v1,v2],[]⟩=(newTuple [v2] >>=λt=>pure ([(hK,v1),(h2,t)]:List (Str×Value))))
  (a4:∀en au,bJ w au.heap W [bX,.tup [cf]] en->Ext s au->G w au.heap->cJ ([hK,h2].zip en) au):wpAny (model prog w) A (bindArgs fd ⟨vs,[]⟩) cJ c6 s:=by
 refine bj bb λv1 _ ax ab a7=>?_;refine bj a7 λv2 _ aD ae bW=>?_;subst ax aD;rw[show _=[] from bW,I];refine aH (wpAny_newTuple (bu ?_) (gc rfl));have e:Ext s {s with heap:=s.heap.push {cls:= .type "tuple",data:= .seq [v2].toArray}}:= .push ..;exact a4 [v1,.ref s.heap.objs.size] _ ⟨v1,_,rfl,ab.ext g e,_,_,rfl,⟨_,[v2],0,rfl,low.fresh,dc _ rfl,⟨v2,_,rfl,ae.ext g e,rfl⟩⟩,rfl⟩ e (g.push _)
theorem Ni{l:List Str}{nd:du}(g:S.Good)(kd:S.iR)(bf:S.cT=some (ez,l))(ao:l.length<=1000)(bo:nd∈S.bq)(Th:nd.np= -1)(Cc:nd.cO.length<=1000)(gF:∀z∈nd.cO,z∈S.bG.map (·.1)):eX prog w 3 177 [.val (.ref S.a),.str nd.x] (S.R w) (λp r'=>p= .none/\∃S',b0 r' (S'.R w)/\oC S S'/\S'.bG=(kc S.bG l nd.x).1/\S'.cT=some (ez,(kc S.bG l nd.x).2)/\S'.po=S.po/\S'.da=S.da+1):=by
 have de:sizeLine=2 ^ 24:=rfl;refine eX.of (args:=[.val (.ref S.a),.tup [.str nd.x]]) (names:=["self","nodes"]) (c:=176) (by exact⟨rfl,rfl,rfl,rfl,rfl,rfl,rfl,ej (by kernel_rfl),rfl,rfl,rfl,kinds_of (by kernel_rfl),rfl,rfl,rfl,by dsimp only,by dsimp only,by kernel_rfl⟩) (by exact rfl) ⟨trivial,⟨trivial,trivial⟩,trivial⟩ (λW A s vs cJ c6 g low bb a4=>MI g low bb (λv1 v2=>by exact rfl) a4) ?_;intro env a9 ec fE d6;show aZ prog w 2 env [("self",.val (.ref S.a)),("nodes",.tup [.str nd.x])] _ _ _;refine hL λxR oz=>?_;have cT:∀{S:bl} {ez:Addr} {l:List Str} {m:Loc} {bX cf:Pos},S.cT=some (ez,l)->bM m "self" (.val (.ref S.a))->aV prog w 2 env m (S.R w) (.Attribute (.Name "self" bX) "_ready_nodes" cf) (.val (.ref ez)):=λ{S ez l m bX cf} bf h=>
  lK (aV.name h (by kernel_rfl)) S.hq S.hn h6 (hM _) uz (by unfold bl.attrs;rw[bf];exact rfl) (λi q=>by cases q) rfl
 have Hq:∀{S:bl} {nd:du} {m:Loc} {x:Str} {bX cf:Pos},nd∈S.bq->bM m x (.val (.ref nd.b))->(x==("__debug__":Str))=false->attributeBase (.Name x bX) "npredecessors" env (eval (.Name x bX) env)=eval (.Name x bX) env->aV prog w 2 env m (S.R w) (.Attribute (.Name x bX) "npredecessors" cf) (.int nd.np):=λ{S nd m x bX cf} h ag hd I=>
  ud (x:=nd.b) (dx:=nd.hc) (mem:=99) (i:=1) (aV.name ag hd) (S.qJ h) (S.qF h) q4 (q8 _) wX w9 wK qW rfl (λi q=>by injection q) I
 refine aZ.cons (mh (c:=false) (gE.cmp (cT bf (by walk_at"l")) (Ev.R Ev.none) uf (by with_unfolding_all rfl)) (λh=>by injection h) λ_=>aZ.nil ?_);refine aZ.cons (mg (p:= .val (.ref S.d)) (lK (aV.name (by walk_at"l") (by kernel_rfl)) S.hq S.hn h6 (hM _) uD (by exact rfl) (λi q=>by cases q) rfl) trivial (.inl (by walk_at"k")) ?_ rfl)
 let iN:Nat->Loc->Rs->Prop:=λj m' r'=>bM m' "self" (.val (.ref S.a))/\bM m' "n2i" (.val (.ref S.d))/\(j=0->b0 r' (S.R w))/\(j=1->∃S',b0 r' (S'.R w)/\oC S S'/\S'.bG=(kc S.bG l nd.x).1/\S'.cT=some (ez,(kc S.bG l nd.x).2)/\S'.po=S.po/\S'.da=S.da+1)
 refine aZ.cons (n7 (q:= .tup [.str nd.x]) (ps:=[.str nd.x]) iN (aV.name (by walk_at"l") (by kernel_rfl)) cw.tup ⟨trivial,trivial⟩ (λp aa=>by rw[cQ.mp aa];exact trivial) (.inl (by walk_at"k")) ⟨by walk_at"l",by walk_at"l",λ_=> .refl _,λh=>by injection h⟩ ?_ ?_ (λ_=>rfl))
 ·intro j p m' r' gZ dg;refine hL λqb ia=>?_;refine eR dg λa1 a2 dG _=>?_;have aN:j=0:=by have:=i8 gZ;exact Nat.lt_one_iff.mp this
  subst aN;obtain rfl: .str nd.x=p:=by exact bT gZ
  refine(dG rfl).ex ?_;refine aZ.cons (CW (x:="nodeinfo") (p:= .val (.ref nd.b)) (q:= .none) (b:=false) ?_ trivial (.inl (by walk_at"k")) (Ev.R Ev.none) uf (by with_unfolding_all rfl) (λh=>by injection h) λ_=>aZ.nil ?_)
  ·have e:ak.val (.ref nd.b)=(dictAt (S.pairs.map (·.1)) (S.pairs.map λz=> .val (.ref z.2)) nd.x).getD .none:=by rw[wz,S.find g bo];rfl
   rw[e];exact Df Az (n8 (aV.name (bS (by kernel_rfl) a2) (by kernel_rfl)) (wJ S.wc g.sys)) Typed.eP (dd.cons (aV.name a5 (by kernel_rfl)) dd.nil rfl) Dv rfl rfl rfl rfl
  refine aZ.cons (mg (Hq bo a5 (by kernel_rfl) rfl) trivial (.inl (by walk_at"k")) ?_ rfl);refine aZ.cons (mh (c:=false) (gE.cmp (p:= .int nd.np) (q:= .int (-1)) (aV.name a5 (by kernel_rfl)) (Ev.R (y7 (by walk_at"k") EX (by kernel_rfl))) (by have:=zl (prog:=prog) (w:=w) (a:=nd.np) (b:= -1);rw[Th] at this ⊢;exact this) (by with_unfolding_all rfl)) (λh=>by injection h) λ_=>aZ.nil ?_);refine aZ.cons (wu (p:= .int (-2)) (q:=c8 []) (dx:=nd.hc) (mem:=99) (i:=1) (Ev.R (y7 (by walk_at"k") LZ (by kernel_rfl))) trivial (aV.name (by walk_at"l") (by kernel_rfl)) (S.qJ bo) (S.qF bo) q1 qX ur uw qW (by decide) ?_ rfl);rw[wC];refine(y8 g bo).ex ?_
  let b3:bl:=S.hP nd.x λnd=>{nd with np:= -2}
  let r4:du:={nd with np:= -2}
  have g1:b3.Good:=S.qO g λ_=>rfl;have xK:b3.iR:=wF kd λ_=>rfl;have nD:r4∈b3.bq:=bA.mpr ⟨nd,bo,by rw[aQ rfl]⟩;have mL:b3.bG=lV S.bG nd.x (-2):=y6;have QD:nM S.bG nd.x=nd.cO:=by unfold nM;rw[S.zM g bo];rfl
  show aZ prog w 2 env _ (b3.R w) _ _;have TQ:∀{m:Loc} {bX cf:Pos},bM m "nodeinfo" (.val (.ref nd.b))->aV prog w 2 env m (b3.R w) (.Attribute (.Name "nodeinfo" bX) "successors" cf) (.val (.ref nd.c)):=λ{m bX cf} h=>
   ud (x:=r4.b) (dx:=r4.hc) (mem:=100) (i:=2) (aV.name h (by kernel_rfl)) (b3.qJ nD) (b3.qF nD) q4 (q8 _) zo zD ze wI rfl (λi q=>by cases q) rfl
  let pA:Obj->Nat->Loc->Rs->Prop:=λo j m' r'=>bM m' "self" (.val (.ref S.a))/\bM m' "n2i" (.val (.ref S.d))/\∃cG:bl,b0 r' (cG.R w)/\cG.Good/\(∀z:du,z∈cG.bq->z.x≠nd.x->z.pin=none)/\(∃z:du,z∈cG.bq/\z.x=nd.x/\z.pin=some o/\z.c=nd.c)/\cG.a=S.a/\cG.d=S.d/\cG.po=S.po/\cG.da=S.da/\cG.bG=((nd.cO.take j).foldl fQ (b3.bG,l)).1/\cG.cT=some (ez,((nd.cO.take j).foldl fQ (b3.bG,l)).2)
  refine aZ.cons (Jz (c:=nd.c) (l:=nd.cO) pA
   (TQ (by walk_at"l")) (b3.It (nd:=r4) nD (xK r4 nD)) (.inl (by walk_at"k")) (λo aj=>?_) ?_ ?_ ?_ λ_=>rfl)
  ·refine aE (DQ (Ew (w:=w) g1 nD (some o))) λab ae=>?_;refine⟨(b3.s8 nd.x (some o)).R w,ab,λh aa cR=>ae h aa ⟨o,cR,rfl,aj⟩,by walk_at"l",by walk_at"l",b3.s8 nd.x (some o),.refl _,b3.qO g1 λ_=>rfl,λz hz bY=>?_,?_,rfl,rfl,rfl,rfl,En,bf⟩
   ·refine ah (bA.mp hz) λeU eJ bk=>?_;subst bk;by_cases q:eU.x=nd.x
    ·rw[aQ q] at bY;exact absurd q bY
    ·rw[aI q];exact xK eU eJ
   ·exact⟨{r4 with pin:=some o},bA.mpr ⟨r4,nD,by rw[aQ rfl]⟩,rfl,rfl,rfl⟩
  ·intro o j m' r' h e8 b5;refine cB e8 λ_ _ e6=>?_;refine nI e6 λcG oM _ _ dr _=>?_;refine iD dr λz hz _ aa U=>?_;refine ah ((oM.2 h b5).2 _ (cG.vV hz (.tail _ (.tail _ (.head _))))) λbZ e q=>?_;rw[aa] at q;rw[<-U,e,q.1]
  ·intro o j p m' r' gZ gR;refine hL λBp nG=>?_;refine cB gR λgU jq jm=>?_;refine FK jm λcG oM g2 rG hV fm tS ye xS mN vo=>?_;refine iD hV λyK oI qk Ac HH=>?_;rw[eb] at gZ;refine ah (h7.mp gZ) λy av bz=>?_;subst bz;refine oM.ex ?_;have iQ:y∈cG.bG.map (·.1):=by
    rw[mN,JS];show y∈b3.bG.map (·.1);rw[mL];unfold lV;rw[uo];exact gF y (eW av)
   refine ah (bl.has iQ) λz hz b7=>?_;subst b7;rw[<-tS] at jq;replace jq:=jq;refine aZ.cons (mg (DP g2 hz (aV.name (bS (by kernel_rfl) jq) (by kernel_rfl)) (aV.name a5 (by kernel_rfl)) λ_ _=>rfl) trivial (.inl (by walk_at"k")) ?_ rfl);refine aZ.cons (Dn (x:=z.b) (dx:=z.hc) (mem:=99) (ix:=1) (i:=z.np) (j:=1) (z:=z.np+ -1) (aV.name a5 (by kernel_rfl)) (Ev.R Ev.int) (cG.qJ hz) (cG.qF hz) (λA s t e2 Q E h=>PySem.AutoIntOps.isub_0 (by rw[Int.sub_eq_add_neg];exact h)) q4 (q8 _) wX w9 wK qW (by decide) rfl q1 qX ur uw ?_);rw[wC];refine(y8 g2 hz).ex ?_
   let ff:bl:=cG.hP z.x λnd=>{nd with np:=z.np+ -1}
   let se:du:={z with np:=z.np+ -1}
   have G2:se∈ff.bq:=bA.mpr ⟨z,hz,by rw[aQ rfl]⟩;have g3:ff.Good:=cG.qO g2 λ_=>rfl;have tL:ff.bG=jN cG.bG z.x (-1):=by
    show(cG.hP z.x _).bG=_;rw[y6];unfold lV jN jK;refine g7 λq aG=>?_;by_cases e:q.1=z.x
    ·rw[aQ e,aQ e];refine ah (bA.mp aG) λeT pZ cC=>?_;subst cC;have:=cG.uniq g2 pZ hz e;subst this;rfl
    ·rw[aI e,aI e]
   have rM:∀q:du,q∈ff.bq->q.x≠nd.x->q.pin=none:=λq aG bY=>by
    refine ah (bA.mp aG) λq' qr c1=>?_;subst c1;by_cases e:q'.x=z.x
    ·rw[aQ e] at bY ⊢;exact rG q' qr bY
    ·rw[aI e] at bY ⊢;exact rG q' qr bY
   have Gh:∃q:du,q∈ff.bq/\q.x=nd.x/\q.pin=some o/\q.c=nd.c:=by
    refine⟨_,bA.mpr ⟨yK,oI,rfl⟩,?_⟩;split<;>exact⟨qk,Ac,HH⟩
   have TR:oY ff.bG z.x=z.np+ -1:=by unfold oY;rw[show z.x=se.x from rfl,ff.zM g3 G2];rfl
   have xV:(nd.cO.take (j+1)).foldl fQ (b3.bG,l)=fQ ((nd.cO.take j).foldl fQ (b3.bG,l)) z.x:=by
    rw[hO,av,toList_some,iu];rfl
   have ax:(fQ ((nd.cO.take j).foldl fQ (b3.bG,l)) z.x).1=ff.bG:=by rw[tL,mN];rfl
   have aD:(fQ ((nd.cO.take j).foldl fQ (b3.bG,l)) z.x).2=if z.np+ -1=0 then((nd.cO.take j).foldl fQ (b3.bG,l)).2++[z.x] else((nd.cO.take j).foldl fQ (b3.bG,l)).2:=by
    show(if oY (jN ((nd.cO.take j).foldl fQ (b3.bG,l)).1 z.x (-1)) z.x=0 then _ else _)=_;rw[<-mN, <-tL,TR]
   rw[tS] at jq;refine aZ.cons (mh (c:=z.np+ -1==0) (gE.cmp (p:= .int (z.np+ -1)) (q:= .int 0) (Hq (nd:=se) G2 a5 (by kernel_rfl) rfl) (Ev.R Ev.int) sF (by with_unfolding_all rfl)) (λh=>?_) λh=>aZ.nil (aZ.nil ?_))
   ·rw[<-fm] at gU;replace gU:=gU;have Cd:ff.cT=some (ez,((nd.cO.take j).foldl fQ (b3.bG,l)).2):=vo;have Wx:((nd.cO.take j).foldl fQ (b3.bG,l)).2.length<=3000:=by
     have ab:=Kb (zs:=nd.cO.take j) (q:=(b3.bG,l));have ae:(nd.cO.take j).length<=nd.cO.length:=by rw[length_take];exact Nat.min_le_right ..
     have aC:(b3.bG,l).2.length=l.length:=rfl;walk_at"o"
    refine aZ.cons (wy (id:="list.append") (a:=ez) (l:=((nd.cO.take j).foldl fQ (b3.bG,l)).2) (l':=((nd.cO.take j).foldl fQ (b3.bG,l)).2++[z.x]) (ps:=[.str z.x]) lR (cT (S:=ff) Cd (bS (by kernel_rfl) (bS (by kernel_rfl) gU))) (ff.yr Cd) (dd.cons (aV.name (bS (by kernel_rfl) a5) (by kernel_rfl)) dd.nil rfl) ⟨trivial,trivial⟩ (by rw[j5];exact i0.append (by rw[cz];exact bH ‹_› rfl)) ?_ rfl rfl rfl rfl (jB a9) rfl);subst nG;refine(Ff Cd).ex (aZ.nil (aZ.nil ⟨by rw[fm] at gU;walk_at"l",by walk_at"l",{ff with cT:=some (ez,((nd.cO.take j).foldl fQ (b3.bG,l)).2++[z.x])},.refl _,⟨g3.nd,g3.sys,g3.qo⟩,rM,Gh,fm,tS,ye,xS,?_,?_⟩))
    ·rw[xV,ax];rfl
    ·rw[xV,aD,aQ (eq_of_beq h)]
   ·subst nG;refine⟨by walk_at"l",by walk_at"l",ff,.refl _,g3,rM,Gh,fm,tS,ye,xS,?_,?_⟩
    ·rw[xV,ax]
    ·rw[xV,aD,aI (λq=>by rw[eF] at h;exact h q)];exact vo
  ·intro o m' r' iE;refine cB iE λgU jq mH=>?_;refine FK mH λcG oM g2 rG kj fm tS ye xS mN vo=>?_;refine iD kj λyK oI qk Ac HH=>?_;rw[cz,take_length] at mN vo
   let ff:bl:=cG.s8 nd.x none
   have BS:b0 (cG.R w) (ff.R w):=by
    have le:=Ew (w:=w) g2 oI none;rw[qk] at le;refine aE (DQ le) λab ae=>?_;refine⟨λa=>by rw[ab],λh aa=>ae h aa ?_⟩;refine ah (aa.2 _ (cG.vV oI (.tail _ (.tail _ (.head _))))) λbZ e q=>?_;rw[Ac] at q;exact⟨bZ,e,q.2⟩
   have g3:ff.Good:=cG.qO g2 λ_=>rfl;have rM:ff.iR:=λq aG=>by
    refine ah (bA.mp aG) λq' qr c2=>?_;subst c2;by_cases e:q'.x=nd.x
    ·rw[aQ e]
    ·rw[aI e];exact rG q' qr e
   refine aZ.nil (oM.ex (BS.ex ?_));rw[<-fm] at gU;replace gU:=gU;refine aZ.cons (Dl (i:=ff.da) (j:=1) (aV.name gU (by kernel_rfl)) (Ev.R Ev.int) ff.hq ff.hn (show(4:Nat)<=100 by decide) h6 (hM _) E4 (by exact rfl) qV qU Eg ?_)
   let pz:bl:={ff with da:=ff.da+1}
   have Cb:b0 (ay (setC (ff.cells w) ff.dx (c8 (iB "_nfinished" (.int (ff.da+1)) ff.attrs)))) (pz.R w):=Eo (S':=pz) rfl rfl rfl rfl rfl;have fin:kc S.bG l nd.x=nd.cO.foldl fQ (b3.bG,l):=by unfold kc;rw[QD,mL]
   subst ia;refine Cb.ex (aZ.nil ⟨by rw[fm] at gU;walk_at"l",by walk_at"l",λh=>(by injection h),λ_=>⟨pz,.refl _,⟨⟨g3.nd,g3.sys,g3.qo⟩,rM,fm,tS⟩,?_,?_,ye,by show cG.da+1=_;rw[xS]⟩⟩)
   ·rw[fin, <-mN];exact En
   ·rw[fin];exact vo
 ·intro m' r' oZ;refine eR oZ λ_ _ _ h=>?_;refine te (h rfl) λS' ab ae aC bc dA jt=>?_;subst oz;exact aZ.nil (aZ.nil ⟨rfl,S',ab,ae,aC,bc,dA,jt⟩)
theorem NY:nsIn (KF w) 3 "set"=some none:=by exact rfl
structure ju where
 y:Str
 c:Addr
 l:List Str
 j:Nat
 it:Addr
 wp:Addr
noncomputable def sO(f:ju):dW:=[(f.it,iv f.c f.j),(f.wp,jG f.it)]
noncomputable def f9(K:List ju):List Str:=(K.map (·.y)).reverse
noncomputable def lx(K:List ju):List Addr:=(K.map (·.wp)).reverse
structure vN where
 st:Addr
 eK:Addr
 fJ:Addr
 j0:Addr
noncomputable def gJ(prog:Program)(w:World)(t:vN)(K:List ju)(sn:Str->Bool)(k:Nat)(cs:dW):dW:=
 (t.st,cy (f9 K))::(t.eK,fD (lx K))::(t.fJ,fs prog w (f9 K))::(K.flatMap sO++(t.j0,iy prog w sn k)::cs)
section
variable {t:vN} {K:List ju} {sn:Str->Bool} {k:Nat} {cs:dW} {f:ju}
theorem q7{c:Addr×(Obj->Prop)}(h:c∈cs):c∈gJ prog w t K sn k cs:= .tail _ (.tail _ (.tail _ (b9 _ (.tail _ h))))
theorem FH:(t.st,cy (f9 K))∈gJ prog w t K sn k cs:= .head _
theorem zR:(t.eK,fD (lx K))∈gJ prog w t K sn k cs:= .tail _ (.head _)
theorem FL:(t.fJ,fs prog w (f9 K))∈gJ prog w t K sn k cs:= .tail _ (.tail _ (.head _))
theorem xq:(t.j0,iy prog w sn k)∈gJ prog w t K sn k cs:= .tail _ (.tail _ (.tail _ (b9 _ (.head _))))
theorem NN{P:Obj->Prop}{sn':Str->Bool}{k':Nat}(b5:P=iy prog w sn' k'):b0 (ay (setC (gJ prog w t K sn k cs) t.j0 P)) (ay (gJ prog w t K sn' k' cs)):=by
 subst b5;refine kb ?_ xq λc U=>?_
 ·simp only[gJ,br,map_cons,map_append]
 ·simp only[gJ,mem_cons,mem_append] at U ⊢;rcases U with h |h |h |h |h |h
  ·exact .inr (.inl h)
  ·exact .inr (.inr (.inl h))
  ·exact .inr (.inr (.inr (.inl h)))
  ·exact .inr (.inr (.inr (.inr (.inl h))))
  ·exact .inl h
  ·exact .inr (.inr (.inr (.inr (.inr (.inr h)))))
theorem le_next:b0 (ay (setC (gJ prog w t (f::K) sn k cs) f.it (iv f.c (f.j+1)))) (ay (gJ prog w t ({f with j:=f.j+1}::K) sn k cs)):=by
 refine kb rfl (.tail _ (.tail _ (.tail _ (.head _)))) λc U=>?_;have ax:∀f:ju,gJ prog w t (f::K) sn k cs=(t.st,cy (f9 (f::K)))::(t.eK,fD (lx (f::K)))::(t.fJ,fs prog w (f9 (f::K)))::(f.it,iv f.c f.j)::(f.wp,jG f.it)::(K.flatMap sO++(t.j0,iy prog w sn k)::cs):=λf=>rfl;rw[ax] at U ⊢;simp only[mem_cons] at U ⊢;rcases U with h |h |h |h |h
 ·exact .inr (.inl h)
 ·exact .inr (.inr (.inl h))
 ·exact .inr (.inr (.inr (.inl h)))
 ·exact .inl h
 ·exact .inr (.inr (.inr (.inr (.inr h))))
theorem M9{it wp c:Addr}{A:dW}
  (wh:A=setC (gJ prog w t K sn k cs++[(it,iv c 0)]++[(wp,jG it)]) t.eK (fD (lx K++[wp]))):b0 (ay A) (ay ((t.st,cy (f9 K))::(t.eK,fD (lx K++[wp]))::(t.fJ,fs prog w (f9 K))::(it,iv c 0)::(wp,jG it)::(K.flatMap sO++(t.j0,iy prog w sn k)::cs))):=by
 subst wh;refine b0.trans (r':=ay ((t.st,cy (f9 K))::(t.eK,fD (lx K++[wp]))::(t.fJ,fs prog w (f9 K))::((K.flatMap sO++(t.j0,iy prog w sn k)::cs)++[(it,iv c 0),(wp,jG it)]))) ?_ (uG (((List.perm_append_comm.cons _).cons _).cons _));refine kb ?_ (.tail _ (.head _)) λc U=>?_
 ·simp only[gJ,br,map_cons,map_append,cons_append,append_assoc,nil_append]
 ·rcases bI.mp U with rfl |U
  ·exact .inr (b6 _ (b6 _ FH))
  rcases bI.mp U with rfl |U
  ·exact .inl rfl
  rcases bI.mp U with rfl |U
  ·exact .inr (b6 _ (b6 _ FL))
  rcases dk.mp U with U |U
  ·exact .inr (b6 _ (b6 _ (.tail _ (.tail _ (.tail _ U)))))
  rcases bI.mp U with rfl |U
  ·exact .inr (b6 _ (b9 _ (.head _)))
  ·exact .inr (b9 _ U)
theorem PK{f:ju}{l:List Addr}{P:Obj->Prop}(b5:P=fs prog w (f9 (f::K))):b0 (ay (setC ((t.st,cy (f9 K))::(t.eK,fD l)::(t.fJ,fs prog w (f9 K))::cs) t.fJ P)) (ay ((t.st,cy (f9 K))::(t.eK,fD l)::(t.fJ,fs prog w (f9 (f::K)))::cs)):=by
 subst b5;refine kb rfl (.tail _ (.tail _ (.head _))) λc U=>?_;rcases bI.mp U with rfl |U
 ·exact .inr (.head _)
 rcases bI.mp U with rfl |U
 ·exact .inr (.tail _ (.head _))
 rcases bI.mp U with rfl |U
 ·exact .inl rfl
 ·exact .inr (.tail _ (.tail _ (.tail _ U)))
theorem PE{l l':List Str}{R:dW}:b0 (ay (setC ((t.st,cy l)::R) t.st (cy l'))) (ay ((t.st,cy l')::R)):=
 kb rfl (.head _) λc U=>(bI.mp U).imp id λh=> .tail _ h
end
theorem bt.drop{K:Around->Prop}{r:Rs}(h:bt prog w K env m r' ss Φ)(a0:∀a,r'.J a->r.J a)(b5:∀h,r.P h->r'.P h):bt prog w K env m r ss Φ:=λs₀ W₀ aJ ad A s E ai F=>by
 refine aE (F.drop a0 b5) λaS k=>?_;exact dV (h s₀ W₀ aJ ad A s E ai aS) (λf s' o=>o.pre k) λ_ _ e=>e
theorem b0.lB{K:Around->Prop}{r:Rs}(x:b0 r r')(h:bt prog w K env m r' ss Φ):bt prog w K env m r ss Φ:=h.weak x.1 x.2
noncomputable def h9(L:List du)(sn:Str->Bool):Nat:=(L.map λnd=>if sn nd.x then 0 else nd.cO.length+1).sum
noncomputable def kH(K:List ju):Nat:=(K.map λf=>f.l.length - f.j).sum
theorem EL{a b:Bool}{k:Nat}:(if(a||b)=true then 0 else k)<=if a=true then 0 else k:=by
 induction a with
 |true=>exact c0 _
 |false=>induction b with
  |true=>exact c0 _
  |false=>exact ea _
theorem Lj{sn:Str->Bool}{y:Str}:∀L:List du,h9 L (λz=>sn z||decide (z=y))<=h9 L sn:=by
 intro ba;induction ba with
 |nil=>
  exact ea _
 |cons nd L aw=>
  unfold h9;rw[eE,eE,sum_cons,sum_cons];refine Nat.add_le_add ?_ (aw);exact EL
theorem KG{sn:Str->Bool}{nd:du}(hs:sn nd.x=false):∀L:List du,nd∈L->h9 L (λz=>sn z||decide (z=nd.x))+(nd.cO.length+1)<=h9 L sn:=by
 intro ba;induction ba with
 |nil=>
  intro h;exact absurd h b8
 |cons n L aw=>
  intro h;have e:∀sn,h9 (n::L) sn=(if sn n.x then 0 else n.cO.length+1)+h9 L sn:=λsn=>rfl;rw[e,e];rcases bI.mp h with rfl |h
  ·rw[hs,aQ (by walk_at"o"),aI (by decide),Nat.zero_add,Nat.add_comm];exact Nat.add_le_add_left (Lj L) _
  ·rw[Nat.add_assoc];exact Nat.add_le_add EL (aw h)
noncomputable def bl.nr(S:bl)(q:Obj->Prop):dW:=(S.a,fZ 194 S.dx)::(S.dx,c8 S.attrs)::(S.d,q)::(oa S.cT++S.bq.flatMap e3)
theorem zA{o:Option Obj}{l:List Str}(h:kN o l bZ):cy l bZ:=by
 induction o with
 |none=>exact h
 |some _=>exact h.2
variable {rk:Str->Nat}
section
variable {prog:Program} {w:World} {S:bl} {q:Obj->Prop} {G:dW} {nd:du}
theorem bl.yp(h:nd∈S.bq){c:Addr×(Obj->Prop)}(U:c∈e3 nd):c∈S.nr q++G:=b6 _ (.tail _ (.tail _ (.tail _ (b9 _ (List.mem_flatMap.mpr ⟨nd,h,U⟩)))))
theorem Ky{d:Addr}{l:List (Str×Addr)}(hz:(d,q)∈cs)(aG:∀o,q o->eO w l o)(hd:(d==sysModules)=false)(W:Addr->Prop)(h:Heap)(a0:∀b,(ay cs).J b->W b)(aa:(ay cs).P h)(v:Value)(aq:a6 w h W (.val (.ref d)) v):a6 w h W (.eP (l.map (·.1)) (l.map λz=> .val (.ref z.2))) v:=by
 refine ah (aa.2 _ hz) λo aj BE=>?_;refine wJ (cs:=[(d,eO w l)]) (.head _) hd W h (λb I=>?_) ⟨List.nodup_cons.mpr ⟨b8,nodup_nil⟩,λc U=>?_⟩ v aq
 ·rw[show b=d from cQ.mp I];exact a0 d (oc hz)
 ·rw[cQ.mp U];exact⟨o,aj,aG o BE⟩
structure rJ (S:bl) (t:vN) (m:Loc):Prop where
 a:bM m "n2i" (.val (.ref S.d))
 b:bM m "stack" (.val (.ref t.st))
 c:bM m "itstack" (.val (.ref t.eK))
 d:bM m "seen" (.val (.ref t.j0))
 e:bM m "node2stacki" (.val (.ref t.fJ))
theorem rJ.node{t:vN}{p:ak}(h:rJ S t m):rJ S t (("node",p)::m):=
 ⟨bS (by kernel_rfl) h.a,bS (by kernel_rfl) h.b,bS (by kernel_rfl) h.c,bS (by kernel_rfl) h.d,bS (by kernel_rfl) h.e⟩
structure Cn (S:bl) (rk:Str->Nat) (K:List ju):Prop where
 ok:∀f∈K,∃nd∈S.bq,f.y=nd.x/\f.c=nd.c/\f.l=nd.cO
 ym:K.Pairwise λf g=>rk f.y < rk g.y
theorem Fc{q':Obj->Prop}(aa:(ay (X++(S.nr q++G))).P h)(aG:∃o,h.get? S.d=some o/\q' o):(ay (X++(S.nr q'++G))).P h:=by
 have e:br (X++(S.nr q'++G))=br (X++(S.nr q++G)):=by simp only[bl.nr,br,map_append,map_cons]
 refine⟨by rw[e];exact aa.1,λc U=>?_⟩;rcases dk.mp U with U |U
 ·exact aa.2 c (b6 _ U)
 rcases dk.mp U with U |U
 ·rcases bI.mp U with rfl |U
  ·exact aa.2 _ (b9 _ (.head _))
  rcases bI.mp U with rfl |U
  ·exact aa.2 _ (b9 _ (.tail _ (.head _)))
  rcases bI.mp U with rfl |U
  ·exact aG
  ·exact aa.2 c (b9 _ (b6 _ (.tail _ (.tail _ (.tail _ U)))))
 ·exact aa.2 c (b9 _ (b9 _ U))
theorem b0.Vg{r:Rs}{e:Expr}{b:Bool}(x:b0 r r')(h:gE prog w n env m r' e b):gE prog w n env m r e b:=
 λW A s Q E ai st a0 aa a4=>h W A s Q E ai st (λa af=>a0 a ((x.1 a).mpr af)) (x.2 _ aa) a4
theorem wW{f:ju}{K:List ju}:f9 (f::K)=f9 K++[f.y]:=by unfold f9;rw[eE,reverse_cons]
theorem kws_cons{f:ju}{K:List ju}:lx (f::K)=lx K++[f.wp]:=by unfold lx;rw[eE,reverse_cons]
theorem kys_len{K:List ju}:(f9 K).length=K.length:=by unfold f9;rw[length_reverse,bO]
theorem zG{K:List ju}:(lx K).length=K.length:=by unfold lx;rw[length_reverse,bO]
theorem MW(g:S.Good)(kd:S.iR)(v5:∀e∈fr,rD G e)(o3:∀nd∈S.bq,∀z∈nd.cO,(∃eT∈S.bq,eT.x=z)/\rk z < rk nd.x)(we:h9 S.bq (λ_=>false)<=900):
  iw prog w 3 fr 184 [.val (.ref S.a)] (ay (S.cells w++G)) (λp r'=>p= .none/\b0 r' (ay (S.cells w++G))):=by
 have de:sizeLine=2 ^ 24:=rfl;refine iw.of (args:=[.val (.ref S.a)]) (names:=["self"]) (c:=183) (by exact⟨rfl,rfl,rfl,rfl,rfl,rfl,rfl,ej (by kernel_rfl),rfl,rfl,rfl,kinds_of (by kernel_rfl),rfl,rfl,rfl,by dsimp only,by dsimp only,by kernel_rfl⟩) (by exact rfl) ⟨trivial,trivial⟩ (λW A s vs cJ c6 g low bb a4=>sE g bb (λv=>by exact rfl) a4) ?_;intro env a9 ec fE lr;have bx:∀A:Around,qt 2 (env::fr) A->bK 2 A:=λA h=>h.1;show bt prog w _ env [("self",.val (.ref S.a))] _ _ _;refine hL λxR oz=>?_;refine bt.cons (dC.of bx (mg (p:= .val (.ref S.d)) (lK (aV.name (by walk_at"l") (by kernel_rfl)) (b6 _ S.hq) (b6 _ S.hn) h6 (hM _) uD (by exact rfl) (λi q=>by cases q) rfl) trivial (.inl (by walk_at"k")) ?_ rfl));refine bt.cons (dC.of bx (pE yR (.inl (by walk_at"k")) ?_ rfl));intro _ _ dg _;refine ah dg λst dr e6=>?_;subst dr;subst e6;refine bt.cons (dC.of bx (pE I6 (.inl (by walk_at"k")) ?_ rfl));intro _ _ e8 _;refine ah e8 λeK hV jm=>?_;subst hV;subst jm;refine bt.cons (dC.of bx (pE (Jf (fA (by walk_at"k") NY (by exact rfl) (by decide+kernel) (by kernel_rfl)) rfl) (.inl (by walk_at"k")) ?_ rfl));intro _ _ gR _;refine ah gR λj0 kj mH=>?_;subst kj;subst mH;refine bt.cons (dC.of bx (pE I4 (.inl (by walk_at"k")) ?_ rfl));intro _ _ iE _;refine dK iE λfJ oV oG xO=>?_;subst oV;subst oG
 let t:vN:=⟨st,eK,fJ,j0⟩
 have Bv:b0 (ay (S.cells w++G++[(st,cy [])]++[(eK,fD [])]++[(j0,iy prog w (λ_=>false) 0)]++[(fJ,fs prog w [])])) (ay (gJ prog w t [] (λ_=>false) 0 (S.nr (eO w S.pairs)++G))):=by
  refine uG ((perm_append_singleton _ _).trans ?_);refine(((perm_append_singleton _ _).trans (((perm_append_singleton _ _).trans ((perm_append_singleton _ _).cons _)).cons _)).cons _).trans ?_;exact((((Perm.swap _ _ _).cons _).cons _).trans ((Perm.swap _ _ _).cons _)).trans ((Perm.swap _ _ _).trans ((((Perm.swap _ _ _).cons _).cons _).trans ((Perm.swap _ _ _).cons _)))
 refine Bv.lB ?_
 let iN:Obj->Nat->Loc->Rs->Prop:=λo j m' r'=>∃sn k,b0 r' (ay (gJ prog w t [] sn k (S.nr (λbZ=>bZ=o/\eO w S.pairs bZ)++G)))/\rJ S t m'/\k+h9 S.bq sn<=900
 refine bt.cons (C8 bx (p:=eO w S.pairs) (c:=S.d) (l:=S.pairs.map (·.1)) iN
  (aV.name (by walk_at"l") (by kernel_rfl)) (q7 (.tail _ (.tail _ (.head _)))) (λo aj=> .dict g.sys aj) (.inl (by walk_at"k")) (λo aj=>?_) ?_ ?_ ?_ λ_=>rfl)
 ·refine⟨ay (gJ prog w t [] (λ_=>false) 0 (S.nr (λbZ=>bZ=o/\eO w S.pairs bZ)++G)),rfl,λh aa cR=>Fc (X:=[(st,cy []),(eK,fD []),(fJ,fs prog w []),(j0,iy prog w (λ_=>false) 0)]) aa ⟨o,cR,rfl,aj⟩,_,_,.refl _,⟨by walk_at"l",by walk_at"l",by walk_at"l",by walk_at"l",by walk_at"l"⟩,by rw[Nat.zero_add];exact we⟩
 ·intro o j m' r' h oZ b5;refine bj oZ λsn k le _ _=>?_;refine ah ((le.2 h b5).2 (S.d,_) (q7 (.tail _ (.tail _ (.head _))))) λbZ cR aG=>?_;rw[cR,aG.1]
 ·intro o j p m' r' gZ r6;refine hL λqb ia=>?_;refine bj r6 λsn k le L ar=>?_;rw[eb] at gZ;replace gZ:=gZ;refine ah (h7.mp gZ) λy av aU=>?_;subst aU;obtain⟨nd,bo,rfl⟩:∃nd∈S.bq,nd.x=y:=by
   have:=eW av;unfold bl.pairs at this;rw[dX] at this;refine ah (bA.mp this) λnd bo e=>?_;exact⟨nd,bo,e⟩
  let B:dW:=S.nr (λbZ=>bZ=o/\eO w S.pairs bZ)++G
  have Cz:∀e∈fr,rD B e:=λe he=>let⟨a1,a2,o,dG,fo⟩:=v5 e he;⟨a1,a2,o,dG,b9 _ fo⟩
  refine le.lB ?_;refine bt.cons (n9 bx (c:=sn nd.x) (Dg (aV.name a5 (by kernel_rfl)) (aV.name L.node.d (by kernel_rfl)) xq rfl) (λ_=>bt.cons (dC.cont <| by subst ia;exact⟨sn,k,.refl _,L.node,ar⟩)) λG1=>bt.nil ?_)
  let pA:Nat->Loc->Rs->Prop:=λκ m' r'=>∃K sn k nd,b0 r' (ay (gJ prog w t K sn k B))/\rJ S t m'/\bM m' "node" (.str nd.x)/\nd∈S.bq/\Cn S rk K/\(∀f∈K,rk nd.x < rk f.y)/\κ=h9 S.bq sn+kH K/\K.length<=k/\k+κ<=900
  refine bt.cons (y0 bx pA
   (h9 S.bq sn) ⟨[],sn,k,nd,.refl _,L.node,a5,bo,⟨λ_ h=>(by exact absurd h b8),.nil⟩,λ_ h=>(by exact absurd h b8),rfl,c0 _,ar⟩ ?_)
  clear G1 ar gZ av L le bo;clear nd;intro κ m' r' rZ;refine Rw rZ λK sn k nd le L aA bo lJ bf HE p9 ar=>?_;refine⟨true,bV.R (bV.plain Ev.bool hb.bool λ_=>rfl),λ_=>hL λBp nG=>le.lB ?_,λh=>by injection h⟩;have HV:nd.x∉f9 K:=λq=>by
   refine ah (bA.mp (List.mem_reverse.mp q)) λf hf e=>?_;have:=bf f hf;rw[e] at this;exact Nat.lt_irrefl _ this
  refine bt.cons (dC.mono (Φ:=λer dF eY=>er= .next/\∃K sn k,b0 eY (ay (gJ prog w t K sn k B))/\rJ S t dF/\Cn S rk K/\K.length<=k/\k+(h9 S.bq sn+kH K)<=900/\h9 S.bq sn+kH K<=κ)
   (n9 bx (c:=sn nd.x) (Dg (aV.name aA (by kernel_rfl)) (aV.name L.d (by kernel_rfl)) xq rfl) (λ_=>?_) λhs=>bt.of bx ?_) ?_)
  ·refine bt.cons (n9 bx (c:=false) (JD (aV.name aA (by kernel_rfl)) (aV.name L.e (by kernel_rfl)) FL xO HV rfl) (λh=>by injection h) λ_=>bt.nil (bt.nil ⟨rfl,K,sn,k,.refl _,L,lJ,p9,HE▸ar,Nat.le_of_eq HE.symm⟩))
  ·
   refine hL λHa rF=>?_;refine aZ.cons (Jl (aV.name L.d (by kernel_rfl)) (dd.cons (aV.name aA (by kernel_rfl)) dd.nil rfl) xq (by walk_at"o") ?_ rfl rfl rfl rfl (jB a9) rfl);refine(NN (sn':=λz=>sn z||decide (z=nd.x)) (k':=k+1) (by rw[hs];rfl)).ex ?_;refine aZ.cons (IW (aV.name L.c (by kernel_rfl)) zR (IM (J4 (c:=nd.c) (l:=nd.cO) (fA (by walk_at"k") Ek (by exact rfl) (by decide+kernel) (by kernel_rfl))
    (ud (x:=nd.b) (dx:=nd.hc) (mem:=100) (i:=2) (aV.item (n8 (aV.name L.a (by kernel_rfl)) (Ky (q:=λbZ=>bZ=o/\eO w S.pairs bZ) (q7 (.tail _ (.tail _ (.head _)))) (λo h=>h.2) g.sys)) (aV.name aA (by kernel_rfl)) Typed.eP mn.lookup (sz (by rw[wz,S.find g bo];rfl)) λ_ _=>rfl)
     (q7 (S.yp bo (.tail _ (.head _)))) (q7 (S.yp bo (.head _))) q4 (q8 _) zo zD ze wI rfl (λi q=>by cases q) rfl)
    (q7 (S.yp bo (.tail _ (.tail _ (.head _))))) (λ_ h=>zA h) rfl rfl rfl) rfl) ?_ rfl rfl rfl rfl rfl (jB a9) rfl)
   intro _ _ rT;refine dP rT λit wp rY rx=>?_;subst rY;subst rx;refine⟨wp,_,rfl,rfl,b6 _ (b6 _ zR),by rw[zG];walk_at"o",?_⟩;refine(M9 rfl).ex ?_
   let f:ju:=⟨nd.x,nd.c,nd.cO,0,it,wp⟩
   refine aZ.cons (Ji (Ds (fA (by walk_at"k") og (by exact rfl) (by decide+kernel) (by kernel_rfl)) (dd.cons (n8 (aV.name L.b (by kernel_rfl)) (uk (.head _))) dd.nil rfl) (LN (by rw[cz,kys_len];walk_at"o")) rfl rfl) (aV.name L.e (by kernel_rfl)) (aV.name aA (by kernel_rfl)) (.tail _ (.tail _ (.head _))) HV (by rw[kys_len];walk_at"o") ?_ rfl);refine(PK (f:=f) (by rw[wW])).ex ?_;refine aZ.cons (wy (id:="list.append") (l:=f9 K) (l':=f9 K++[nd.x]) (ps:=[.str nd.x]) lR (aV.name L.b (by kernel_rfl)) (.head _) (dd.cons (aV.name aA (by kernel_rfl)) dd.nil rfl) ⟨trivial,trivial⟩ (by rw[j5];exact i0.append (by rw[cz,kys_len];walk_at"o")) ?_ rfl rfl rfl rfl (jB a9) rfl);have tP:gJ prog w t (f::K) (λz=>sn z||decide (z=nd.x)) (k+1) B=(t.st,cy (f9 K++[nd.x]))::(t.eK,fD (lx K++[wp]))::(t.fJ,fs prog w (f9 (f::K)))::(it,iv nd.c 0)::(wp,jG it)::(K.flatMap sO++(t.j0,iy prog w (λz=>sn z||decide (z=nd.x)) (k+1))::B):=by
    unfold gJ;rw[kws_cons,wW];rfl
   subst rF;refine PE.ex (aZ.nil ⟨rfl,f::K,_,k+1,.of_eq (congrArg ay tP.symm),L,⟨λf' hg=>?_,.cons (λf' hg=>bf f' hg) lJ.ym⟩,Nat.succ_le_succ p9,?_,?_⟩)
   ·rcases bI.mp hg with rfl |hg
    ·exact⟨nd,bo,rfl,rfl,rfl⟩
    ·exact lJ.ok f' hg
   all_goals
    have ab:=KG hs S.bq bo;have ae:kH (f::K)=nd.cO.length+kH K:=rfl;walk_at"o"
  ·intro er dF eY vp;obtain⟨rC,K,sn,k,le,L,lJ,p9,ar,AP⟩:=vp;subst rC
   let vX:Nat->Loc->Rs->Prop:=λHs m' r'=>∃K,b0 r' (ay (gJ prog w t K sn k B))/\rJ S t m'/\Cn S rk K/\K.length<=k/\k+(h9 S.bq sn+kH K)<=900/\h9 S.bq sn+kH K<=κ/\Hs=K.length
   refine le.lB (bt.cons (y0 bx vX K.length ⟨K,.refl _,L,lJ,p9,ar,AP,rfl⟩ ?_));clear le L lJ p9 ar AP;clear K;intro Hs m' r' Ap;refine Gn Ap λK le L lJ p9 ar AP rq=>?_;subst rq;refine⟨!(aB (f9 K)).isEmpty,le.Vg (gE.plain (n8 (aV.name L.b (by kernel_rfl)) (uk FH)) (hb.bw (by rw[cz,kys_len];walk_at"o")) λ_=>rfl),λI=>hL λWj GF=>le.lB ?_,λI=>le.lB ?_⟩
   ·induction K with
    |nil=>injection I
    |cons f K=>
     refine iD (lJ.ok f (.head _)) λnd bo ax aD a8=>?_;have U:∀{X:dW},(nd.c,kN nd.pin nd.cO)∈X++(t.j0,iy prog w sn k)::B:=b9 _ (.tail _ (S.yp bo (.tail _ (.tail _ (.head _)))));have tP:gJ prog w t (f::K) sn k B=(t.st,cy (f9 K++[f.y]))::(t.eK,fD (lx K++[f.wp]))::(t.fJ,fs prog w (f9 K++[f.y]))::(f.it,iv f.c f.j)::(f.wp,jG f.it)::(K.flatMap sO++(t.j0,iy prog w sn k)::B):=by
      unfold gJ;rw[kws_cons,wW];rfl
     have Wf:K.length+1<=k:=p9;have V0:kH (f::K)=(f.l.length - f.j)+kH K:=rfl;induction aN:f.l[f.j]? with
     |some x=>
      have ag:x∈nd.cO:=a8▸eW aN;refine aE (o3 nd bo x ag) λa7 cu=>?_;refine ah a7 λeT pZ bk=>?_;subst bk;have lE:=i8 aN;refine bt.cons (IV bx (c:=f.c) (j:=f.j) (l:=f.l) (p:=kN nd.pin nd.cO) L.c (kws_cons▸zR) (.tail _ (.tail _ (.tail _ (.tail _ (.head _))))) (.tail _ (.tail _ (.tail _ (.head _)))) (by rw[aD];exact .tail _ (.tail _ (.tail _ (.tail _ (.tail _ U))))) (λo h=>a8▸zA h) (by rw[zG];walk_at"o") aN (by walk_at"k") ?_ rfl);subst GF nG;refine bt.nil ⟨h9 S.bq sn+kH ({f with j:=f.j+1}::K),?_,{f with j:=f.j+1}::K,sn,k,eT,le_next,L.node,a5,pZ,⟨λf' hg=>?_,?_⟩,λf' hg=>?_,rfl,p9,?_⟩
      ·have:kH ({f with j:=f.j+1}::K)=(f.l.length - (f.j+1))+kH K:=rfl;walk_at"o"
      ·rcases bI.mp hg with rfl |hg
       ·exact⟨nd,bo,ax,aD,a8⟩
       ·exact lJ.ok f' (.tail _ hg)
      ·refine aE (k5.mp lJ.ym) λab ae=>?_;exact .cons (λf' hg=>ab f' hg) ae
      ·rcases bI.mp hg with rfl |hg
       ·show rk eT.x < rk f.y;rw[ax];exact cu
       ·exact Nat.lt_trans cu (ax▸(k5.mp lJ.ym).1 f' hg)
      ·have:kH ({f with j:=f.j+1}::K)=(f.l.length - (f.j+1))+kH K:=rfl;walk_at"o"
     |none=>
      rw[tP];refine bt.cons (Jo (l:=f.l) (p:=kN nd.pin nd.cO) L.c L.b L.e (by rw[aD];exact U) (λo h=>a8▸zA h) (by rw[zG];walk_at"o") (by rw[kys_len];walk_at"o") aN (λe he=>?_) lr (by walk_at"k") (jB a9) rfl rfl ?_ rfl rfl)
      ·refine cB (Cz e he) λa1 a2 bz=>?_;refine ah bz λo dG fo=>?_;exact⟨a1,a2,o,dG,b9 _ (.tail _ fo)⟩
      ·subst GF;refine bt.nil ⟨K.length,k6 _,K,.refl _,L,⟨λf' hg=>lJ.ok f' (.tail _ hg),(k5.mp lJ.ym).2⟩,by exact lP ‹_›,by walk_at"o",by walk_at"o",rfl⟩
   ·induction K with
    |cons f K=>exfalso;rw[wW,j5] at I;simp[aB] at I
    |nil=>subst nG ia;exact bt.cons (dC.brk (bt.nil ⟨sn,k,.refl _,L,ar⟩))
 ·intro o m' r' AK;refine bj AK λsn k le L ar=>?_;refine bt.nil (le.lB ?_);refine(bt.drop (r':=ay (S.cells w++G)) ?_ (λa af=> .tail _ (.tail _ (.tail _ (.tail _ af)))) λh aa=>?_)
  ·subst oz;exact bt.cons (dC.of bx (ek.ret (Ev.R Ev.none) trivial ⟨rfl,.refl _⟩))
  ·refine aE (Fc (X:=[(st,cy []),(eK,fD []),(fJ,fs prog w []),(j0,iy prog w sn k)]) (q':=eO w S.pairs) aa (ah (aa.2 (S.d,_) (q7 (.tail _ (.tail _ (.head _))))) λbZ e q=>⟨bZ,e,q.2⟩)) λab ae=>?_;exact⟨(gL (l₁:=[st,eK,fJ,j0])).mp ab |>.2.1,λc U=>ae c (.tail _ (.tail _ (.tail _ (.tail _ U))))⟩
end
theorem O4{α:Type}{φ:α->ak}{f:ak->ak}{d:α->Bool}{g:α->ak}:∀{l:List α},(∀x∈l,t (φ x)=d x)->(∀x∈l,f (φ x)=g x)->((l.map φ).filter t).map f=(l.filter d).map g:=by
 intro ba;induction ba with
 |nil=>
  intro _ _;exact rfl
 |cons x l aw=>
  intro aM hf;have aw:=aw (λy av=>aM y (.tail _ av)) λy av=>hf y (.tail _ av);rw[eE,fM,fM,aM x (.head _)];induction d x with
  |true=>rw[aQ rfl,aQ rfl,eE,eE,aw,hf x (.head _)]
  |false=>rw[aI (by decide),aI (by decide),aw]
theorem bt.nodup{K:Around->Prop}(h:(br cs).Nodup->bt prog w K env m (ay cs) ss Φ):bt prog w K env m (ay cs) ss Φ:=λs₀ W₀ aJ ad A s E ai F=>h F.p.1 s₀ W₀ aJ ad A s E ai F
theorem Nw:∀{L:List du},(br (L.flatMap e3)).Nodup->∀nd∈L,∀eT∈L,nd.b=eT.b->nd=eT:=by
 intro L;induction L with
 |nil=>exact λ_ nd h=>absurd h b8
 |cons n L aw=>
  intro aA nd h eT h' e;have gS:(n.hc::n.b::n.c::br (L.flatMap e3)).Nodup:=aA;have key:∀nd∈L,n.b≠nd.b:=λnd h q=>by
   have:=(List.nodup_cons.mp (List.nodup_cons.mp gS).2).1;refine this (.tail _ ?_);rw[q];exact bA.mpr ⟨(nd.b,_),List.mem_flatMap.mpr ⟨nd,h,.tail _ (.head _)⟩,rfl⟩
  rcases bI.mp h with q |q<;>rcases bI.mp h' with q' |q'
  ·rw[q,q']
  ·exact absurd (q▸e) (key eT q')
  ·exact absurd (q'▸e.symm) (key nd q)
  ·exact aw (List.nodup_cons.mp (List.nodup_cons.mp (List.nodup_cons.mp gS).2).2).2 nd q eT q' e
theorem iw.mono{f:Addr}{r:Rs}(h:iw prog w n fr f args r Ψ)(k:∀p r',Ψ p r'->kl p r'):iw prog w n fr f args r kl:=
 λs₀ s W₀ aJ A vs Q E a1 a2 dG fo lI qH wk CK CR gU jq a4=>h s₀ s W₀ aJ A vs Q E a1 a2 dG fo lI qH wk CK CR gU jq λp v r' s' cU=>a4 p v r' s' (k p r' cU)
section
variable {prog:Program} {w:World} {S:bl} {G:dW}
noncomputable def kD(S:bl):List Str:=(S.bq.filter λnd=>nd.np==0).map (·.x)
theorem Kl(g:S.Good)(kd:S.iR)(bf:S.cT=none)(v5:∀e∈fr,rD G e)(o3:∀nd∈S.bq,∀z∈nd.cO,(∃eT∈S.bq,eT.x=z)/\rk z < rk nd.x)(we:h9 S.bq (λ_=>false)<=900):
  iw prog w 4 fr 149 [.val (.ref S.a)] (ay (S.cells w++G)) (λp r'=>p= .none/\∃ez,b0 r' (ay (bl.cells w {S with cT:=some (ez,kD S)}++G))):=by
 have de:sizeLine=2 ^ 24:=rfl;refine iw.of (args:=[.val (.ref S.a)]) (names:=["self"]) (c:=148) (by exact⟨rfl,rfl,rfl,rfl,rfl,rfl,rfl,ej (by kernel_rfl),rfl,rfl,rfl,kinds_of (by kernel_rfl),rfl,rfl,rfl,by dsimp only,by dsimp only,by kernel_rfl⟩) (by exact rfl) ⟨trivial,trivial⟩ (λW A s vs cJ c6 g low bb a4=>sE g bb (λv=>by exact rfl) a4) ?_;intro env a9 ec fE lr;have bx:∀A:Around,qt 3 (env::fr) A->bK 3 A:=λA h=>h.1;show bt prog w _ env [("self",.val (.ref S.a))] _ _ _;refine bt.nodup λbo=>?_;have I:∀nd∈S.bq,S.bq.find? (λz=>z.b==nd.b)=some nd:=λnd h=>by
  have aA:(br (S.bq.flatMap e3)).Nodup:=by
   unfold br at bo;rw[dY,bl.cells,dY] at bo;exact(gL.mp (gL.mp bo).1).2.1
  induction q:S.bq.find? (λz=>z.b==nd.b) with
  |none=>exact absurd (List.find?_eq_none.mp q nd h) (by walk_at"o")
  |some z=>
   have ab:=mem_of_find?_eq_some q;have ae:=find?_some q;rw[Nw aA z ab nd h (eq_of_beq ae)]
 let look:ak->Option du:=λp=>match p with | .val (.ref b)=>S.bq.find? (λz=>z.b==b) |_=>none
 let qs:ak->Bool:=λp=>((look p).map λnd=>nd.np==0).getD false
 let HG:ak->ak:=λp=> .str (((look p).map (·.x)).getD "")
 have lC:S.pairs.map (λz=>ak.val (.ref z.2))=S.bq.map λnd=> .val (.ref nd.b):=by unfold bl.pairs;rw[dX];rfl
 have o9:∀{c:Addr×(Obj->Prop)},c∈S.cells w->c∈S.cells w++G:=λh=>b6 _ h;have attr:∀{n:Nat} {env:Env} {m:Loc} {name:Str} {mem:Addr} {i:Nat} {p:ak} {nd:du} {bX cf:Pos},nd∈S.bq->bM m "i" (.val (.ref nd.b))->findIn (KF w) (.ref 97) name=some (some (.ref mem))->specialIn (KF w) (.ref mem) "__get__"=some (some (.builtin "member_descriptor.__get__"))->takesIn (KF w) (.ref mem)=some true->slotIn (KF w) mem 97=some i->mA nd.x nd.np nd.c i=some p->(∀i,p≠ .val (.builtin i))->attributeBase (.Name "i" bX) name env (eval (.Name "i" bX) env)=eval (.Name "i" bX) env->aV prog w n env m (ay (S.cells w++G)) (.Attribute (.Name "i" bX) name cf) p:=
  λ{n env m name mem i p nd bX cf} h ao a1 a2 dG fo lI qH wk=>ud (x:=nd.b) (dx:=nd.hc) (aV.name ao (by kernel_rfl)) (o9 (S.qJ h)) (o9 (S.qF h)) q4 (q8 _) a1 a2 dG fo lI qH wk
 refine bt.cons (n9 bx (c:=false) (gE.cmp (p:= .none) (lK (kv:=S.attrs) (aV.name (by walk_at"l") (by kernel_rfl)) (o9 S.hq) (o9 S.hn) h6 (hM _) uz (by unfold bl.attrs;rw[bf];exact rfl) (λi q=>by injection q) rfl) (Ev.R Ev.none) wx (by with_unfolding_all rfl)) (λh=>by injection h) λ_=>bt.nil ?_);refine bt.cons (dC.of bx (CU (x:=S.a) (dx:=S.dx) (C:=194) (I5 (mf:=[]) (c:=false) (ps:=S.bq.map λnd=> .val (.ref nd.b)) (t:=qs) (f:=HG) (l:=kD S) (λy p h=>?_) a9 (λW A s ai st a0 aa=>?_) ⟨λ_ _=>rfl,λ_=>rfl,by kernel_rfl,by kernel_rfl,by decide+kernel,rfl⟩ (λ_ _ h=>by injection h) ?_ (λp aa _=>trivial) (λp aa cenv dR=>?_) (λp aa aM cenv dR=>?_) (λ_=>rfl) ?_) qV qU Ez h6 ?_ rfl))
 ·simp only[List.lookup] at h;replace h:=h;split at h
  ·obtain rfl:=bT h;exact⟨_,rfl⟩
  ·injection h
 ·rw[<-lC];exact KD ai st a0 aa (lK (kv:=S.attrs) (aV.name (by walk_at"l") (by kernel_rfl)) (o9 S.hq) (o9 S.hn) h6 (hM _) uD (by exact rfl) (λi q=>by cases q) rfl) (o9 S.wc) g.sys rfl rfl
 ·rw[bO];have:=g.qo;exact bH ‹_› rfl
 ·refine ah (bA.mp aa) λnd hm aU=>?_;subst aU;have e:qs (.val (.ref nd.b))=(nd.np==0):=by show((S.bq.find? _).map _).getD false=_;rw[I nd hm];rfl
  rw[e];exact om.one (gE.cmp (attr hm a5 wX w9 wK qW rfl (λi q=>by injection q) rfl) (Ev.R Ev.int) sF (by with_unfolding_all rfl))
 ·refine ah (bA.mp aa) λnd hm a7=>?_;subst a7;have e:HG (.val (.ref nd.b))= .str nd.x:=by show ak.str (((S.bq.find? _).map _).getD "")=_;rw[I nd hm];rfl
  rw[e];exact attr hm a5 Ma Np LJ Ej rfl (λi q=>by injection q) rfl
 ·rw[O4 (d:=λnd=>nd.np==0) (g:=λnd=>ak.str nd.x) (λnd hm=>by show((S.bq.find? _).map _).getD false=_;rw[I nd hm];rfl) (λnd hm=>by show ak.str (((S.bq.find? _).map _).getD "")=_;rw[I nd hm];rfl)];unfold kD aB;rw[dX];rfl
 intro _ _ dg;refine ah dg λD dr e6=>?_;subst dr;subst e6
 let b3:bl:={S with cT:=some (D,kD S)}
 refine⟨trivial,S.cells w++G++[(D,cy (kD S))],S.attrs,.refl _,aV.name (by walk_at"l") (by kernel_rfl),b6 _ (o9 S.hq),b6 _ (o9 S.hn),show(4:Nat)<=100 by decide,?_⟩;have vM:b0 (ay (setC (S.cells w++G++[(D,cy (kD S))]) S.dx (c8 (iB "_ready_nodes" (.val (.ref D)) S.attrs)))) (ay (b3.cells w++G)):=by
  have ax:iB "_ready_nodes" (.val (.ref D)) S.attrs=b3.attrs:=by exact rfl
  rw[ax];have aD:b3.cells w++G=(S.a,fZ 194 S.dx)::(S.dx,c8 b3.attrs)::(S.d,eO w S.pairs)::(D,cy (kD S))::(S.bq.flatMap e3++G):=rfl;have a8:S.cells w++G=(S.a,fZ 194 S.dx)::(S.dx,c8 S.attrs)::(S.d,eO w S.pairs)::(S.bq.flatMap e3++G):=by unfold bl.cells;rw[bf];rfl
  rw[aD,a8];refine(kb (cs:=((S.a,fZ 194 S.dx)::(S.dx,c8 S.attrs)::(S.d,eO w S.pairs)::(S.bq.flatMap e3++G))++[(D,cy (kD S))]) (cs':=(S.a,fZ 194 S.dx)::(S.dx,c8 b3.attrs)::(S.d,eO w S.pairs)::((S.bq.flatMap e3++G)++[(D,cy (kD S))])) rfl (.tail _ (.head _)) λc U=>?_).trans (uG ((((perm_append_singleton _ _).cons _).cons _).cons _));rcases bI.mp U with rfl |U
  ·exact .inr (.head _)
  rcases bI.mp U with rfl |U
  ·exact .inl rfl
  ·exact .inr (.tail _ (.tail _ U))
 refine vM.lB ?_;have g1:b3.Good:=⟨g.nd,g.sys,g.qo⟩
 have Hm:∀{c:Addr×(Obj->Prop)},c∈b3.cells w->c∈b3.cells w++G:=λh=>b6 _ h;refine bt.cons (yV (C9 (n:=3) (fr:=env::fr) (x:=b3.a) (dx:=b3.dx) (C:=194) (f:=184) (kv:=b3.attrs) (Ψ:=λp r'=>p= .none/\b0 r' (ay (b3.cells w++G))) (aV.name (by walk_at"l") (by kernel_rfl)) (Hm b3.hq) (Hm b3.hn) (hM _) Lq NP (by exact rfl) (by exact rfl) (by exact rfl) dd.nil trivial (λo aj=>?_) (.inl rfl) rfl) (.inl (by walk_at"k")) ?_ rfl)
 ·have:=MW (prog:=prog) (w:=w) (S:=b3) (G:=G++[(env.locals,jD o)]) (fr:=env::fr) g1 kd (λe he=>?_) o3 we
  ·rw[<-h8] at this;exact this.mono λp r' h=>⟨_,h.2,h.1,.refl _⟩
  ·rcases bI.mp he with rfl |he
   ·exact⟨by rw[a9.fn];decide,lr,o,aj,b9 _ (.head _)⟩
   ·refine cB (v5 e he) λa1 a2 bk=>?_;refine ah bk λbZ dG fo=>?_;exact⟨a1,a2,bZ,dG,b6 _ fo⟩
 intro _ r' e8 _;refine aE e8 λhV oM=>?_;subst hV;refine bt.cons (n9 bx (c:=false) (gE.plain (aV.name a5 (by kernel_rfl)) hb.none λ_=>rfl) (λh=>by injection h) λ_=>bt.nil (bt.nil ⟨rfl,D,oM⟩))
end
noncomputable def pN(row:List Str)(k:Nat):List Str:=cL row (some (bestOf (λa b=>decide (b < a)) [(0:Int),(k:Nat) - 1])) (some (k:Nat)) none
noncomputable def xc(N:dS)(row:List Str):dS:=(range row.length).foldl (λN k=>nL N (row.getD k "") (pN row k)) N
noncomputable def ja(rows:List (List Str)):dS:=rows.foldl xc []
noncomputable def oy(N:dS)(y:Str):Bool:=N.any λz=>z.1==y
noncomputable def k9(N:dS)(cW:List Str):dS:=cW.foldl (λN z=>lV N z (-1)) N
noncomputable def okN(N:dS)(cW q told:List Str)(y:Str):Bool:=
 oY (k9 N cW) y== -1&&oy (k9 N cW) y&&cW.all (oy N)&&(nM (k9 N cW) y).all (oy (k9 N cW))&&decide ((nM (k9 N cW) y).length<=500/\(cW++q).length<=500/\told.length<=500)
noncomputable def runN:Nat->dS->List Str->List Str->Int->Int->List Str->Option (List Str)
 |0,_,_,_,_,_,_=>none
 |f+1,N,cW,q,po,da,told=>
  if decide (da < po)|| !cW.isEmpty then
   match cW++q with
   |[]=>none
   |y::q'=>if okN N cW q told y then runN f (kc (k9 N cW) [] y).1 (kc (k9 N cW) [] y).2 q' (po+cW.length) (da+1) (told++[y]) else none
  else some told
noncomputable def hk(N:dS):Nat:=(N.map λz=>z.2.2.length+1).sum
theorem N0(N:dS):N.length<=hk N:=by
 induction N with
 |nil=>exact c0 _
 |cons z N aw=>unfold hk at aw ⊢;rw[eE,sum_cons,dJ];walk_at"o"
theorem OV:∀{N:dS} {z},z∈N->z.2.2.length<=hk N:=by
 intro N;induction N with
 |nil=>exact λh=>absurd h b8
 |cons eU N aw=>
  intro z h;unfold hk;rw[eE,sum_cons];rcases bI.mp h with rfl |h
  ·walk_at"o"
  ·have:=aw h;unfold hk at this;walk_at"o"
theorem EH(N:dS)(y:Str):hk (hx N y)<=hk N+1:=by
 unfold hx;split
 ·exact Nat.le_add_right _ _
 ·unfold hk;rw[dY,sum_append];exact ea _
theorem wH{y:Str}(h:(N.map (·.1)).Nodup):((hx N y).map (·.1)).Nodup:=by
 unfold hx;split
 ·exact h
 ·rename_i q;rw[dY];exact gL.mpr ⟨h,by simp,λa af b I e=>q (by have lu:b=y:=cQ.mp I;rw[<-lu, <-e];exact af)⟩
theorem MQ{y:Str}{f:Int×List Str->Int×List Str}:∀{N:dS},y∉N.map (·.1)->jK N y f=N:=by
 intro ba;induction ba with
 |nil=>
  intro _;exact rfl
 |cons z N aw=>
  intro h;unfold jK;rw[eE,aI λq=>h (by rw[eE,q];exact .head _)];exact congrArg _ (aw λq=>h (.tail _ q))
theorem E5{y:Str}{f:Int×List Str->Int×List Str}{c:Nat}(hf:∀q,(f q).2.length<=q.2.length+c):∀{N:dS},(N.map (·.1)).Nodup->hk (jK N y f)<=hk N+c:=by
 intro ba;induction ba with
 |nil=>
  intro _;exact c0 _
 |cons z N aw=>
  intro h;refine aE (List.nodup_cons.mp h) λab ae=>?_;have e:hk (jK (z::N) y f)=((if z.1=y then(z.1,f z.2) else z).2.2.length+1)+hk (jK N y f):=rfl;have aD:hk (z::N)=(z.2.2.length+1)+hk N:=rfl;rw[e,aD];by_cases q:z.1=y
  ·rw[aQ q,MQ (q▸ab)];have:=hf z.2;show((f z.2).2.length+1)+_<=_;walk_at"o"
  ·rw[aI q];have:=aw ae;walk_at"o"
theorem K0{y:Str}(h:(N.map (·.1)).Nodup)(aa:gN.length<=1):hk (nL N y gN)<=hk N+3/\((nL N y gN).map (·.1)).Nodup:=by
 have a1:∀c:Int,hk (jN (hx N y) y c)<=hk N+1:=λc=>ei (E5 (f:=λq=>(q.1+c,q.2)) (c:=0) (λq=>ea _) (wH h)) (EH N y);have kY:∀c:Int,((jN (hx N y) y c).map (·.1)).Nodup:=λc=>by unfold jN;rw[uo];exact wH h
 unfold nL;rcases gN with _ |⟨p,_ |⟨p',r⟩⟩
 ·exact⟨ei (a1 _) (Nat.add_le_add_left (by decide) _),kY _⟩
 ·rw[gM,foldl_nil];refine⟨?_,by unfold s6;rw[uo];exact wH (kY _)⟩;refine ei (E5 (c:=1) (λq=>by rw[fB];exact ea _) (wH (kY _))) ?_;exact ei (Nat.add_le_add_right (EH _ p) 1) (Nat.add_le_add_right (Nat.add_le_add_right (a1 _) 1) 1)
 ·simp only[length_cons] at aa;walk_at"o"
theorem OY:∀n < 6,∀k < n,(let t:=sliceBounds (some (bestOf (λa b=>decide (b < a)) [(0:Int),(k:Nat) - 1])) (some (k:Nat)) none n;sliceRange t.1 t.2.1 t.2.2)=if k=0 then [] else [k - 1]:=by decide+kernel
theorem Dz{row:List Str}{k:Nat}(dA:row.length<=5)(ar:k < row.length):pN row k=if k=0 then [] else [row.getD (k - 1) ""]:=by
 have ab:=OY row.length (Nat.lt_succ_of_le dA) k ar;show filterMap (row[·]?) (let t:=sliceBounds (some (bestOf (λa b=>decide (b < a)) [(0:Int),(k:Nat) - 1])) (some (k:Nat)) none row.length;sliceRange t.1 t.2.1 t.2.2)=_;rw[ab];by_cases e:k=0
 ·rw[aQ e,aQ e];rfl
 ·rw[aI e,aI e];have ae:row[k - 1]? =some row[k - 1]:=cm (Nat.lt_of_le_of_lt (Nat.sub_le _ _) ar);rw[c7,filterMap_cons,ae];rfl
theorem JX{row:List Str}{k:Nat}(dA:row.length<=5)(ar:k < row.length):(pN row k).length<=1:=by
 rw[Dz dA ar];split<;>simp
theorem eX.le{k:Nat}{f:Addr}{r:Rs}(h:eX prog w n f args r Ψ)(ar:n<=k):eX prog w k f args r Ψ:=
 λs₀ s W₀ aJ A vs Q E ai=>h s₀ s W₀ aJ A vs Q E (ai.le ar)
theorem eX.mono{f:Addr}{r:Rs}(h:eX prog w n f args r Ψ)(k:∀p r',Ψ p r'->kl p r'):eX prog w n f args r kl:=
 λs₀ s W₀ aJ A vs Q E a1 a2 dG fo lI qH wk CK CR gU a4=>h s₀ s W₀ aJ A vs Q E a1 a2 dG fo lI qH wk CK CR gU λp v r' s' cU=>a4 p v r' s' (k p r' cU)
theorem iw.le{k:Nat}{f:Addr}{r:Rs}(h:iw prog w n fr f args r Ψ)(ar:n<=k):iw prog w k fr f args r Ψ:=
 λs₀ s W₀ aJ A vs Q E ai=>h s₀ s W₀ aJ A vs Q E (ai.le ar)
theorem Mg:specialIn (KF w) (.ref 144) "__get__"=some (some (.builtin "function.__get__")):=by kernel_rfl
theorem KO:takesIn (KF w) (.ref 144)=some false:=by kernel_rfl
inductive Gi (w:World) (CM:Addr) (G:dW) (N:dS) (t:Nat) (m:Loc) (r:Rs):Prop
 |mk (S:bl) (le:b0 r (ay (S.cells w++G))) (af:S.a=CM) (g:S.Good) (hf:S.iR) (bf:S.cT=Option.none) (aa:S.po=0) (hi:S.da=0) (aA:S.bG=N) (hz:hk N<=3*t) (dH:bM m "sorter" (.val (.ref CM))) (dh:bM m "gifts" (.bw (replicate t .none))) (l0:List.lookup ("told":Str) m=Option.none)
theorem y5{t:Nat}:dB (replicate t ak.none):=kF λp aa=>by rw[eq_of_mem_replicate aa];exact trivial
theorem sC{t:Nat}:replicate t ak.none++[ak.none]=replicate (t+1) ak.none:=List.replicate_succ'.symm
theorem E0{G:dW}{e1:Addr}{P Cw:Obj->Prop}:b0 (ay (setC (X++(G++[(e1,P)])) e1 Cw)) (ay (X++(G++[(e1,Cw)]))):=by
 refine kb ?_ (b9 _ (b9 _ (.head _))) λc U=>?_
 ·simp only[br,map_append,map_cons,map_nil]
 ·rcases dk.mp U with U |U
  ·exact .inr (b6 _ U)
  rcases dk.mp U with U |U
  ·exact .inr (b9 _ (b6 _ U))
  ·exact .inl (cQ.mp U)
theorem zt{y:Str}(h:oy N y=true):y∈N.map (·.1):=by
 refine ah (g8.mp h) λz hz e=>?_;exact bA.mpr ⟨z,hz,eq_of_beq e⟩
theorem Ot{G:dW}{rows:List (List Str)}{fuel:Nat}(v5:∀e∈fr,rD G e)(rl:rows.length<=5)(lg:∀l∈rows,l.length<=5)(o3:∀z∈ja rows,∀x∈z.2.2,x∈(ja rows).map (·.1)/\rk x < rk z.1)
  (e5:runN fuel (ja rows) (((ja rows).filter λz=>z.2.1==0).map (·.1)) [] 0 0 []=some out):iw prog w 7 fr 246 [.list (bF rows)] (ay G) (λp r'=>p= .list (aB out)/\b0 r' (ay G)):=by
 have de:sizeLine=2 ^ 24:=rfl;refine iw.of (args:=[.list (bF rows)]) (names:=["rows"]) (c:=245) (by exact⟨rfl,rfl,rfl,rfl,rfl,rfl,rfl,ej (by kernel_rfl),rfl,rfl,rfl,kinds_of (by kernel_rfl),rfl,rfl,rfl,by dsimp only,by dsimp only,by kernel_rfl⟩) (by exact rfl) ⟨mi,trivial⟩ (λW A s vs cJ c6 g low bb a4=>sE g bb (λv=>by exact rfl) a4) ?_;intro env a9 ec fE lr;have bx:∀A:Around,qt 6 (env::fr) A->bK 6 A:=λA h=>h.1;show bt prog w _ env [("rows",.list (bF rows))] _ _ _;refine hL λxR oz=>?_;refine bt.cons (dC.of bx (pE (fi.make (n:=5) (C:=194) (fI:=130) (ps:=[]) (px:=λdx=>fZ 194 dx) (Ψ:=λp r'=>∃S:bl,p= .val (.ref S.a)/\S.bq=[]/\S.cT=none/\S.po=0/\S.da=0/\(S.d==sysModules)=false/\b0 r' (ay (G++S.cells w))) (fL (by walk_at"k") Kc (by kernel_rfl)) LA Kf Lx P7 dd.nil trivial (λdx=>⟨#[],rfl⟩) (λx dx=>((Mm (base:=G)).le (by decide)).mono λp r' h=>?_) rfl rfl) (.inl (by walk_at"k")) ?_ rfl))
 ·obtain⟨ab,d,ae,aC⟩:=h;exact⟨ab,_,rfl,rfl,rfl,rfl,rfl,ae,aC⟩
 intro _ r' dg _;refine Gn dg λvS dr s1 s2 s3 s4 s5 Bv=>?_;subst dr;refine(Bv.trans (uG perm_append_comm)).lB ?_;refine bt.cons (dC.of bx (df.R (t9 (Φ:=mY (("gifts",.bw [])::("sorter",.val (.ref vS.a))::[("rows",.list (bF rows))])) (.inl (by walk_at"k")) (lookup_miss (by kernel_rfl) (lookup_miss (by kernel_rfl) rfl)) ⟨rfl,rfl⟩ rfl) (λp m h=>by injection (h.1)) ?_));intro _ _ e8;refine aE e8 λe6 hV=>?_;subst e6;subst hV;have T9:vS.bG=[]:=by unfold bl.bG;rw[s1];rfl
 let iN:Nat->Loc->Rs->Prop:=λj m' r'=>∃t,t<=5*j/\Gi w vS.a G ((rows.take j).foldl xc []) t m' r'
 refine bt.cons (dC.of bx (n7 (q:= .list (bF rows)) (ps:=bF rows) iN (Ev.R (by walk_at"e")) cw.list mi (λp aa=>by refine ah (j9 aa) λl _ aU=>?_;subst aU;exact d9) (.inl (by walk_at"k"))
  ⟨0,c0 _,vS,.refl _,rfl,⟨by rw[s1];exact nodup_nil,s5,by rw[s1];exact c0 _⟩,λnd h=>(by rw[s1] at h;exact absurd h b8),s2,s3,s4,T9,c0 _,by walk_at"l",by exact(a5:bM _ _ (.bw [])),lookup_miss (by kernel_rfl) (lookup_miss (by kernel_rfl) (lookup_miss (by kernel_rfl) rfl))⟩ ?_ ?_ (λ_=>rfl)))
 ·intro j p m' r' gZ gR;refine hL λqb ia=>?_;refine ah gR λt aM wh=>?_;rw[eb] at gZ;refine ah (h7.mp gZ) λrow B2 a7=>?_;subst a7;have lE:=i8 B2;have dA:=lg row (eW B2);refine aE (zC (N:=(row.length:Int)) (by walk_at"o") (by walk_at"o")) λgT fb=>?_;have wg:iV 0 (row.length:Int) 1=row.length:=by unfold iV;rw[rangeSize_one];split<;>walk_at"o"
  let pA:Nat->Loc->Rs->Prop:=λi dF eY=>Gi w vS.a G ((range i).foldl (λN k=>nL N (row.getD k "") (pN row k)) ((rows.take j).foldl xc [])) (t+i) dF eY/\bM dF "row" (.list (aB row))
  refine aZ.cons (n7 (q:= .hj 0 row.length 1) (ps:=f3 0 row.length 1) pA
   (Ev.R (Ev.call (fA (by walk_at"k") qQ (by exact rfl) (by decide+kernel) (by kernel_rfl)) (.inr (.inl ⟨"range",rfl⟩)) (aK.cons (p:= .int row.length) (Ev.call (fA (by walk_at"k") og (by exact rfl) (by decide+kernel) (by kernel_rfl)) (.inl ⟨"len",rfl⟩) (aK.cons (Ev.name a5 (by kernel_rfl)) aK.nil rfl) (cz (a:=row)▸Cl.len (by rw[cz];exact bH ‹_› rfl)) rfl rfl) aK.nil rfl) sA rfl rfl))
   (cw.hj gT fb) trivial (λp aa=>by refine ah (bA.mp aa) λi _ bk=>?_;subst bk;exact trivial) (.inl (by walk_at"k")) ⟨?_,a5⟩ ?_ ?_ (λ_=>rfl))
  ·obtain⟨S,ab,ae,aC,bc,dA,jt,m5,qC,qE,dH,dh,l0⟩:=wh;exact⟨S,ab,ae,aC,bc,dA,jt,m5,qC,qE,bS (by kernel_rfl) dH,bS (by kernel_rfl) dh,lookup_miss (by kernel_rfl) l0⟩
  ·intro i p dF eY aa iE;refine hL λBp nG=>?_;refine aE iE λjm pa=>?_;obtain⟨S,le,vG,g,kd,bf,mO,nR,lz,hC,dH,dh,l0⟩:=jm;have mQ:i < row.length:=by
    have:=i8 aa;simp only[f3,length_map,length_range,wg] at this;exact this
   have f6:p= .int (i:Nat):=by
    simp only[f3,getElem?_map] at aa;refine ah (h7.mp aa) λdI ab ae=>?_;have:dI=i:=by
     rw[getElem?_range (by walk_at"o")] at ab;cases ab;rfl
    subst this;rw[<-ae,show(0:Int)+(dI:Nat)*1=dI by walk_at"o"]
   subst f6;rw[<-vG] at dH;replace dH:=dH;have qu:=JX dA mQ;have so:S.bq.length<=90:=by
    have:=N0 S.bG;rw[lz] at this;have ae:S.bG.length=S.bq.length:=bO ..;rw[lz] at ae;walk_at"o"
   refine le.ex (aZ.cons (wt (q:= .bw (replicate (t+i) .none)) (p':=λp=> .bw (replicate (t+i) .none++[p])) (T:="list") (id:="list.append") lR (by walk_at"l") (.inl ⟨_,rfl⟩) Typed.bw
    (IS (x:=S.a) (dx:=S.dx) (C:=194) (f:=144) (kv:=S.attrs) (ps:= .str (row.getD i "")::aB (pN row i)) (aV.name (by walk_at"l") (by kernel_rfl)) (b6 _ S.hq) (b6 _ S.hn) h6 (hM _) KW Nt Mg KO (by kernel_rfl) (by exact rfl) (by exact rfl) (by exact rfl)
     (dd.cons (Ev.R (Ev.item (q:= .list (aB row)) (k:= .int i) (Ev.name (by walk_at"l") (by kernel_rfl)) (Ev.name a5 (by kernel_rfl)) Typed.list fN.lookup (cA.item (by exact nq _) (by rw[Int.toNat_natCast,eb,cm mQ,c7,cm mQ];rfl) (by rw[cz];exact bH ‹_› rfl)) λ_ _=>rfl))
      (J0 (Ev.R (za (l:=row) (a:=some (bestOf (λa b=>decide (b < a)) [(0:Int),(i:Nat) - 1])) (b:=some (i:Nat)) (c:=none) (Ev.name (by walk_at"l") (by kernel_rfl)) (Ev.call (fA (by walk_at"k") EP (by exact rfl) (by decide+kernel) (by kernel_rfl)) (.inl ⟨"max",rfl⟩) (aK.cons (p:= .int 0) Ev.int (aK.cons (p:= .int ((i:Nat) - 1)) (d8 (Ev.name a5 (by kernel_rfl)) Ev.int sD) aK.nil rfl) rfl) Ll rfl rfl) (Ev.name a5 (by kernel_rfl)) trivial (by decide) (by exact bH ‹_› rfl))) (by rw[cz];show(pN row i).length<=_;exact bH ‹_› rfl) rfl) rfl)
     ⟨trivial,d9⟩ (eX.frame (kl:=λp cs'=>p= .none/\∃S',cs'=S'.cells w/\S'.Good/\S'.iR/\mP S S'/\S'.bG=nL S.bG (row.getD i "") (pN row i)) (OT g kd bf qu so λz hz=>?_) λp r' h=>?_) (.inr ⟨_,_,rfl⟩) rfl rfl rfl) ?_ rfl (by kernel_rfl) rfl rfl rfl (jB a9) rfl))
   ·have:=OV hz;rw[lz] at this;walk_at"o"
   ·obtain⟨ab,S',ae,aC,bc,dA,jt⟩:=h;exact⟨S'.cells w,ae,ab,S',rfl,aC,bc,dA,jt⟩
   ·intro p r' oZ _;refine dK oZ λcs' kj mH oG=>?_;refine nI oG λS' oV gv OC xT tK=>?_;subst kj;subst mH;subst oV;subst nG;have AD:=K0 (N:=S.bG) (y:=row.getD i "") (by rw[ua];exact g.nd) qu;refine⟨show dB _ by rw[sC];exact y5,.inl ⟨_,rfl⟩,i0.append (by rw[length_replicate];walk_at"o"),aZ.nil ⟨⟨S',.refl _,xT.a.trans vG,gv,OC,xT.cT.trans bf,xT.po.trans mO,xT.da.trans nR,?_,?_,by rw[vG] at dH;exact bS (by kernel_rfl) (bS (by kernel_rfl) dH),by rw[sC];exact a5,lookup_miss (by kernel_rfl) (lookup_miss (by kernel_rfl) l0)⟩,by walk_at"l"⟩⟩
    ·rw[tK,lz,range_succ,iu];rfl
    ·have ab:=AD.1;rw[lz] at ab;rw[range_succ,iu];show hk (nL _ _ _)<=_;walk_at"o"
  ·intro dF eY r6;refine aE r6 λrY pa=>?_;obtain⟨S,le,ae,aC,bc,T3,jt,m5,qC,qE,dH,dh,l0⟩:=rY;have hlen:(f3 0 (row.length:Int) 1).length=row.length:=by simp only[f3,length_map,length_range,wg]
   subst ia;rw[hlen] at qC qE dh;refine aZ.nil (aZ.nil ⟨t+row.length,by walk_at"o",S,le,ae,aC,bc,T3,jt,m5,?_,?_,dH,dh,l0⟩)
   all_goals
    rw[hO,B2,toList_some,iu]
   ·exact qC
   ·exact qE
 intro m' r' rZ;refine ah rZ λt aM rx=>?_;obtain⟨S,le,vG,g,kd,bf,mO,nR,lz,hC,dH,dh,l0⟩:=rx;have qu:(bF rows).length=rows.length:=bO ..;rw[qu] at aM lz hC;rw[take_length] at lz hC;replace lz:=lz;replace hC:=hC;have u9:S.bG=ja rows:=lz;have AD:hk S.bG<=3*t:=by rw[lz];exact hC
 rw[<-vG] at dH;replace dH:=dH;refine aZ.nil (le.lB ?_);have GI:∀nd∈S.bq,∀z∈nd.cO,(∃eT∈S.bq,eT.x=z)/\rk z < rk nd.x:=λnd bo z hz=>by
  refine aE (o3 (nd.x,nd.np,nd.cO) (u9▸z2 bo) z hz) λab ae=>?_;rw[<-u9] at ab;exact⟨bl.has ab,ae⟩
 have vt:h9 S.bq (λ_=>false)<=900:=by
  have e:h9 S.bq (λ_=>false)=hk S.bG:=by unfold h9 hk bl.bG;rw[dX];rfl
  rw[e];walk_at"o"
 have Bu:kD S=(S.bG.filter λz=>z.2.1==0).map (·.1):=by unfold kD bl.bG;rw[List.filter_map,dX];rfl
 refine bt.cons (CT bx (q:= .bw (replicate t .none)) (p':=λp=> .bw (replicate t .none++[p])) (T:="list") (id:="list.append") lR dh (.inl ⟨_,rfl⟩) Typed.bw
  (C9 (n:=6) (fr:=env::fr) (x:=S.a) (dx:=S.dx) (C:=194) (f:=149) (kv:=S.attrs) (ps:=[]) (Ψ:=λp r'=>p= .none/\∃ez,b0 r' (ay (bl.cells w {S with cT:=some (ez,kD S)}++G))) (aV.name dH (by kernel_rfl)) (b6 _ S.hq) (b6 _ S.hn) (hM _) Lv NT (by exact rfl) (by exact rfl) (by exact rfl) dd.nil trivial (λo aj=>?_) (.inl rfl) rfl) ?_ rfl (by kernel_rfl) rfl rfl rfl (jB a9) rfl)
 ·have:=(Kl (prog:=prog) (w:=w) (S:=S) (G:=G++[(env.locals,jD o)]) (fr:=env::fr) (rk:=rk) g kd bf (λe he=>?_) GI vt).le (k:=6) (by decide)
  ·rw[<-h8] at this;refine this.mono λp r' h=>?_;obtain⟨ab,ez,ae⟩:=h;exact⟨_,by rw[<-h8] at ae;exact ae,ab,ez,.refl _⟩
  ·rcases bI.mp he with rfl |he
   ·exact⟨by rw[a9.fn];decide,lr,o,aj,b9 _ (.head _)⟩
   ·refine cB (v5 e he) λa1 a2 bz=>?_;refine ah bz λbZ dG fo=>?_;exact⟨a1,a2,bZ,dG,b6 _ fo⟩
 intro p r' rT _;obtain⟨rC,ez,vM⟩:=rT;subst rC;refine⟨show dB _ by rw[sC];exact y5,.inl ⟨_,rfl⟩,i0.append (by rw[length_replicate];walk_at"o"),?_⟩;rw[sC]
 let b3:bl:={S with cT:=some (ez,kD S)}
 refine vM.lB (bt.cons (dC.of bx (pE yR (.inl (by walk_at"k")) ?_ rfl)));intro _ _ vp _;refine ah vp λe1 rq vb=>?_;subst rq;subst vb;have dO:b3.cells w++G++[(e1,cy [])]=b3.cells w++(G++[(e1,cy ([]:List Str).reverse)]):=h8 ..;refine bt.cons (dC.of bx (df.R (t9 (Φ:=mY (("told",.bw [])::("pile",.val (.ref e1))::("gifts",.bw (replicate (t+1) .none))::m')) (.inl (by walk_at"k")) (lookup_miss (by kernel_rfl) (lookup_miss (by kernel_rfl) l0)) ⟨rfl,rfl⟩ rfl) (λp m h=>by injection (h.1)) ?_));intro _ _ Ap;refine aE Ap λvc AI=>?_;subst vc;subst AI;rw[dO]
 let vX:Nat->Loc->Rs->Prop:=λκ m' r'=>∃(S:bl) (cW q told:List Str) (u:Nat),b0 r' (ay (S.cells w++(G++[(e1,cy q.reverse)])))/\S.Good/\S.iR/\S.a=b3.a/\S.cT=some (ez,cW)/\runN κ S.bG cW q S.po S.da told=some out/\(u<=100+told.length/\told.length<=501)/\bM m' "sorter" (.val (.ref S.a))/\bM m' "gifts" (.bw (replicate u .none))/\bM m' "pile" (.val (.ref e1))/\bM m' "told" (.bw (aB told))
 refine bt.cons (Jg vX
  fuel ⟨b3,kD S,[],[],t+1,.refl _,⟨g.nd,g.sys,g.qo⟩,kd,rfl,rfl,?_,⟨by walk_at"o",c0 _⟩,bS (by kernel_rfl) (bS (by kernel_rfl) (bS (by kernel_rfl) dH)),by walk_at"l",by walk_at"l",by exact(a5:bM _ _ (.bw []))⟩ (λ_=>rfl) ?_)
 ·have ax:b3.bG=ja rows:=u9;have aD:b3.po=0:=mO;have a8:b3.da=0:=nR;rw[ax,aD,a8,Bu,u9];exact e5
 ·clear vt GI Bu;clear e5 u9 lz AD hC;intro κ m4 gT AK;refine Pt AK λS cW q told u le g kd P1 Gj e5 AV dH dh pa jY=>?_;refine aE AV λbE Wk=>?_;induction κ with
  |zero=>injection e5
  |succ κ=>
  unfold runN at e5
  let H:List Str->dW:=λq=>G++[(e1,cy q.reverse)]
  have V8:cW.length<=500:=by
   induction cW with
   |nil=>exact c0 _
   |cons z cW=>
    rw[aQ (by simp)] at e5;simp only[cons_append] at e5;replace e5:=e5;split at e5
    ·rename_i h;simp only[okN,Bool.and_eq_true,decide_eq_true_eq] at h;have:=h.2.2.1;rw[fB] at this;exact ei (Nat.le_add_right _ _) this
    ·injection e5
  refine jJ.of bx ?_;intro s₀ W₀ aJ ad A s Q E ai F a4;have aS:=F.le le;have hm:=le.vW (env:=env) (m:=m4) (ad:=ad);refine wA (x:=S.a) (dx:=S.dx) (C:=194) (f:=163) (kv:=S.attrs) (ps:=[]) (aV.name dH (by kernel_rfl)) (b6 _ S.hq) (b6 _ S.hn) (hM _) LF Nq (by exact rfl) (by exact rfl) (by exact rfl) dd.nil trivial (eX.frame (G:=H q) (kl:=λp cs'=>p= .bool (decide (S.da < S.po)|| !cW.isEmpty)/\cs'=S.cells w) ((Ln (prog:=prog) Gj (by exact bH ‹_› rfl)).le (by decide)) λp r' h=>⟨S.cells w,h.2,h.1,rfl⟩) (.inl rfl) rfl s₀ W₀ aJ ad A s Q E ai aS λp r' v s' aX k₁ aq e0 cU=>a4 p r' v s' aX (hm▸k₁) aq e0 ?_;refine dK cU λcs' b7 cC c1=>?_;subst b7;subst cC;subst c1;refine⟨_,rfl,λI=>?_,λI=>?_⟩
  ·refine hL λqb ia=>?_;rw[aQ I] at e5;replace e5:=e5;induction U:cW++q with
   |nil=>rw[U] at e5;injection e5
   |cons y q'=>
   rw[U] at e5;simp only at e5;replace e5:=e5;split at e5
   ·rename_i e9;simp only[okN,Bool.and_eq_true,decide_eq_true_eq,List.all_eq_true,beq_iff_eq] at e9;refine eR e9 λc2 Iz U7 W3=>?_;refine aE c2 λeS Cv=>?_;refine aE eS λeQ wo=>?_;refine aE eQ λeo ph=>?_;have yu:H (y::q')=G++[(e1,cy (q'.reverse++[y]))]:=by show G++[(e1,cy (y::q').reverse)]=_;rw[reverse_cons]
    rw[fB] at U7;refine bt.cons (dC.of bx (IX (a:=e1) (l:=q.reverse) (aV.name pa (by kernel_rfl)) (b9 _ (b9 _ (.head _)))
     (IT (l:=cW) (Ψ:=λr'=>∃S':bl,r'=ay (S'.cells w++H q)/\oC S S'/\S'.bG=k9 S.bG cW/\S'.cT=some (ez,[])/\S'.po=S.po+cW.length/\S'.da=S.da)
      (fi.mono (wA (x:=S.a) (dx:=S.dx) (C:=194) (f:=156) (kv:=S.attrs) (ps:=[]) (aV.name dH (by kernel_rfl)) (b6 _ S.hq) (b6 _ S.hn) (hM _) Lo Nd (by exact rfl) (by exact rfl) (by exact rfl) dd.nil trivial
       (eX.frame (G:=H q) (kl:=λp cs'=>p= .tup (aB cW)/\∃S':bl,cs'=S'.cells w/\oC S S'/\S'.bG=k9 S.bG cW/\S'.cT=some (ez,[])/\S'.po=S.po+cW.length/\S'.da=S.da) ((MP (prog:=prog) g kd Gj (by exact bH ‹_› rfl) λz hz=>zt (wo z hz)).le (by decide)) λp r' h=>?_) (.inl rfl) rfl) λp r' h=>?_) (by exact bH ‹_› rfl)) ?_ rfl rfl rfl rfl rfl (jB a9) rfl))
    ·obtain⟨ab,S',ae,aC,bc⟩:=h;exact⟨S'.cells w,ae,ab,S',rfl,aC,bc⟩
    ·refine dK h λcs' ft ab gg=>?_;refine ah gg λS' fS ae=>?_;subst ft;subst fS;exact⟨ab,S',rfl,ae⟩
    intro p r' RL;obtain⟨Rh,S',Rv,td,tK,PZ,T4,Tn⟩:=RL;subst Rh;subst Rv;refine⟨cW.reverse,_,rfl,.refl _,b9 _ (b9 _ (.head _)),by rw[length_reverse,length_reverse];walk_at"o",?_⟩;rw[<-reverse_append,U];refine E0.lB ?_;show bt prog w _ env m4 (ay (S'.cells w++H (y::q'))) _ _;rw[yu];refine bt.cons (dC.of bx (wt (q:= .bw (aB told)) (p':=λp=> .bw (aB told++[p])) (T:="list") (id:="list.append") lR jY (.inl ⟨_,rfl⟩) Typed.bw
     (Kw (a:=e1) (l:=q'.reverse) (y:=y) (aV.name pa (by kernel_rfl)) (b9 _ (b9 _ (.head _))) (by
      have:=congrArg List.length U;rw[fB,dJ] at this;rw[length_reverse];walk_at"o") rfl rfl) ?_ rfl (by kernel_rfl) rfl rfl rfl (jB a9) rfl))
    intro p r' Rm _;refine aE Rm λRJ QI=>?_;subst RJ;subst QI;have tY:aB told++[.str y]=aB (told++[y]):=by rw[j5];rfl
    refine⟨show dB _ by rw[tY];exact d9,.inl ⟨_,rfl⟩,i0.append (by rw[cz];exact bH ‹_› rfl),?_⟩;rw[tY];refine E0.lB ?_;refine ah (bl.has (S:=S') (y:=y) (by rw[tK];exact zt ph)) λnd bo qe=>?_;have uL:=S'.zM td.good bo;rw[qe,tK] at uL;replace uL:=uL;have TX:nd.np= -1:=by unfold oY at eo;rw[uL] at eo;exact eo
    have UT:nM (k9 S.bG cW) y=nd.cO:=by unfold nM;rw[uL];rfl
    rw[UT] at Cv Iz;refine bt.cons (dC.of bx (wt (q:= .bw (replicate u .none)) (p':=λp=> .bw (replicate u .none++[p])) (T:="list") (id:="list.append") lR (bS (by kernel_rfl) dh) (.inl ⟨_,rfl⟩) Typed.bw
     (wA (x:=S'.a) (dx:=S'.dx) (C:=194) (f:=177) (kv:=S'.attrs) (ps:=[.str y]) (by rw[td.a];exact aV.name (bS (by kernel_rfl) dH) (by kernel_rfl)) (b6 _ S'.hq) (b6 _ S'.hn) (hM _) LS NF (by exact rfl) (by exact rfl) (by exact rfl)
      (dd.cons (Ev.R (Ev.item (q:= .bw (aB (told++[y]))) (k:= .int (-1)) (Ev.name a5 (by kernel_rfl)) (lN Ev.int) Typed.bw fN.lookup (C0 (by decide) (by rw[cz,fB];show -((told.length+1:Nat):Int)<= -1;walk_at"o") (by
       rw[cz,fB,j5];rw[show(-1+((told.length+[y].length:Nat):Int)).toNat=(aB told).length by rw[cz];show(-1+((told.length+1:Nat):Int)).toNat=_;walk_at"o"];simp[aB]) (by rw[cz,fB];show told.length+1<=_;walk_at"o")) λ_ _=>rfl)) dd.nil rfl) ⟨trivial,trivial⟩
      (eX.frame (G:=H q') (kl:=λp cs'=>p= .none/\∃cG:bl,cs'=cG.cells w/\oC S' cG/\cG.bG=(kc S'.bG [] y).1/\cG.cT=some (ez,(kc S'.bG [] y).2)/\cG.po=S'.po/\cG.da=S'.da+1) (((qe▸Ni (prog:=prog) td.good td.free PZ (c0 _) bo TX (by exact bH ‹_› rfl) λz hz=>by rw[tK];exact zt (Cv z hz):eX prog w 3 177 [.val (.ref S'.a),.str y] (S'.R w) (λp r'=>p= .none/\∃cG,b0 r' (bl.R w cG)/\oC S' cG/\cG.bG=(kc S'.bG [] y).1/\cG.cT=some (ez,(kc S'.bG [] y).2)/\cG.po=S'.po/\cG.da=S'.da+1))).le (by decide)) λp r' h=>?_) (.inr ⟨_,_,rfl⟩) rfl) ?_ rfl (by kernel_rfl) rfl rfl rfl (jB a9) rfl))
    ·obtain⟨ab,cG,ae,aC⟩:=h;exact⟨cG.cells w,ae,ab,cG,rfl,aC⟩
    intro p r' Ri _;refine dK Ri λcs' RB QY RG=>?_;refine te RG λcG PX xj mN Ru Sm Sz=>?_;subst RB;subst QY;subst PX;refine⟨show dB _ by rw[sC];exact y5,.inl ⟨_,rfl⟩,i0.append (by rw[length_replicate];walk_at"o"),?_⟩;rw[sC];subst ia;refine bt.nil ⟨κ,k6 _,cG,_,q',told++[y],u+1,.refl _,xj.good,xj.free,(xj.a.trans td.a).trans P1,Ru,?_,?_,?_,a5,?_,?_⟩
    ·rw[mN,Sm,Sz,T4,Tn,tK];exact e5
    ·rw[fB];exact⟨by show u+1<=100+(told.length+1);walk_at"o",by show told.length+1<=501;walk_at"o"⟩
    ·rw[xj.a,td.a];exact bS (by kernel_rfl) (bS (by kernel_rfl) dH)
    ·exact bS (by kernel_rfl) (bS (by kernel_rfl) pa)
    ·exact bS (by kernel_rfl) a5
   ·injection e5
  ·rw[aI (by rw[I];decide)] at e5;cases e5
   refine bt.nil (bt.drop (r':=ay G) ?_ (λa af=>?_) λh aa=>?_)
   ·have dO:((replicate u ak.none).filter λ_=>false).map _root_.id=[]:=by rw[jC.mpr λ_ _=>by decide,map_nil]
    subst oz;refine bt.cons (dC.of bx (ek.ret (p:= .list (aB out++((replicate u ak.none).filter λ_=>false).map _root_.id)) (Ev.R (d8 (Ev.name jY (by kernel_rfl)) (k0 (mf:=[]) (c:=false) (t:=λ_=>false) (f:=_root_.id) a9 (Ev.name dh (by kernel_rfl)) cw.bw ⟨λ_ _=>rfl,λ_=>rfl,by kernel_rfl,by kernel_rfl,by decide+kernel,rfl⟩ (λ_ _ h=>by cases h) (by rw[length_replicate];walk_at"o") (λp _ h=>by cases h) (λp aa cenv dR=>by
      rw[eq_of_mem_replicate aa];exact gd.one (bV.cmp (Ev.name a5 (by kernel_rfl)) Ev.none wx (by with_unfolding_all rfl))) (λp _ h=>by injection h) (λ_=>rfl)) (JR (by rw[dO,cz];show out.length+0<=_;walk_at"o")))) (by rw[dO,append_nil];exact d9) ⟨by rw[dO,append_nil],.refl _⟩))
   ·show a∈br (S.cells w++(G++[(e1,cy q.reverse)]));unfold br;rw[dY,dY];exact b9 _ (b6 _ af)
   ·refine aE aa λab ae=>?_;unfold br at ab;rw[dY,dY] at ab;exact⟨(gL.mp (gL.mp ab).2.1).1,λc U=>ae c (b9 _ (b6 _ U))⟩
theorem NS:∀{l:List Str} {vs:List Value},vs.length=l.length->(∀(j:Nat) (v:Value),vs[j]? =some v->∃(y:Str) (t:Tok),l[j]? =some y/\v= .str y t)->bJ w h W (aB l) vs:=by
 intro l;induction l with
 |nil=>exact λao _=>List.length_eq_zero_iff.mp ao
 |cons x l aw=>
  intro vs ao aa;refine ra ao λv en e e7=>?_;subst e;refine dP (aa 0 v rfl) λy t ab ae=>?_;obtain rfl:=bT ab;exact⟨v,en,rfl,⟨t,ae⟩,aw e7 λj u bE=>aa (j+1) u bE⟩
theorem Dx{ks:List Str}{l:List ak}(hz:ks.length<=sizeLine):Cl prog w n (.type "list") [.dict ks l] (.list (aB ks)):=λW A s _ Q E ai g low fy h=>by
 refine bj fy λv _ ax aq a8=>?_;subst ax;rw[show _=[] from a8];refine iS aq λa es k aU aW aj a7 bb=>?_;subst aU;refine cB a7 λab ae aC=>?_;have gq:=q6 (prog:=prog) aj ab ae;have ao:=(zg (prog:=prog) ab).2.2;have hlen:(ks.zip (es.map (·.val))).length=ks.length:=by rw[length_zip,bO,ao];exact Nat.min_self _
 refine kdl_call (kdl_dict (knd:=strKind prog w) (kvs:=ks.zip (es.map (·.val))) (ep:=k) aC) ai.calm gq (by rw[hlen];exact hz) λh' tk acc c ar Un hit=>?_;have az:Ext s {s with heap:=h',toks:=tk}:=⟨⟨h',tk,rfl⟩,.of ar⟩
 refine h _ _ ⟨_,acc.toList,c,rfl,low.fresh,Un,NS (by rw[Array.length_toList];exact hit.1.trans hlen) λj v aq=>?_⟩ az (g.keeps ar);obtain⟨y,x,dz,bN⟩:=hit.2 j v (by rw[<-Array.getElem?_toList];exact aq);refine aP (Value.isStrOf_shape bN) λt bk=>?_;subst bk;have:(ks.zip (es.map (·.val)))[j]?.map (·.1)=some y:=by rw[dz];rfl
 rw[<-eb,map_fst_zip (by rw[bO,ao];exact ea _)] at this;exact⟨y,t,this,rfl⟩
noncomputable def n0(x:Str):Bool:=(kP x).getD false
def p0(x:Str):Prop:=(kP x).isSome=true
noncomputable def mR(y:Str):Str:=sV (n0 y) y
noncomputable def hB(x y:Str):Bool:=l6 (Txt.lower x) (Txt.lower y) (n0 (Txt.lower x)) (n0 (Txt.slice (Txt.lower y) (some 1) none))
structure mF (x y:Str):Prop where
 a:x.length<=100
 b:y.length<=100
 c:(Txt.lower x).length<=100
 d:(Txt.lower y).length<=100
 e:p0 (Txt.lower x)
 f:p0 (Txt.slice (Txt.lower y) (some 1) Option.none)
theorem p0.eq{x:Str}(h:p0 x):kP x=some (n0 x):=by
 unfold n0;refine aP (nk.mp h) λb e=>?_;rw[e];rfl
noncomputable def layAt(fits:List (List Str))(kv:List (Str×Int)):Nat->Int×List (Str×Int)
 |0=>(0,kv)
 |j+1=>((layAt fits kv j).1+rb (layAt fits kv j).2 (fits.getD j []),nA (layAt fits kv j).2 (fits.getD j []))
theorem EG{fits:List (List Str)}{kv:List (Str×Int)}:∀j,(layAt fits kv j).2.map (·.1)=kv.map (·.1):=by
 intro ba;induction ba with
 |zero=>
  exact rfl
 |succ j aw=>
  show(nA _ _).map _=_;unfold nA;rw[dX];exact(List.map_id _).trans (aw)
structure An (dm:List Int) (L:List (List Str)) (kv:List (Str×Int)) (O:List Str) (fk:Int):Prop where
 hs:dm.length<=1000
 Rt:(cellsOf dm).map (λc=>k1 (gK c))=L
 Tq:∀c∈cellsOf dm,0 < (gK c).length/\(gK c).length<=10/\ -10<=la (gK c)/\la (gK c)<=10/\∀k:Nat,((cL (gK c) (some (k:Nat)) Option.none Option.none).toArray.foldl (· +·.length+((".":Str)).length) 0)<=sizeLine/\(Builtin.Str.glued "." (cL (gK c) (some (k:Nat)) Option.none Option.none)).length<=sizeLine
 iG:L.length=5
 l0:∀l∈L,0 < l.length
 jY:∀l∈L,l.length<=5
 ok:∀l∈L,∀x∈l,PyData.strOk x=true/\x.length<=90/\p0 x/\(mR x).length<=90
 Ag:∀l∈L,dU mR (l.getD 0 "") 5=l
 pr:sG (cellsOf dm) L=kv
 rN:kv.length<=60
 nd:(kv.map (·.1)).Nodup
 mem:∀x,x∈kv.map (·.1)↔∃l∈L,x∈l
 FP:∀l∈L,∀x∈kv.map (·.1),mF (Txt.upper (l.getD 0 "")) x/\mF (Txt.upper (l.getD 0 "")) ((".":Str)++x)
 fit:∀l∈L,(kv.map (·.1)).filter (λx=>hB (Txt.upper (l.getD 0 "")) ((".":Str)++x))++(kv.map (·.1)).filter (λx=>hB (Txt.upper (l.getD 0 "")) x)=l.reverse
 z6:∀x∈kv.map (·.1),∀z∈four x++two x,mF z.1 z.2
 ends:∀x∈kv.map (·.1),pQ hB x=true
 rank:∃rk:Str->Nat,∀z∈ja L,∀x∈z.2.2,x∈(ja L).map (·.1)/\rk x < rk z.1
 run:∃fuel,runN fuel (ja L) (((ja L).filter λz=>z.2.1==0).map (·.1)) [] 0 0 []=some O
 dt:∀x∈kv.map (·.1),0 < (oi L x).length
 bx:∀y∈kv.map (·.1),∀z∈kv.map (·.1),keyOf L y=keyOf L z->y=z
 mE:∀y∈kv.map (·.1),∀z∈kv.map (·.1),lX (gQ L y) (lY y) (gQ L z) (lY z)=decide (keyOf L y < keyOf L z)
 perm:O.Perm (kv.map (·.1))
 asc:O.Pairwise λa b=>keyOf L a < keyOf L b
 pd:∃f,lU f (jd L) []=some O
 cut:(jd L).length<=5/\∀r∈jd L,r.length<=5/\∀x∈r,PyData.strOk x=true
 Su:∀x∈O,((j8 L).lookup x).isSome=true
 below:∀j name,(O++[("":Str)])[j]? =some name->∀one∈O,((j8 L).lookup one).getD ""=name->one∈(O++[("":Str)]).take j
 TO:("":Str)∉L.map λl=>l.getD 0 ""
 lst:qZ O kv L=fk
 Qn:(layAt (L.map reverse) kv 5).1=fk
 QL:(layAt (L.map reverse).reverse kv 5).1=fk
theorem LU:nsIn (KF w) 3 "_law_cells"=some (some (.ref 203)):=by exact rfl
theorem Ko:nsIn (KF w) 3 "_law_labels"=some (some (.ref 210)):=by exact rfl
theorem KL:nsIn (KF w) 3 "_law_ladder"=some (some (.ref 215)):=by exact rfl
theorem Lp:nsIn (KF w) 3 "_law_climb"=some (some (.ref 222)):=by exact rfl
theorem Kv:nsIn (KF w) 3 "_law_prices"=some (some (.ref 229)):=by exact rfl
theorem Nn:nsIn (KF w) 3 "_law_fit"=some (some (.ref 234)):=by exact rfl
theorem Mn:nsIn (KF w) 3 "_law_ends"=some (some (.ref 241)):=by exact rfl
theorem NR:nsIn (KF w) 3 "_law_run"=some (some (.ref 246)):=by exact rfl
theorem Nb:nsIn (KF w) 3 "_law_cut"=some (some (.ref 251)):=by exact rfl
theorem Lz:nsIn (KF w) 3 "_law_order"=some (some (.ref 256)):=by exact rfl
theorem LP:nsIn (KF w) 3 "_law_least"=some (some (.ref 261)):=by exact rfl
theorem Ng:nsIn (KF w) 3 "_law_lay"=some (some (.ref 266)):=by exact rfl
theorem Ox:nsIn (KF w) 3 "_c3_merge"=some (some (.ref 78)):=by exact rfl
theorem Ey:nsIn (KF w) 3 "list"=some none:=by exact rfl
theorem Ae{x y:Str}(h:mF x y):d3 prog w 2 57 [.str x,.str y] (.bool (hB x y)):=O2 h.a h.b h.c h.d h.e.eq h.f.eq
theorem MT:∀{R:List (Addr×List Str)} {vs:List Value},bJ w h W (eG R) vs->bJ w h W' (eG R) vs:=by
 intro ba;induction ba with
 |nil=>
  intro _ e;exact e
 |cons _ _ aw=>
  intro _ r7;refine bj r7 λv r e aq bf=>?_;exact⟨v,r,e,aq,aw bf⟩
theorem Mc{R:List (Addr×List Str)}{u:Value}(bE:a6 w h W (.list (eG R)) u)(aa:(fP R).P h):a6 w h (λa=>W a\/(fP R).J a) (.list (eG R)) u:=by
 refine cg bE λa vs k bz aW aj bb=>?_;subst bz;refine⟨a,vs,k,rfl,λq=>q.elim aW λq=>?_,aj,MT bb⟩;refine ah (bA.mp q) λz hz b7=>?_;subst b7;refine dP (aa.2 z hz) λen k' cR c1=>?_;refine ah c1 λls cC _=>?_;subst cC;rw[aj] at cR;replace cR:=cR;induction R with
 |nil=>exact absurd hz b8
 |cons yK R=>
  refine bj bb λv r c2 aq _=>?_;subst c2;induction ls with
  |nil=>injection cR with q;injection q with _ _ q;injection q with q;injection q with q;injection q
  |cons y ls=>
   injection cR with q;injection q with _ _ q;injection q with q;injection q with q
   rw[show v=Value.ref yK.1 from aq] at q;replace q:=q;injection q with q;injection q
theorem J6{L:List (List Str)}(ao:∀l∈L,l.length<=5)(tH:L.length<=5)(e9:∀l∈L,∀x∈l,PyData.strOk x=true)(u0:(jd L).length<=5/\∀r∈jd L,r.length<=5/\∀x∈r,PyData.strOk x=true)(e5:∃f,lU f (jd L) []=some O)(dE:O.length<=1000)
  (ab:env.kindOf "_c3_merge"=some .globalImplicit) (ae:env.kindOf "_law_cut"=some .globalImplicit) (ag:bM m "ladders" (.list (bF L))):
  Ev prog w 4 env m (.Call (.Name "_c3_merge" bX) [.Call (.Name "_law_cut" cf) [.Name "ladders" fU] [] fG] [] iI) (.list (aB O)):=λW A s Q E ai st a4=>by
 refine aP e5 λf e5=>?_;show wpAny _ _ (do callWith iI (<-eval (.Name "_c3_merge" bX) env) [] (backTo iI (starEach [.Call (.Name "_law_cut" cf) [.Name "ladders" fU] [] fG] env)) (backToKw iI (keywordEach [] env))) _ _ _;refine aH (fL (n:=4) (m:=m) ab Ox (by kernel_rfl) W A s _ E ai st λv au aq az aF=>?_);rw[show v= .ref 78 from aq];have Fu:=st.ext az aF;obtain⟨T6,RE,TY,Sx⟩:∃o fd,(KF w).lookup 78=some o/\o.data= .func fd:=⟨_,_,rfl,rfl⟩
 refine Calls.callWith_function (o:=T6) (fd:=RE) (hu (jz rfl) (sJ rfl ?_));show wpAny _ _ (do callWith fG (<-eval (.Name "_law_cut" cf) env) [] (backTo fG (starEach [.Name "ladders" fU] env)) (backToKw fG (keywordEach [] env))) _ _ _;refine aH (fL (n:=4) (m:=m) ae Nb (by kernel_rfl) W A au _ E ai Fu λv aL aq aR aY=>?_);rw[show v= .ref 251 from aq];have xp:=Fu.ext aR aY;obtain⟨RK,O7,Q9,RC⟩:∃o fd,(KF w).lookup 251=some o/\o.data= .func fd:=⟨_,_,rfl,rfl⟩
 refine Calls.callWith_function (o:=RK) (fd:=O7) (hu (jz rfl) (sJ rfl (Ev.name (n:=4) ag (by kernel_rfl) W A aL _ E ai xp λv ef aq ee e4=>?_)));have FD:=xp.ext ee e4;refine⟨⟨e4.K _ _ Q9,RC⟩,Ol ao tH e9 (ai.le (by decide)) e4 FD.low ⟨v,[],rfl,aq,rfl⟩ λu c9 R bE md B=>?_⟩;refine⟨⟨B.g.K _ _ TY,Sx⟩,?_⟩;refine Pa (lZ:=R) (f:=f) ⟨B.p.1,?_,λz hz=>?_⟩ (by rw[md];exact e5) dE (ai.le (by decide)) B.ext.same B.ext.keep e4 B.g FD.low B.j B.p (Mc bE B.p) λv gP Tu kg jM=>a4 v gP Tu (((az.trans aR).trans ee).trans kg) jM
 ·have:=congrArg List.length md;rw[bO] at this;rw[this];exact u0.1
 ·exact u0.2 _ (md▸fX hz)
theorem Fp{α:Type}{l:List α}(h:l.length<=5):cL l none none (some (-1))=l.reverse:=by
 rcases l with _ |⟨a,_ |⟨b,_ |⟨c,_ |⟨d,_ |⟨e,_ |⟨f,r⟩⟩⟩⟩⟩⟩
 iterate 6 kernel_rfl
 simp only[length_cons] at h;walk_at"o"
theorem Ls{l:List (List Str)}:(fc (.list (bF l))).depth<=64:=by
 have h0:∀l:List Str,PyData.depthAll (d0 (aB l))=0:=λl=>by
  induction l with
  |nil=>rfl
  |cons a r aw=>show max _ (PyData.depthAll (d0 (aB r)))=0;rw[aw];rfl
 have h:PyData.depthAll (d0 (bF l))<=3:=by
  induction l with
  |nil=>exact c0 _
  |cons x l aw=>
   show max (PyData.depthAll (d0 (aB x))+1) (PyData.depthAll (d0 (bF l)))<=3;rw[h0];exact Nat.max_le.mpr ⟨by decide,aw⟩
 show PyData.depthAll (d0 (bF l))+1<=64;walk_at"o"
theorem NI{L:List (List Str)}:(!PyData.eqv (fc (.list (bF L))) (fc (.list (bF L))))=false:=by
 show(!PyData.eqvAll (d0 (bF L)) (d0 (bF L)))=false;rw[D9];walk_at"o"
theorem NK{l:List Str}:(!PyData.eqv (fc (.list (aB l))) (fc (.list (aB l))))=false:=by
 show(!PyData.eqvAll (d0 (aB l)) (d0 (aB l)))=false;rw[wO];walk_at"o"
theorem DC{L:List (List Str)}(h:∀l∈L,∀x∈l,PyData.strOk x=true):cA prog w (compareOp .NotEq) (.list (bF L)) (.list (bF L)) (.bool false):=by
 have:=DO (prog:=prog) (w:=w) (p:= .list (bF L)) (q:= .list (bF L)) (w0 h) (w0 h) (ei (Nat.min_le_left _ _) Ls);rw[NI] at this;exact this
theorem zf{l:List Str}(h:∀x∈l,PyData.strOk x=true):cA prog w (compareOp .NotEq) (.list (aB l)) (.list (aB l)) (.bool false):=by
 have:=DO (prog:=prog) (w:=w) (p:= .list (aB l)) (q:= .list (aB l)) (nh h) (nh h) (ei (Nat.min_le_left _ _) D3);rw[NK] at this;exact this
theorem OZ{L:List (List Str)}{kv:List (Str×Int)}{fk:Int}(H:An dm L kv O fk):iw prog w 9 [] 271 [.list (cp dm)] (ay []) (λp r'=>p= .bool true):=by
 have de:sizeLine=2 ^ 24:=rfl;have iG:=H.iG;have tb:∀l∈L,∀x∈l,PyData.strOk x=true:=λl ao x ag=>(H.ok l ao x ag).1;have uW:∀x∈kv.map (·.1),PyData.strOk x=true/\x.length<=90:=λx ag=>by
  refine ah ((H.mem x).mp ag) λl ao jk=>?_;exact⟨(H.ok l ao x jk).1,(H.ok l ao x jk).2.1⟩
 have Bs:∀x∈O,PyData.strOk x=true:=λx ag=>(uW x (H.perm.mem_iff.mp ag)).1;have WE:O.length<=60:=by rw[H.perm.length_eq,bO];exact H.rN
 have BL:∀l∈L,l.getD 0 ""∈l:=λl ao=>by
  have:=H.l0 l ao;rw[c7,cm this];exact getElem_mem this
 refine iw.of (args:=[.list (cp dm)]) (names:=["script"]) (c:=270) (by exact⟨rfl,rfl,rfl,rfl,rfl,rfl,rfl,ej (by kernel_rfl),rfl,rfl,rfl,kinds_of (by kernel_rfl),rfl,rfl,rfl,by dsimp only,by dsimp only,by kernel_rfl⟩) (by exact rfl) ⟨qY,trivial⟩ (λW A s vs cJ c6 g low bb a4=>sE g bb (λv=>by exact rfl) a4) ?_;intro env a9 ec fE lr;have bx:∀A:Around,qt 8 (env::[]) A->bK 8 A:=λA h=>h.1;show bt prog w _ env [("script",.list (cp dm))] _ _ _;refine bt.cons (dC.of bx (mg (Ev.R (Ev.call (fL (by walk_at"k") LU (by kernel_rfl)) (.inr (.inr ⟨203,_,_,rfl,rfl,rfl⟩)) (aK.cons (by walk_at"e") aK.nil rfl) ((MY H.hs).cl.le (by decide)) rfl rfl)) qY (.inl (by walk_at"k")) ?_ rfl));have eB:(cellsOf dm).length=5:=by unfold cellsOf;rw[bO,length_range]
 have pl:((cp (cellsOf dm)).filter λ_=>true).map (o4 λc=> .list (aB (k1 (gK c))))=bF L:=by
  rw[filter_all, <-H.Rt];unfold bF cp;rw[dX,dX];rfl
 refine bt.cons (dC.of bx (df.R (sv (Φ:=mY (("owns",.list (bF L))::("cells",.list (cp (cellsOf dm)))::[("script",.list (cp dm))])) (c:=false) (q:= .list (cp (cellsOf dm))) (ps:=cp (cellsOf dm)) (t:=λ_=>true) (f:=o4 λc=> .list (aB (k1 (gK c)))) (mf:=[]) a9 (by walk_at"e") cw.list ⟨λ_ _=>rfl,λ_=>rfl,by kernel_rfl,by kernel_rfl,by decide+kernel,rfl⟩ tO (by rw[bO];exact gc rfl) ?_ (λp _ cenv _=>gd.nil) ?_ (.inl (by walk_at"k")) ⟨rfl,by rw[pl]⟩ (qS a9 (by kernel_rfl) rfl (by kernel_rfl)) (λ_=>rfl)) (λp m h=>by injection (h.1)) ?_))
 ·intro p aa _;refine ah (ml aa) λc _ aU=>?_;subst aU;exact d9
 ·intro p aa _ cenv dR;refine ah (ml aa) λc U a7=>?_;subst a7;refine F9 (H.Tq c U) λa1 a2 dG fo lI=>?_;exact Ev.call (fL (by walk_at"k") KL (by kernel_rfl)) (.inr (.inr ⟨215,_,_,rfl,rfl,rfl⟩)) (aK.cons (p:= .list (aB (gK c))) (Ev.call (fL (by walk_at"k") Ko (by kernel_rfl)) (.inr (.inr ⟨210,_,_,rfl,rfl,rfl⟩)) (aK.cons (Ev.name a5 (by kernel_rfl)) aK.nil rfl) (LD.cl.le (by decide)) rfl rfl) aK.nil rfl) ((LK a1 a2 dG fo lI).cl.le (by decide)) rfl rfl
 intro _ _ dg;refine aE dg λdr e6=>?_;subst dr;subst e6;have kx:((bF L).filter λ_=>true).map _root_.id=bF L:=by rw[filter_all,List.map_id]
 refine bt.cons (dC.of bx (df.R (sv (Φ:=mY (("ladders",.list (bF L))::("owns",.list (bF L))::("cells",.list (cp (cellsOf dm)))::[("script",.list (cp dm))])) (c:=false) (q:= .list (bF L)) (ps:=bF L) (t:=λ_=>true) (f:=_root_.id) (mf:=[]) a9 (by walk_at"e") cw.list ⟨λ_ _=>rfl,λ_=>rfl,by kernel_rfl,by kernel_rfl,by decide+kernel,rfl⟩ tO (by rw[bO];exact bH (Nat.le_of_eq ‹_›) rfl) ?_ (λp _ cenv _=>gd.nil) ?_ (.inl (by walk_at"k")) ⟨rfl,by rw[kx]⟩ (qS a9 (by kernel_rfl) rfl (by kernel_rfl)) (λ_=>rfl)) (λp m h=>by injection (h.1)) ?_))
 ·intro p aa _;refine ah (j9 aa) λc _ bk=>?_;subst bk;exact d9
 ·intro p aa _ cenv dR;refine ah (j9 aa) λl ao bz=>?_;subst bz;have U:=L2 (prog:=prog) (w:=w) (host:=l.getD 0 "") (rf:=mR) (λy av=>by rw[H.Ag l ao] at av;exact M4 (ei (H.ok l ao y av).2.1 (by decide)) (H.ok l ao y av).2.2.1.eq) (λy av=>by rw[H.Ag l ao] at av;have:=(H.ok l ao y av).2.2.2;exact bH ‹_› rfl);rw[H.Ag l ao] at U;exact Ev.call (fL (by walk_at"k") Lp (by kernel_rfl)) (.inr (.inr ⟨222,_,_,rfl,rfl,rfl⟩)) (aK.cons (p:= .str (l.getD 0 "")) (Ev.item (Ev.name a5 (by kernel_rfl)) Ev.int Typed.list fN.lookup (cA.item (by decide) (by
   have:=H.l0 l ao;rw[eb,c7,show(0:Int).toNat=0 from rfl,cm this];rfl) (by rw[cz];have:=H.jY l ao;exact bH ‹_› rfl)) λ_ _=>rfl) aK.nil rfl) (U.cl.le (by decide)) rfl rfl
 intro _ _ e8;refine aE e8 λhV jm=>?_;subst hV;subst jm;refine bt.cons (n9 bx (c:=false) (bV.R (bV.cmp (by walk_at"e") (by walk_at"e") (DC tb) (by with_unfolding_all rfl))) (λh=>by injection h) λ_=>bt.nil ?_);have p7:(gC kv).map (·.1)=kv.map (·.1):=by unfold gC;rw[dX];rfl
 have RA:cb (fF kv):=sI;refine bt.cons (dC.of bx (mg (p:=fF kv) (Ev.R (Ev.call (fL (by walk_at"k") Kv (by kernel_rfl)) (.inr (.inr ⟨229,_,_,rfl,rfl,rfl⟩)) (aK.cons (by walk_at"e") (aK.cons (by walk_at"e") aK.nil rfl) rfl) (by rw[<-H.pr];exact(LG (by exact gc rfl) H.jY (by exact bH (Nat.le_of_eq ‹_›) rfl)).cl.le (by decide)) rfl rfl)) RA (by walk_at"s") ?_ rfl))
 let yO:ak->ak:=λp=>match p with | .list l=> .list l.reverse |p=>p
 have Hp:((bF L).filter λ_=>true).map yO=bF (L.map reverse):=by
  rw[filter_all];unfold bF;rw[dX,dX];exact g7 λl _=>by show ak.list (aB l).reverse=ak.list (aB l.reverse);unfold aB;rw[map_reverse]
 have x8:∀l:List Str,yO (.list (aB l))= .list (aB l.reverse):=λl=>by show ak.list (aB l).reverse=_;unfold aB;rw[map_reverse]
 let m0:Loc:=("price",fF kv)::("ladders",.list (bF L))::("owns",.list (bF L))::("cells",.list (cp (cellsOf dm)))::[("script",.list (cp dm))]
 refine bt.cons (dC.of bx (df.R (sv (Φ:=mY (("fits",.list (bF (L.map reverse)))::m0)) (c:=false) (q:= .list (bF L)) (ps:=bF L) (t:=λ_=>true) (f:=yO) (mf:=[("price",fF kv)]) a9 (by walk_at"e") cw.list ⟨λ_ _=>rfl,λ_=>rfl,by kernel_rfl,by kernel_rfl,by decide+kernel,rfl⟩ (nT (by walk_at"l") (by kernel_rfl)) (by rw[bO];exact bH (Nat.le_of_eq ‹_›) rfl) ?_ (λp _ cenv _=>gd.nil) ?_ (.inl (by walk_at"k")) ⟨rfl,by rw[Hp]⟩ (qS a9 (by kernel_rfl) rfl (by kernel_rfl)) (λ_=>rfl)) (λp m h=>by injection (h.1)) ?_))
 ·intro p aa _;refine ah (j9 aa) λl _ b7=>?_;subst b7;rw[x8];exact d9
 ·intro p aa _ cenv dR;refine ah (j9 aa) λl ao cC=>?_;subst cC;have hf:=Ov (prog:=prog) (w:=w) (host:=l.getD 0 "") (names:=kv.map (·.1)) (d1:=λx=>hB (Txt.upper (l.getD 0 "")) x) (d2:=λx=>hB (Txt.upper (l.getD 0 "")) ((".":Str)++x)) (ei (H.ok l ao _ (BL l ao)).2.1 (by decide)) (by rw[bO];have:=H.rN;exact bH ‹_› rfl) (λx ag=>ei (uW x ag).2 (by decide)) (λx ag=>Ae (H.FP l ao x ag).1) λx ag=>Ae (H.FP l ao x ag).2;rw[H.fit l ao] at hf;rw[x8];exact Ev.call (fL (by walk_at"k") Nn (by kernel_rfl)) (.inr (.inr ⟨234,_,_,rfl,rfl,rfl⟩)) (aK.cons (p:= .str (l.getD 0 "")) (Ev.item (Ev.name a5 (by kernel_rfl)) Ev.int Typed.list fN.lookup (cA.item (by decide) (by
   have:=H.l0 l ao;rw[eb,c7,show(0:Int).toNat=0 from rfl,cm this];rfl) (by rw[cz];have:=H.jY l ao;exact bH ‹_› rfl)) λ_ _=>rfl) (aK.cons (p:= .list (aB (kv.map (·.1)))) (Ev.call (fA (by walk_at"k") Ey (by exact rfl) (by decide+kernel) (by kernel_rfl)) (.inr (.inl ⟨"list",rfl⟩)) (aK.cons (by walk_at"e") aK.nil rfl) (by rw[<-p7];exact Dx (by rw[p7,bO];have:=H.rN;exact bH ‹_› rfl)) rfl rfl) aK.nil rfl) rfl) (hf.cl.le (by decide)) rfl rfl
 intro _ _ gR;refine aE gR λkj mH=>?_;subst kj;subst mH;have RZ:∀l∈L.map reverse,∀x∈l,PyData.strOk x=true:=λl ao x ag=>by
  refine ah (bA.mp ao) λl' e7 c1=>?_;subst c1;exact tb l' e7 x (List.mem_reverse.mp ag)
 have TB:((aB (kv.map (·.1))).filter λ_=>false).map _root_.id=[]:=by rw[jC.mpr λ_ _=>by decide,map_nil]
 refine bt.cons (n9 bx (c:=false||false) (bV.R (sQ (x:=false) (y:=false) ?_ λ_=>?_)) (λh=>by injection h) λ_=>bt.nil ?_)
 ·refine bV.cmp (q:= .list (((bF L).filter λ_=>true).map yO)) (by walk_at"e") (k0 (mf:=[]) (c:=false) a9 (by walk_at"e") cw.list ⟨λ_ _=>rfl,λ_=>rfl,by kernel_rfl,by kernel_rfl,by decide+kernel,rfl⟩ tO (by rw[bO];exact bH (Nat.le_of_eq ‹_›) rfl) (λp aa _=>by refine ah (j9 aa) λl _ c2=>?_;subst c2;rw[x8];exact d9) (λp _ cenv _=>gd.nil) (λp aa _ cenv dR=>?_) (λ_=>rfl)) ?_ (by with_unfolding_all rfl)
  ·refine ah (j9 aa) λl ao eS=>?_;subst eS;rw[x8, <-Fp (H.jY l ao)];exact za (a:=none) (b:=none) (c:=some (-1)) (Ev.name a5 (by kernel_rfl)) trivial trivial (lN Ev.int) (by decide) (by have:=H.jY l ao;exact bH ‹_› rfl)
  ·rw[Hp];exact DC RZ
 ·refine bV.cmp (p:= .list (((aB (kv.map (·.1))).filter λ_=>false).map _root_.id)) (q:= .list []) (k0 (q:=fF kv) (mf:=[]) (c:=false) (t:=λ_=>false) (f:=_root_.id) a9 (by walk_at"e") (by rw[<-p7];exact cw.dict) ⟨λ_ _=>rfl,λ_=>rfl,by kernel_rfl,by kernel_rfl,by decide+kernel,rfl⟩ tO (by rw[cz,bO];have:=H.rN;exact bH ‹_› rfl) (λp _ h=>by injection h) (λp aa cenv dR=>?_) (λp _ h=>by injection h) (λ_=>rfl)) (Ev.list aK.nil (c0 _)) ?_ (by with_unfolding_all rfl)
  ·refine ah (hN aa) λx ag eQ=>?_;subst eQ;have he:=NJ (prog:=prog) (w:=w) (name:=x) (kp:=hB) (ei (uW x ag).2 (by decide)) λz hz=>Ae (H.z6 x ag z hz);rw[H.ends x ag] at he;exact gd.one (bV.not (b:=true) (bV.plain (Ev.call (fL (by walk_at"k") Mn (by kernel_rfl)) (.inr (.inr ⟨241,_,_,rfl,rfl,rfl⟩)) (aK.cons (Ev.name a5 (by kernel_rfl)) aK.nil rfl) (he.cl.le (by decide)) rfl rfl) hb.bool λ_=>rfl))
  ·rw[TB];exact zf (l:=[]) λ_ h=>by exact absurd h b8
 refine aP H.rank λrk o3=>?_;refine aP H.run λfuel e5=>?_;refine bt.cons (yV (jJ.xg (n:=8) (fr:=[env]) (cs:=[]) (ps:=[.list (bF L)]) (Ψ:=λp r'=>p= .list (aB O)/\r'=ay []) (fL (by walk_at"k") NR (by kernel_rfl)) (by exact rfl) (by exact rfl) (dd.cons (Ev.R (by walk_at"e")) dd.nil rfl) ⟨mi,trivial⟩ (λo aj=>?_) (.inr ⟨_,_,rfl⟩) rfl) (.inl (by walk_at"k")) ?_ rfl)
 ·refine((Ot (prog:=prog) (w:=w) (fr:=[env]) (G:=[]++[(env.locals,jD o)]) (λe he=>?_) (by exact bH (Nat.le_of_eq ‹_›) rfl) H.jY o3 e5).le (by decide)).mono λp r' h=>⟨[],h.2,h.1,rfl⟩
  rw[cQ.mp he];exact⟨by rw[a9.fn];decide,lr,o,aj,.head _⟩
 intro _ _ iE _;refine aE iE λoV oG=>?_;subst oV;subst oG;refine bt.cons (n9 bx (c:=false||false) (bV.R (sQ (x:=false) (y:=false) ?_ λ_=>?_)) (λh=>by injection h) λ_=>bt.nil ?_)
 ·refine bV.cmp (q:= .list (aB O)) (by walk_at"e") (Ev.call (fL (by walk_at"k") Lz (by kernel_rfl)) (.inr (.inr ⟨256,_,_,rfl,rfl,rfl⟩)) (aK.cons (by walk_at"e") (aK.cons (p:= .list (aB (kv.map (·.1)))) (Ev.call (fA (by walk_at"k") Ey (by exact rfl) (by decide+kernel) (by kernel_rfl)) (.inr (.inl ⟨"list",rfl⟩)) (aK.cons (by walk_at"e") aK.nil rfl) (by rw[<-p7];exact Dx (by rw[p7,bO];have:=H.rN;exact bH ‹_› rfl)) rfl rfl) aK.nil rfl) rfl)
   ((M0 iG H.jY H.l0 tb (λx ag=>(uW x ag).1) (by rw[bO];have:=H.rN;exact o2 ‹_› rfl) H.nd H.dt H.bx H.mE H.perm H.asc).cl.le (by decide)) rfl rfl) (zf Bs) (by with_unfolding_all rfl)
 ·refine bV.cmp (q:= .list (aB O)) (by walk_at"e") ?_ (zf Bs) (by with_unfolding_all rfl);exact λW A s Q E ai st a4=>J6 H.jY (by exact bH (Nat.le_of_eq ‹_›) rfl) tb H.cut H.pd (by exact bH ‹_› rfl) (by walk_at"k") (by walk_at"k") (by walk_at"l") W A s Q E (ai.le (by decide)) st a4
 refine bt.cons (dC.of bx (mg (p:= .int fk) (Ev.R (Ev.call (fL (by walk_at"k") LP (by kernel_rfl)) (.inr (.inr ⟨261,_,_,rfl,rfl,rfl⟩)) (aK.cons (by walk_at"e") (aK.cons (by walk_at"e") (aK.cons (by walk_at"e") aK.nil rfl) rfl) rfl)
  (by rw[<-H.lst];exact(Mq H.jY H.l0 (by exact bH (Nat.le_of_eq ‹_›) rfl) (by exact bH ‹_› rfl) Bs tb H.Su H.below (λx ag=>yZ (H.perm.mem_iff.mp ag)) H.TO).cl.le (by decide)) rfl rfl)) trivial (.inl (by walk_at"k")) ?_ rfl))
 let F:=L.map reverse
 have Hl:F.length=5:=by show(L.map _).length=5;rw[bO];exact iG
 have lay:∀{env:Env} {m:Loc} {fits:List (List Str)} {bX cf fU fG iI mZ qz tU tX:Pos},(∀l∈fits,l∈F)->fits.length=5->(layAt fits kv 5).1=fk->env.kindOf "reduce"=some .globalImplicit->env.kindOf "_law_lay"=some .globalImplicit->bM m "turned" (.list (bF fits))->bM m "price" (fF kv)->
   Ev prog w 8 env m (.Subscript (.Call (.Name "reduce" bX) [.Name "_law_lay" cf,.Name "turned" fU,.List [.Constant (.int 0) 0 fG,.Name "price" iI] mZ] [] qz) (.Constant (.int 0) 0 tU) tX) (.int fk):=λ{env m fits bX cf fU fG iI mZ qz tU tX} hf TP aM bR cI hm aa=>by
  have red:=D8 (prog:=prog) (w:=w) (n:=2) (q:= .val (.ref 266)) (seq:= .list (bF fits)) (ps:=bF fits) (l0:=[.int 0,fF kv]) (acc:=λj=> .list [.int (layAt fits kv j).1,fF (layAt fits kv j).2]) rfl (.inl ⟨_,rfl,.inr (.inr ⟨266,_,_,rfl,rfl,rfl⟩)⟩) trivial cw.list mi (λp aa=>by refine ah (j9 aa) λl _ ft=>?_;subst ft;exact d9) (λj _=>⟨trivial,sI,trivial⟩) (λj p aN=>?_)
  ·have dA:(bF fits).length=5:=by rw[bO];exact TP
   rw[dA,aM] at red;exact Ev.item (q:= .list [.int fk,fF (layAt fits kv 5).2]) (Ev.call (fL bR DG (by kernel_rfl)) (.inr (.inr ⟨73,_,_,rfl,rfl,rfl⟩)) (aK.cons (fL cI Ng (by kernel_rfl)) (aK.cons (Ev.name hm (by kernel_rfl)) (aK.cons (Ev.list (aK.cons Ev.int (aK.cons (Ev.name aa (by kernel_rfl)) aK.nil rfl) rfl) (by show(2:Nat)<=_;decide)) aK.nil rfl) rfl) rfl) (red.cl.le (by decide)) rfl rfl) Ev.int Typed.list fN.lookup (cA.item (by decide) rfl (by show(2:Nat)<=_;decide)) λ_ _=>rfl
  ·rw[eb] at aN;refine ah (h7.mp aN) λl ao fS=>?_;subst fS;refine ah (bA.mp (hf l (eW ao))) λl' e7 gg=>?_;subst gg;have e:fits.getD j []=l'.reverse:=by rw[c7,ao];rfl
   have ar:=EG (fits:=fits) (kv:=kv) j;have hlen:(layAt fits kv j).2.length=kv.length:=by have:=congrArg List.length ar;rwa [bO,bO] at this
   have:=H.jY l' e7;have:=H.l0 l' e7;have:=H.rN;have er:=ON (prog:=prog) (w:=w) (t:=(layAt fits kv j).1) (kv:=(layAt fits kv j).2) (fit:=l'.reverse) (by rw[length_reverse];assumption) (by rw[length_reverse];exact bH ‹_› rfl) (by walk_at"o") (λx ag=>yZ (by rw[ar];exact(H.mem x).mpr ⟨l',e7,List.mem_reverse.mp ag⟩)) (by rw[ar];exact H.nd) (λx ag=>tb l' e7 x (List.mem_reverse.mp ag)) (λx ag=>(uW x (by rw[<-ar];exact ag)).1);show qv prog w 3 _ _ (.list [.int ((layAt fits kv j).1+rb (layAt fits kv j).2 (fits.getD j [])),fF (nA (layAt fits kv j).2 (fits.getD j []))]);rw[e];exact er.cl.v
 have VS:(([ak.list (bF F),ak.list (bF F.reverse)]).filter λ_=>true).map (λ_=>ak.int fk)=cp [fk,fk]:=rfl;refine bt.cons (dC.of bx (ek.ret (p:= .bool true) (Ev.R ?_) trivial rfl));have heq:PyData.eqv (fc (.list (cp [fk,fk]))) (fc (.list (cp [fk,fk])))=true:=by
  show((fk==fk)&&((fk==fk)&&true))=true;walk_at"o"
 rw[<-heq];refine Ev.cmp (k0 (q:= .tup [.list (bF F),.list (bF F.reverse)]) (ps:=[.list (bF F),.list (bF F.reverse)]) (mf:=[("price",fF kv)]) (c:=false) (t:=λ_=>true) (f:=λ_=> .int fk) a9 (Ev.tuple (aK.cons (by walk_at"e") (aK.cons ?_ aK.nil rfl) rfl) (by show(2:Nat)<=_;decide)) cw.tup ⟨λ_ _=>rfl,λ_=>rfl,by kernel_rfl,by kernel_rfl,by decide+kernel,rfl⟩ (nT (by walk_at"l") (by kernel_rfl)) (by show(2:Nat)<=_;decide) (λ_ _ _=>trivial) (λp _ cenv _=>gd.nil) (λp aa _ cenv dR=>?_) (λ_=>rfl)) (Ev.list (ps:=cp [fk,fk]) (aK.cons (by walk_at"e") (aK.cons (by walk_at"e") aK.nil rfl) rfl) (by show(2:Nat)<=_;decide)) ?_ (by with_unfolding_all rfl)
 ·have e:pick (bF F) none none (some (-1))=bF F.reverse:=by unfold bF;rw[sH,Fp (by exact bH (Nat.le_of_eq ‹_›) rfl)]
  rw[<-e];exact ug (by walk_at"e") trivial trivial (lN Ev.int) (by decide) (by rw[bO];exact bH (Nat.le_of_eq ‹_›) rfl)
 ·rcases bI.mp aa with rfl |aa
  ·exact lay (λl ao=>ao) Hl H.Qn (by walk_at"k") (by walk_at"k") a5 (by walk_at"l")
  ·rw[cQ.mp aa];exact lay (λl ao=>List.mem_reverse.mp ao) (by rw[length_reverse];exact Hl) H.QL (by walk_at"k") (by walk_at"k") a5 (by walk_at"l")
 ·exact DL (p:= .list (cp [fk,fk])) (q:= .list (cp [fk,fk])) ⟨trivial,trivial,trivial⟩ ⟨trivial,trivial,trivial⟩ (by show(1:Nat)<=64;decide)
theorem PJ(X:(KF w).In h){a:Addr}(af:cc a):isCodeTable h a:=by
 rcases af with rfl |rfl
 ·exact⟨221,_,_,X 221 _ (by exact rfl),rfl,rfl,rfl⟩
 ·exact⟨255,_,_,X 255 _ (by exact rfl),rfl,rfl,rfl⟩
theorem Na(X:(KF w).In s.heap)(aM:∀a,cc a->s.heap.get? a=some (tabObj #[]))(e:Ext s s')(g:G w s'.heap):OldK s.heap s'.heap:=by
 have key:∀b o,s.heap.get? b=some o->s'.heap.get? b=some o\/(cc b/\o=tabObj #[]/\∃ps,s'.heap.get? b=some (tabObj ps)):=λb o I=>by
  by_cases h:cc b
  ·rw[aM b h] at I;obtain rfl:=bT I;refine ah (g.T b h) λps q _=>?_;exact .inr ⟨h,rfl,ps,q⟩
  ·exact .inl (e.keep b o h I)
 refine⟨λb o I=>?_,λb o I=>?_⟩
 ·rcases key b o I with q |⟨h,rfl,ps,q⟩
  ·exact .inl q
  ·exact .inr (.inl ⟨PJ X h,rfl,#[],ps,rfl,by rw[q];simp[tabObj]⟩)
 ·rcases key b o I with q |⟨h,rfl,ps,q⟩
  ·exact⟨_,q⟩
  ·exact⟨_,q⟩
theorem ints_of{P:Params} :∀{xs:List WData} {vs:List Value},WellAll P h vs xs->(∀x∈xs,∃i,x= .int i)->∃ns:List Int,ns.length=xs.length/\bJ w h (λ_=>False) (cp ns) vs:=by
 intro ba;induction ba with
 |nil=>
  intro _ x _;cases x;exact⟨[],rfl,rfl⟩
 |cons _ _ aw=>
  intro _ x ag;refine bj (wellAll_cons_inv x) λv vs aU ab ae=>?_;subst aU;refine ah (aw ae λx r5=>ag x (.tail _ r5)) λns ax aD=>?_;refine aP (ag _ (.head _)) λi a7=>?_;subst a7;cases ab with
  |int _ t=>exact⟨i::ns,by rw[dJ,dJ,ax],⟨_,_,rfl,⟨t,rfl⟩,aD⟩⟩
theorem KI{R:WRecords}:∀{xs:List WData},WShape.hasItems R xs .int=true->∀x∈xs,∃i,x= .int i:=by
 intro xs;induction xs with
 |nil=>exact λ_ x h=>absurd h b8
 |cons x xs aw=>
  intro h y av;have h':(WShape.has R x .int&&WShape.hasItems R xs .int)=true:=h;refine aE (k7.mp h') λab ae=>?_;rcases bI.mp av with rfl |av
  ·cases y with
   |int i=>exact⟨i,rfl⟩
   |_=>injection ab
  ·exact aw ae y av
theorem MC{args:List WData}(h:PySem.Challenge.rw_op0239_01.row.toRowW.claim.pre args=true):∃xs,args=[.list xs]/\(∀x∈xs,∃i,x= .int i)/\xs.length<=63:=by
 have h':(WShape.hasAll [] args [.list .int]&&PySem.Challenge.rw_op0239_01.pre.holds [] {args:=args})=true:=h;refine aE (k7.mp h') λab ae=>?_
 match args,ab,ae with
 |[],ab,_=>injection ab
 |x::y::r,ab,_=>
  have aC:(WShape.has [] x (.list .int)&&false)=true:=ab;rw[Bool.and_false] at aC;injection aC
 |[x],ab,ae=>
  have aC:(WShape.has [] x (.list .int)&&true)=true:=ab;rw[Bool.and_true] at aC;replace aC:=aC;cases x with
  |list xs=>
   have bc:(WShape.hasItems [] xs .int||false)=true:=aC;rw[Bool.or_false] at bc;refine⟨xs,rfl,KI bc,?_⟩;by_cases q:xs.length<=63
   ·exact q
   ·exfalso;have e:PySem.Challenge.rw_op0239_01.pre.value [] {args:=[.list xs]}=some (.bool false):=by
     have ax:(WTm.lt (.lit (.int 63)) (.len (.arg 0))).value [] {args:=[.list xs]}=some (.bool (decide ((63:Int) < xs.length))):=rfl;have aD:PySem.Challenge.rw_op0239_01.pre= .and (.not (.lt (.lit (.int 63)) (.len (.arg 0)))) (.lit (.bool true)):=rfl;rw[aD];unfold WTm.value;unfold WTm.value;rw[ax,eu (by walk_at"o")];rfl
    unfold WTm.holds at ae;rw[e] at ae;injection ae
  |_=>injection aC
theorem VQ(H:∀dm:List Int,dm.length<=63->∃L kv O fk,An dm L kv O fk)(d:DefRec)(vj:List (Str×Expr))(uU:defOf m9 PySem.Challenge.rw_op0239_01.row.name=some (d,vj)):
  WalkO m9 loose (XL m9 []) (Hook.says pq) PySem.Challenge.rw_op0239_01.row.toRowW d vj λf vs=>PySem.call f vs:=by
 intro w s₀ au qB mb wa Y a o pm cd doc WL WO af hd dD Wn Ba PU args vals as R8 V2 Bu Pm V1;have X:(KF w).In au.heap:=km_in_of Y;have aM:=km_tabs_of Y;have fm:a=271:=by
  have ab:=zd X wa.T.g (n:="law") (v:= .ref 271) (by exact rfl);rw[show d.name="law" from defOf_name uU] at Ba;rw[ab] at Ba;(injection Ba with bB;injection bB with bB;subst bB);rfl
 subst fm;have g:G w au.heap:=⟨X,⟨mb,wa.T.b,wa.T.builtins⟩,λa af=>⟨#[],aM a (by rcases af with rfl |rfl<;>decide),.inl rfl⟩,by
  refine GO wa.T.bmain λbm ob ab ae aC bc dA jt=>?_;have m5:=zd X wa.T.g (FX w);rw[m5] at ab;(injection ab with bB;injection bB with bB;subst bB);exact⟨ob,aC,bc,dA,jt⟩⟩
 refine dK (MC R8) λxs bk BZ hlen=>?_;subst bk;refine bj (wellAll_cons_inv Pm) λv vs bz aq R4=>?_;subst bz;cases R4
 cases aq with
 |list aj hi=>
 rename_i Ct vs;refine ah (ints_of (w:=w) hi BZ) λns aA bb=>?_;refine RH (H ns (by rw[aA];exact hlen)) λL kv O fk U4=>?_;have low:eI (λ_:Addr=>False) au.heap:=λ_ q=>q.elim;refine wpAny_call ((OZ U4) au au (λ_=>False) (λ_=>False) callerA [.ref Ct] _ _ ⟨by decide,by decide,rfl⟩ rfl ⟨_,_,rfl⟩ (.refl _) g g low (λa af=>?_) (λ_ h=>h.elim) ⟨nodup_nil,λc U=>by exact absurd U b8⟩ ⟨.ref Ct,[],rfl,⟨Ct,vs,0,rfl,?_,?_,?_⟩,rfl⟩ λp v r' s' aa aq e0 B=>?_)
 ·rcases af with q |q
  ·exact q.elim
  ·exact absurd q b8
 ·rintro(q |q |q)
  ·exact q
  ·exact q
  ·exact absurd q b8
 ·exact aj
 ·refine bJ.upd (λb o _ _ e=>⟨e,?_⟩) (qY) bb;rintro(q |q |q)
  ·exact q
  ·exact q
  ·exact absurd q b8
 ·subst aa;rw[show v= .bool true from aq];refine cn B.ext.same λh' tk e=>?_;exact⟨.inl ⟨_,_,[],rfl,λ_=>rfl,ReadsW.bool true,(by first |kernel_rfl |with_unfolding_all rfl |wrow_post),λ_=>⟨nodup_nil,λ_ hm=>by exact absurd hm b8⟩⟩,Na X (λa af=>aM a (by rcases af with rfl |rfl<;>decide)) B.ext B.g,by rw[e],.of_eq (by rw[e];exact PU)⟩
noncomputable def fw(x:Array Nat)(s:Nat)(first:Bool)(seen:Sre.Seen):Sre.M:=
 {code:=g9,text:=x,lim:=x.size,start:=s,lastStart:=x.size,pc:=9,pos:=s,handed:=s,outermost:=first,marks:= #[],frames:=[{wait:= .nextStart,pc:=9,pos:=s,outermost:=first}],weight:=1,seen:=seen}
noncomputable def stC(x:Array Nat)(s:Nat)(first:Bool)(seen:Sre.Seen):Sre.M:={fw x s first seen with pc:=11,pos:=s+1}
noncomputable def vH(x:Array Nat)(s:Nat)(first:Bool)(seen:Sre.Seen)(p q h:Nat):Sre.M:={fw x s first seen with pc:=p,pos:=q,handed:=h,answer:=some false}
theorem iO{m:Sre.M}(h:m.outcome=none)(k:Nat):m.runFor (k+1)=m.step.runFor k:=by
 show(if m.outcome.isSome then m else _)=_;rw[h];rfl
variable {first:Bool}
theorem OJ{x:Array Nat}{s:Nat}{seen:Sre.Seen}(h:¬s>=x.size)(U:(x.getD s 0==46)=false):(fw x s first seen).step=vH x s first (seen.add 16) 9 s s:=by
 have e:(fw x s first seen).step=(fw x s first seen).exec:=rfl;have o:Sre.ops[(fw x s first seen).word 0]? =some .LITERAL:=rfl;have a:Sre.accepts g9 9 (x.getD s 0) (seen.add 16)= .ok (false,seen.add 16):=by
  show Except.ok (x.getD s 0==46,seen.add 16)=_;rw[U]
 rw[e];unfold Sre.M.exec;rw[o];dsimp only;have h':¬(fw x s first seen).pos>=(fw x s first seen).lim:=h;rw[aI h'];split
 ·rename_i q;exact nomatch a.symm.trans q
 ·rename_i q;cases a.symm.trans q
  rfl
 ·rename_i q;exact nomatch a.symm.trans q
theorem w1{x:Array Nat}{s p q h:Nat}{seen:Sre.Seen}(hs:s < x.size):(vH x s first seen p q h).step=fw x (s+1) false seen:=by
 show(if s < x.size then _ else _)=_;rw[aQ hs];rfl
theorem w5{x:Array Nat}{s:Nat}{seen:Sre.Seen}(h:¬s>=x.size)(U:(x.getD s 0==46)=true):(fw x s first seen).step=stC x s first (seen.add 16):=by
 have e:(fw x s first seen).step=(fw x s first seen).exec:=rfl;have o:Sre.ops[(fw x s first seen).word 0]? =some .LITERAL:=rfl;have a:Sre.accepts g9 9 (x.getD s 0) (seen.add 16)= .ok (true,seen.add 16):=by
  show Except.ok (x.getD s 0==46,seen.add 16)=_;rw[U]
 rw[e];unfold Sre.M.exec;rw[o];dsimp only;have h':¬(fw x s first seen).pos>=(fw x s first seen).lim:=h;rw[aI h'];split
 ·rename_i q;exact nomatch a.symm.trans q
 ·rename_i q;exact nomatch a.symm.trans q
 ·rename_i q;cases a.symm.trans q
  rfl
theorem Oc{x:Array Nat}{s:Nat}{seen:Sre.Seen}(h:s=x.size):((fw x s first seen).runFor 3).outcome=some .failed:=by
 have e:(fw x s first seen).step={fw x s first (seen.add 16) with answer:=some false}:=by
  have e:(fw x s first seen).step=(fw x s first seen).exec:=rfl;have o:Sre.ops[(fw x s first seen).word 0]? =some .LITERAL:=rfl;rw[e];unfold Sre.M.exec;rw[o];dsimp only;have h':(fw x s first seen).pos>=(fw x s first seen).lim:=Nat.le_of_eq h.symm;rw[aQ h'];rfl
 rw[iO rfl,e,iO rfl];have aD:Sre.M.step {fw x s first (seen.add 16) with answer:=some false}={fw x s first (seen.add 16) with frames:=[],weight:=0,answer:=some false}:=by
  show(if s < x.size then _ else _)=_;rw[aI (by walk_at"o")];rfl
 rw[aD];rfl
theorem Nf{x:Array Nat}{s:Nat}{seen:Sre.Seen}(h:x.size<=s+1):(stC x s first seen).step=vH x s first (seen.add 24) 11 (s+1) s:=by
 have e:(stC x s first seen).step=(stC x s first seen).exec:=rfl;have o:Sre.ops[(stC x s first seen).word 0]? =some .REPEAT_ONE:=rfl;rw[e];unfold Sre.M.exec;rw[o];dsimp only;have h':((1:Nat):Int) > ((x.size:Nat):Int) - ((s+1:Nat):Int):=by walk_at"o"
 show(if((1:Nat):Int) > ((x.size:Nat):Int) - ((s+1:Nat):Int) then _ else _)=_;rw[aQ h'];rfl
noncomputable def rp(x:Array Nat)(s:Nat)(seen:Sre.Seen):Except String (Nat×Sre.Seen):=Sre.run g9 x 15 (min 4294967295 ((x.size:Int) - ((s+1:Nat):Int)).toNat) (s+1) 0 ((seen.add 24).add 13)
variable {sn:Sre.Seen}
theorem NU{x:Array Nat}{s:Nat}{seen:Sre.Seen}(h:¬x.size<=s+1)(bf:rp x s seen= .ok (0,sn)):(stC x s first seen).step=vH x s first sn 11 (s+1) s:=by
 have e:(stC x s first seen).step=(stC x s first seen).exec:=rfl;have o:Sre.ops[(stC x s first seen).word 0]? =some .REPEAT_ONE:=rfl;rw[e];unfold Sre.M.exec;rw[o];dsimp only;have h':¬(((stC x s first seen).word 2:Nat):Int) > (((stC x s first seen).lim:Nat):Int) - (((stC x s first seen).pos:Nat):Int):=by
  show¬((1:Nat):Int) > ((x.size:Nat):Int) - ((s+1:Nat):Int);walk_at"o"
 refine(aI h').trans ?_;split
 ·rename_i q;exact nomatch bf.symm.trans q
 ·rename_i q;cases bf.symm.trans q
  rfl
noncomputable def jU(x:Array Nat)(s n:Nat)(first:Bool)(sn:Sre.Seen):Sre.M:=
 {fw x s first sn with pc:=21,pos:=s+1+n,handed:=s+1+n,frames:=[{wait:= .giveBack,pc:=11,pos:=s+1+n,outermost:=first,count:=n},{wait:= .nextStart,pc:=9,pos:=s,outermost:=first}],weight:=2}
theorem EJ{x:Array Nat}{s:Nat}{seen:Sre.Seen}(h:¬x.size<=s+1)(bf:rp x s seen= .ok (n+1,sn)):(stC x s first seen).step=jU x s (n+1) first sn:=by
 have e:(stC x s first seen).step=(stC x s first seen).exec:=rfl;have o:Sre.ops[(stC x s first seen).word 0]? =some .REPEAT_ONE:=rfl;rw[e];unfold Sre.M.exec;rw[o];dsimp only;have h':¬(((stC x s first seen).word 2:Nat):Int) > (((stC x s first seen).lim:Nat):Int) - (((stC x s first seen).pos:Nat):Int):=by
  show¬((1:Nat):Int) > ((x.size:Nat):Int) - ((s+1:Nat):Int);walk_at"o"
 refine(aI h').trans ?_;split
 ·rename_i q;exact nomatch bf.symm.trans q
 ·rename_i q;cases bf.symm.trans q
  refine(aI (show¬(n+1 < 1) by walk_at"o")).trans ?_;rfl
theorem Og{x:Array Nat}{s:Nat}(h:s+1+n=x.size):((jU x s n first sn).runFor 5).outcome=some .matched:=by
 have e:(jU x s n first sn).step={jU x s n first (((sn.add 6)).add 48) with pc:=23}:=by
  have e:(jU x s n first sn).step=(jU x s n first sn).exec:=rfl;have o:Sre.ops[(jU x s n first sn).word 0]? =some .AT:=rfl;rw[e];unfold Sre.M.exec;rw[o];dsimp only;have a:Sre.M.isAt {jU x s n first (sn.add 6) with pc:=21} 5= .ok true:=by
   show Except.ok (s+1+n==x.size||_)=_;rw[h,gW];rfl
  split
  ·rename_i q;exact nomatch a.symm.trans q
  ·rename_i q
   (injection (a.symm.trans q) with bB;subst bB)
   rfl
 rw[iO rfl,e]
 (induction first)<;>rfl
theorem N2{x:Array Nat}{s:Nat}(h:s+2 < x.size)(U:s+3 < x.size\/(x.getD (s+2) 0==10)=false)(hs:s < x.size):∃sn',∀k,(jU x s 1 first sn).runFor (3+k)=(fw x (s+1) false sn').runFor k:=by
 have e:(jU x s 1 first sn).step={jU x s 1 first (((sn.add 6)).add 48) with answer:=some false}:=by
  have e:(jU x s 1 first sn).step=(jU x s 1 first sn).exec:=rfl;have o:Sre.ops[(jU x s 1 first sn).word 0]? =some .AT:=rfl;rw[e];unfold Sre.M.exec;rw[o];dsimp only;have a:Sre.M.isAt {jU x s 1 first (sn.add 6) with pc:=21} 5= .ok false:=by
   show Except.ok (s+2==x.size||(s+3==x.size&&x.getD (s+2) 0==10))=_;have ab:(s+2==x.size)=false:=eF.mpr (by walk_at"o");rw[ab];rcases U with U |U
   ·have ae:(s+3==x.size)=false:=eF.mpr (by walk_at"o");rw[ae];rfl
   ·rw[U,Bool.and_false];rfl
  split
  ·rename_i q;exact nomatch a.symm.trans q
  ·rename_i q
   (injection (a.symm.trans q) with bB;subst bB)
   rfl
 refine⟨((sn.add 6)).add 48,λk=>?_⟩;rw[Nat.add_comm,iO rfl,e,iO rfl];have aD:Sre.M.step {jU x s 1 first (((sn.add 6)).add 48) with answer:=some false}=vH x s first (((sn.add 6)).add 48) 11 (s+2) (s+2):=rfl
 rw[aD,iO rfl,w1 hs]
theorem DJ(c:Nat)(seen:Sre.Seen):∃sn,Sre.accepts g9 15 c seen= .ok (Sre.isDigit c,sn):=by
 have VM:Sre.category (g9.getD (17+1) 0) c= .ok (Sre.isDigit c):=by
  show Except.ok (Sre.isDigit c != false)=_;rw[Bool.bne_false]
 have aD:Sre.inSet g9 c 24 17 true seen=(Sre.category (g9.getD (17+1) 0) c >>=λb=>if b=true then pure (true,(seen.add 8).add 55) else Sre.inSet g9 c 23 19 true ((seen.add 8).add 55)):=rfl;rw[show Sre.accepts g9 15 c seen=Sre.inSet g9 c 24 17 true seen from rfl,aD,VM];cases h:Sre.isDigit c
 ·exact⟨_,rfl⟩
 ·exact⟨_,rfl⟩
theorem Fo{x:Array Nat}{p:Nat}(h:Sre.isDigit (x.getD p 0)=false)(n f:Nat)(seen:Sre.Seen):∃sn,Sre.run g9 x 15 (n+1) p f seen= .ok (f,sn):=by
 refine aP (DJ (x.getD p 0) seen) λsn e=>?_;refine⟨sn,?_⟩;show Except.bind (Sre.accepts g9 15 (x.getD p 0) seen) _=_;rw[e,h];rfl
theorem E3{x:Array Nat}{p:Nat}(h:Sre.isDigit (x.getD p 0)=true)(n f:Nat)(seen:Sre.Seen):∃sn,Sre.run g9 x 15 (n+1) p f seen=Sre.run g9 x 15 n (p+1) (f+1) sn:=by
 refine aP (DJ (x.getD p 0) seen) λsn e=>?_;refine⟨sn,?_⟩;show Except.bind (Sre.accepts g9 15 (x.getD p 0) seen) _=_;rw[e,h];rfl
noncomputable def qi(r:Option Bool):List Nat->Option Bool
 |[]=>r
 |[d]=>if Sre.isDigit d then some true else r
 |[d,e]=>if Sre.isDigit d then(if Sre.isDigit e then some true else if e==10 then none else r) else r
 |d::e::_::_=>if Sre.isDigit d then(if Sre.isDigit e then none else r) else r
noncomputable def nU:List Nat->Option Bool
 |[]=>some false
 |c::t=>if c==46 then qi (nU t) t else nU t
noncomputable def PA(b:Bool):Sre.Outcome:=if b then .matched else .failed
def Ends(x:Array Nat)(s:Nat)(first:Bool)(seen:Sre.Seen)(b:Bool)(K:Nat):Prop:=∃k,k<=K/\((fw x s first seen).runFor k).outcome=some (PA b)
section
variable {x:Array Nat} {s K:Nat} {first b:Bool} {seen:Sre.Seen}
theorem Ends.lit(h:s < x.size)(U:(x.getD s 0==46)=false)(aA:∀sn,Ends x (s+1) false sn b K):Ends x s first seen b (K+10):=by
 refine ah (aA (seen.add 16)) λk ar bf=>?_;refine⟨k+2,by walk_at"o",?_⟩;rw[iO rfl,OJ (by walk_at"o") U,iO rfl,w1 h];exact bf
theorem Ends.room(h:s < x.size)(U:(x.getD s 0==46)=true)(bf:x.size<=s+1)(aA:∀sn,Ends x (s+1) false sn b K):Ends x s first seen b (K+10):=by
 refine ah (aA ((seen.add 16).add 24)) λk ar qf=>?_;refine⟨k+3,by walk_at"o",?_⟩;rw[iO rfl,w5 (by walk_at"o") U,iO rfl,Nf (first:=first) (seen:=seen.add 16) bf,iO rfl,w1 h];exact qf
theorem Ends.none(h:s < x.size)(U:(x.getD s 0==46)=true)(bf:¬x.size<=s+1)(aG:rp x s (seen.add 16)= .ok (0,sn))(aA:∀sn,Ends x (s+1) false sn b K):Ends x s first seen b (K+10):=by
 refine ah (aA sn) λk ar qf=>?_;refine⟨k+3,by walk_at"o",?_⟩;rw[iO rfl,w5 (by walk_at"o") U,iO rfl,NU (first:=first) (seen:=seen.add 16) bf aG,iO rfl,w1 h];exact qf
theorem Ends.hit(h:s < x.size)(U:(x.getD s 0==46)=true)(bf:¬x.size<=s+1)(aG:rp x s (seen.add 16)= .ok (n+1,sn))(hs:s+1+(n+1)=x.size):Ends x s first seen true (K+10):=by
 refine⟨7,by exact gc rfl,?_⟩;rw[iO rfl,w5 (by walk_at"o") U,iO rfl,EJ (first:=first) (seen:=seen.add 16) bf aG];exact Og hs
theorem Ends.miss(h:s+2 < x.size)(U:(x.getD s 0==46)=true)(aG:rp x s (seen.add 16)= .ok (1,sn))(tN:s+3 < x.size\/(x.getD (s+2) 0==10)=false)(aA:∀sn,Ends x (s+1) false sn b K):Ends x s first seen b (K+10):=by
 refine aP (N2 (first:=first) (sn:=sn) h tN (by walk_at"o")) λsn' hm=>?_;refine ah (aA sn') λk ar qf=>?_;refine⟨(3+k)+2,by walk_at"o",?_⟩;rw[iO rfl,w5 (by walk_at"o") U,iO rfl,EJ (first:=first) (seen:=seen.add 16) (by walk_at"o") aG,hm];exact qf
theorem MX(aA:x.size=s+1+(n+1))(ao:x.size<=1000):rp x s seen=Sre.run g9 x 15 (n+1) (s+1) 0 ((seen.add 24).add 13):=by
 unfold rp;have:min 4294967295 ((x.size:Int) - ((s+1:Nat):Int)).toNat=n+1:=by walk_at"o"
 rw[this]
theorem Ends.dot{t:List Nat}(aM:∀k c,t[k]? =some c->x.getD (s+1+k) 0=c)(hs:x.size=s+1+t.length)(ao:x.size<=1000)(U:(x.getD s 0==46)=true){r:Option Bool}(aA:r=some b->∀sn,Ends x (s+1) false sn b K)(h:qi r t=some b):Ends x s first seen b (K+10):=by
 match t,aM,hs,h with
 |[],aM,hs,h=>exact .room (by rw[hs];walk_at"o") U (by rw[hs];exact ea _) (aA h)
 |d::e2,aM,hs,h=>
  have hd:=aM 0 d rfl;have dO:=MX (seen:=seen.add 16) hs ao;have cu:s < x.size:=by walk_at"o"
  have BP:¬x.size<=s+1:=by rw[hs,dJ];walk_at"o"
  induction q:Sre.isDigit d with
  |false=>
   refine aP (Fo (x:=x) (p:=s+1) (by rw[show s+1=s+1+0 from rfl,hd];exact q) e2.length 0 (((seen.add 16).add 24).add 13)) λsn ax=>?_;have bf:r=some b:=by
    rcases e2 with _ |⟨_,_ |⟨_,_⟩⟩<;>(simp only[qi,q,Bool.false_eq_true,if_false] at h;exact h)
   exact .none cu U BP (dO.trans ax) (aA bf)
  |true=>
   refine aP (E3 (x:=x) (p:=s+1) (by rw[show s+1=s+1+0 from rfl,hd];exact q) e2.length 0 (((seen.add 16).add 24).add 13)) λsn ax=>?_
   match e2,aM,hs,dO,ax,h with
   |[],aM,hs,dO,ax,h=>
    simp only[qi,q,if_true] at h;obtain rfl:=bT h;exact .hit cu U BP (n:=0) (dO.trans (ax.trans rfl)) (by rw[hs];rfl)
   |e::fa,aM,hs,dO,ax,h=>
    have he:=aM 1 e rfl;have eH:x.size=s+1+(fa.length+1+1):=hs;induction bN:Sre.isDigit e with
    |false=>
     refine aP (Fo (x:=x) (p:=s+1+1) (by rw[he];exact bN) fa.length 1 sn) λS9 aD=>?_;have bf:r=some b/\(s+3 < x.size\/(x.getD (s+2) 0==10)=false):=by
      rcases fa with _ |⟨_,_⟩
      ·simp only[qi,q,bN,if_true,Bool.false_eq_true,if_false] at h;replace h:=h;induction hI:e==10 with
       |true=>rw[hI] at h;injection h
       |false=>rw[hI] at h;exact⟨h,.inr (by rw[show s+2=s+1+1 from rfl,he];exact hI)⟩
      ·simp only[qi,q,bN,if_true,Bool.false_eq_true,if_false] at h;exact⟨h,.inl (by rw[eH,dJ];walk_at"o")⟩
     exact .miss (by walk_at"o") U (dO.trans (ax.trans aD)) bf.2 (aA bf.1)
    |true=>
     refine aP (E3 (x:=x) (p:=s+1+1) (by rw[he];exact bN) fa.length 1 sn) λS9 aD=>?_
     match fa,eH,aD,ax,dO,h with
     |[],eH,aD,ax,dO,h=>
      simp only[qi,q,bN,if_true] at h;obtain rfl:=bT h;exact .hit cu U BP (n:=1) (dO.trans (ax.trans (aD.trans rfl))) (by rw[eH];rfl)
     |_::_,eH,aD,ax,dO,h=>
      simp only[qi,q,bN,if_true] at h;injection h
end
theorem OR{x:Array Nat}{b:Bool}(ao:x.size<=1000):∀(t:List Nat) (s:Nat) (first:Bool) (seen:Sre.Seen),x.size=s+t.length->(∀k c,t[k]? =some c->x.getD (s+k) 0=c)->nU t=some b->Ends x s first seen b (10*t.length+3):=by
 intro ba;induction ba with
 |nil=>
  intro s first seen hs _ h
  obtain rfl:=bT h;exact⟨3,ea _,Oc hs.symm⟩
 |cons c t aw=>
  intro s first seen hs aM h
  have U:=aM 0 c rfl;have eH:x.size=s+1+t.length:=by rw[hs,dJ];walk_at"o"
  have tr:∀k c,t[k]? =some c->x.getD (s+1+k) 0=c:=λk c' ar=>by
   have:=aM (k+1) c' ar;rw[show s+1+k=s+(k+1) by walk_at"o"];exact this
  have aA:nU t=some b->∀sn,Ends x (s+1) false sn b (10*t.length+3):=λh sn=>aw (s+1) false sn eH tr h;have bx:10*(c::t).length+3=10*t.length+3+10:=by rw[dJ];walk_at"o"
  rw[bx];unfold nU at h;induction e:c==46 with
  |false=>
   rw[e] at h;exact .lit (by walk_at"o") (by rw[show s=s+0 from rfl,U];exact e) (aA h)
  |true=>
   rw[e,aQ rfl] at h;exact .dot tr eH ao (by rw[show s=s+0 from rfl,U];exact e) aA h
theorem Pz{x:Str}{b:Bool}(ae:2<=x.length)(ao:x.length<=300)(h:nU x.cps.toList=some b):kP x=some b:=by
 have hz:x.length=x.cps.size:=rfl;obtain⟨k,ar,bf⟩:=OR (x:=x.cps) (b:=b) (by walk_at"o") x.cps.toList 0 true (({}:Sre.Seen).add 14) (by simp) (λk c ar=>by
  rw[Nat.zero_add,Array.getD_eq_getD_getElem?, <-Array.getElem?_toList,ar];rfl) h
 have e:oT x=fw x.cps 0 true (({}:Sre.Seen).add 14):=by
  have h0:(if 0 > x.cps.size||x.cps.size - 0 < 2 then Sre.M.say {code:=g9,text:=x.cps,lim:=x.cps.size,start:=0,pc:=9,pos:=0,handed:=0,marks:= #[],seen:=({}:Sre.Seen).add 14} false else fw x.cps 0 true (({}:Sre.Seen).add 14))=fw x.cps 0 true (({}:Sre.Seen).add 14):=aI (by rw[decide_eq_false (by walk_at"o"),decide_eq_false (by walk_at"o")];decide);exact Eq.trans (by kernel_rfl) h0
 unfold kP;rw[e];have cj:k<=4000:=by
  rw[Array.length_toList] at ar;walk_at"o"
 have aD:4000=k+(4000 - k):=by walk_at"o"
 rw[aD,Di (by rw[bf];rfl),bf]
 (induction b)<;>rfl
noncomputable def aT(l:List Nat):Str:=⟨l.toArray⟩
noncomputable def RF:Nat->Nat
 |0=>97
 |1=>66
 |_=>55
noncomputable def rj:Nat->List Nat
 |0=>[120,108,111,99,97,108]
 |1=>[108,111,99,97,108]
 |2=>[99,55]
 |3=>[55]
 |_=>[99,111,109,46]
noncomputable def HC(p:List Nat)(t:List Nat):List Nat:=p.foldr (λc r=>RF c::46::r) t
noncomputable def AR(t:Nat):List Nat->List (List Nat)
 |[]=>if t==1 then [rj 1] else []
 |c::p=>HC (c::p) (rj t)::(if t < 3 then AR t p else [])
noncomputable def FV(a b c:Nat):List Nat:=(if a==0 then [] else [a - 1])++(if b==0 then [] else [b - 1])++[c]
noncomputable def strN(a:Nat):List Str:=if a==0 then [] else [Txt.item "aB7" ((a:Int) - 1)]
noncomputable def tc(a b c t:Nat):List Str:=strN a++(strN b++[Txt.item "aB7" c,xi.getD t ""])
theorem Nh:∀a < 4,∀b < 4,∀c < 3,∀t < 5,k1 (tc a b c t)=(AR t (FV a b c)).map aT:=by decide+kernel
theorem w3(a:Int){b:Int}(I:0 < b):0<=a.fmod b/\a.fmod b < b:=by
 rw[Int.fmod_eq_emod_of_nonneg a (Int.le_of_lt I)];exact⟨Int.emod_nonneg _ (Int.ne_of_gt I),Int.emod_lt_of_pos _ I⟩
theorem ED{cell z:Int}{l:List Str}:∃a,a < 4/\my cell z l=strN a++l:=by
 obtain⟨h0,ab⟩:0<=kh cell z/\kh cell z < 4:=w3 _ (by decide);refine⟨(kh cell z).toNat,by walk_at"o",?_⟩;unfold my strN;by_cases h:kh cell z=0
 ·rw[h];rfl
 ·have ax:(kh cell z != 0)=true:=bne_iff_ne.mpr h;have aD:((kh cell z).toNat==0)=false:=eF.mpr (by walk_at"o");rw[aQ ax,aD,Int.toNat_of_nonneg h0];rfl
theorem DW(cell:Int):∃a b c t,a < 4/\b < 4/\c < 3/\t < 5/\gK cell=tc a b c t:=by
 refine ah (ED (cell:=cell) (z:=100) (l:=sS cell)) λb I ct=>?_;refine ah (ED (cell:=cell) (z:=1000) (l:=my cell 100 (sS cell))) λa af fm=>?_;refine aE (w3 ((cell.fdiv 10).fmod 10) (b:=3) (by decide)) λh0 ab=>?_;refine aE (w3 cell (b:=5) (by decide)) λae aC=>?_;refine⟨a,b,(((cell.fdiv 10).fmod 10).fmod 3).toNat,(cell.fmod 5).toNat,af,I,by walk_at"o",by walk_at"o",?_⟩;unfold gK tc;rw[fm,ct,Int.toNat_of_nonneg h0];rfl
noncomputable def cS(l:List Nat):List Nat:=l.map lo1
noncomputable def rR(l:List Nat):List Nat:=l.map up1
noncomputable def gB(l:List Nat):Bool:=Nat.ble 2 l.length&&Nat.ble l.length 90&&(nU l).isSome
noncomputable def qh(l:List Nat):Bool:= !(nU l==some true)&&l != []&& !(l.headD 0==46)&& !(l.getLastD 0==46)
noncomputable def lW(l:List Nat):List Nat:=
 if l.contains 46 then
  (let r:=l.drop (l.findIdx (· ==46)+1)
  if qh l&&(r.contains 46||r==rj 1) then 46::r else l)
 else l
noncomputable def nv:List Nat->List (List Nat)
 |[]=>[]
 |c::t=>if c==46 then t::nv t else nv t
noncomputable def kJ(l:List Nat):Nat:=l.countP (· ==46)
noncomputable def mw:List (List Nat)->Bool
 |[]=>false
 |[x]=>lW x==x
 |x::y::r=>lW x==46::y&&kJ x==kJ y+1&&mw (y::r)
noncomputable def FQ(x:List Nat):Bool:=
 x.all (λc=>Nat.blt 45 c&&Nat.blt c 127)&&Nat.ble x.length 20&& !(x.headD 0==46)&&Nat.blt (kJ x) 9&&cS (rR x)==cS x
 &&gB x&&gB (cS x)&&gB ((cS x).drop 1)&&gB (119::cS x)&&gB (119::46::cS x)&&gB (119::46::(cS x++[46,55]))&&gB (119::46::(cS x++[46,55,48]))&&gB (119::46::(cS x++[46,120]))
noncomputable def zS:List (List Nat):=([0,1,2].map λc=>[c])++([0,1,2].flatMap λb=>[0,1,2].map λc=>[b,c])++([0,1,2].flatMap λa=>[0,1,2].flatMap λb=>[0,1,2].map λc=>[a,b,c])
noncomputable def Ak:List (List (List Nat)):=[0,1,2,3,4].flatMap λt=>zS.map λp=>AR t p
noncomputable def p2:List (List Nat):=rj 1::[0,1,2,3,4].flatMap λt=>zS.map λp=>HC p (rj t)
theorem Kk:(Ak.all λl=>mw l&&Nat.ble l.length 4&&l.all p2.contains)=true:=by decide+kernel
theorem Oe:p2.all FQ=true:=by decide+kernel
theorem Mf:∀a < 4,∀b < 4,∀c < 3,zS.contains (FV a b c)=true:=by decide+kernel
noncomputable def oD(eM jo:List Nat):Bool:=qh eM&&(nv (eM.drop 1)).any (λs=>jo.isPrefixOf s)&&qh jo
theorem Ms:(Ak.all λl=>p2.all λx=>oD (cS (l.headD [])) (cS x)==(l.drop 1).contains x&&(cS (l.headD [])==cS x)==(l.headD []==x))=true:=by decide+kernel
noncomputable def sT(n:List Nat):Bool:= !(decide (0+2<=n.length)&&((n.drop (n.length - 2)).take 2==[46,55]))&& !(decide (0+1<=n.length)&&((n.drop (n.length - 1)).take 1==[46]))
noncomputable def GD(x:List Nat)(b:Bool):Bool:=
 (oD (119::46::x) x==b)&&(oD (119::46::(x++[46,120])) x==b)
 && !oD (119::x) x&& !oD (119::46::(x++[46,55])) x&& !oD (119::46::(x++[46,55,48])) x
theorem NG:(p2.all λx=>GD (cS x) (sT x))=true:=by decide+kernel
noncomputable def GQ(l:List Str):Bool:=decide (0 < l.length/\l.length<=10/\ -10<=la l/\la l<=10)&&(range 5).all λk=>decide (((cL l (some (k:Nat)) none none).toArray.foldl (· +·.length+((".":Str)).length) 0)<=1000)&&decide ((Builtin.Str.glued "." (cL l (some (k:Nat)) none none)).length<=1000)
theorem OF:∀a < 4,∀b < 4,∀c < 3,∀t < 5,(GQ (tc a b c t)&&decide ((tc a b c t).length<=4))=true:=by decide+kernel
open PySem.Builtin.Str (subAt)
theorem lO(l:List Nat):(aT l).length=l.length:=rfl
theorem w8{a b:List Nat}(h:aT a=aT b):a=b:=congrArg (λx:Str=>x.cps.toList) h
theorem sP(a b:List Nat):aT a++aT b=aT (a++b):=by
 show(⟨a.toArray++b.toArray⟩:Str)=_;rw[append_toArray];rfl
theorem q0(a b:List Nat):(aT a==aT b)=(a==b):=by
 induction h:a==b with
 |true=>rw[eq_of_beq h];exact gW _
 |false=>exact eF.mpr λe=>(eF.mp h) (w8 e)
theorem nu:(".":Str)=aT [46]:=by kernel_rfl
theorem Fb:("":Str)=aT []:=by kernel_rfl
theorem wV{l:List Nat}(h:∀c∈l,c < 128):Txt.lower (aT l)=aT (cS l):=by
 rw[lower_ascii h];show(⟨l.toArray.map lo1⟩:Str)=⟨(l.map lo1).toArray⟩
 rw[map_toArray]
theorem MS{l:List Nat}(h:∀c∈l,c < 128):Txt.upper (aT l)=aT (rR l):=by
 rw[upper_ascii h];show(⟨l.toArray.map up1⟩:Str)=⟨(l.map up1).toArray⟩
 rw[map_toArray]
theorem uy{l:List Nat}{k:Nat}(h:k<=l.length):Txt.slice (aT l) (some (k:Int)) none=aT (l.drop k):=by
 rw[slice_from_eq (b:=(l.length:Int)) (by exact nq _) (by show(k:Int)<=((l.length:Nat):Int);walk_at"o") rfl];show(⟨((l.drop (k:Int).toNat).take ((l.length:Int) - (k:Int)).toNat).toArray⟩:Str)=_;rw[Int.toNat_natCast,kE (by rw[length_drop];walk_at"o")];rfl
theorem q9{l:List Nat}(h:gB l=true):p0 (aT l)/\n0 (aT l)=(nU l==some true)/\2<=l.length/\l.length<=90:=by
 unfold gB at h;simp only[Bool.and_eq_true] at h;refine aE h λaU aC=>?_;refine aE aU λab ae=>?_;have ab:=gc ab;have ae:=gc ae;refine aP (nk.mp aC) λb I=>?_;have e:=Pz (x:=aT l) (b:=b) (by rw[lO];exact ab) (by rw[lO];exact bH ‹_› rfl) I;refine⟨by unfold p0;rw[e];rfl,?_,ab,ae⟩;unfold n0;rw[e,I]
 (induction b)<;>rfl
theorem Mb(c:Nat)(t:List Nat):Txt.item (aT (c::t)) 0=aT [c]:=item_meets (by decide) rfl
theorem MK{l:List Nat}(h:l≠[]):Txt.item (aT l) (-1)=aT [l.getLastD 0]:=by
 have e:l=l.dropLast++[l.getLast h]:=(dropLast_concat_getLast h).symm;have aD:l.getLastD 0=l.getLast h:=by
  rw[getLastD_eq_getLast?,getLast?_eq_some_getLast h];rfl
 rw[aD];have:=item_last_right1 (aT l.dropLast) (l.getLast h);rw[show(⟨#[l.getLast h]⟩:Str)=aT [l.getLast h] from rfl,sP, <-e] at this;exact this
theorem zT{l:List Nat}(h:gB l=true):lA (n0 (aT l)) (aT l)=qh l:=by
 refine eR (q9 h) λ_ e ae _=>?_;unfold lA qh;rw[e]
 match l,ae with
 |c::t,_=>
  rw[Fb,q0,Mb,MK (by walk_at"o"),nu,q0,q0];have ax:((c::t:List Nat)==[])=false:=rfl;have aD:((c::t:List Nat) != [])=true:=rfl;rw[ax,aD,headD_cons];have a8:∀a b:Nat,([a]==[b])=(a==b):=λa b=>by
   show(a==b&&(([]:List Nat)==[]))=_;rw[show(([]:List Nat)==[])=true from rfl,Bool.and_true]
  rw[a8,a8]
  (induction nU (c::t)==some true)<;>(induction c==46)<;>(induction (c::t).getLastD 0==46)<;>rfl
theorem EV{l:List Nat}:(Txt.find (aT l) "."= -1/\l.contains 46=false)\/(Txt.find (aT l) "."=(l.findIdx (· ==46):Nat)/\l.contains 46=true/\l.findIdx (· ==46) < l.length):=by
 have BV:∀i,StrLaws.At (aT l) "." (aT l).length i↔l[i]? =some 46:=λi=>by
  rw[nu];exact StrLaws.subAt_one (aT l) 46 i
 rcases find_whole (aT l) "." with⟨h,aA⟩ |⟨i,h,hi,ar⟩
 ·refine .inl ⟨h,?_⟩;induction e:l.contains 46 with
  |false=>rfl
  |true=>
   obtain⟨i,hi⟩:=getElem?_of_mem (List.contains_iff_mem.mp e);exact absurd ((BV i).mpr hi) (aA i)
 ·have fv:=(BV i).mp hi;obtain⟨cu,aq⟩:=kG.mp fv;have e:l.findIdx (· ==46)=i:=by
   refine(findIdx_eq cu).mpr ⟨by rw[aq];rfl,λj aN=>?_⟩;refine eF.mpr λq=>ar j aN ((BV j).mpr ?_);rw[cm (by exact Nat.lt_trans ‹_› ‹_›),q]
  exact .inr ⟨by rw[h,e],List.contains_iff_mem.mpr (eW fv),by rw[e];exact cu⟩
theorem Mt:("local":Str)=aT (rj 1):=by kernel_rfl
theorem Ah{l:List Nat}(h:gB l=true):mR (aT l)=aT (lW l):=by
 unfold mR sV lW;rw[zT h];rcases EV (l:=l) with⟨e,c⟩ |⟨e,c,cu⟩
 ·rw[e,c];rfl
 ·have dO:decide ((0:Int)<=((l.findIdx (· ==46):Nat):Int))=true:=eu (by exact nq _);have es:Txt.slice (aT l) (some (((l.findIdx (· ==46):Nat):Int)+1)) none=aT (l.drop (l.findIdx (· ==46)+1)):=uy (k:=l.findIdx (· ==46)+1) cu;rw[e,c,dO,aQ rfl,aQ rfl,es];generalize l.drop (l.findIdx (· ==46)+1)=r;induction r using jH;rename_i r
  have ax:decide (0<=Txt.find (aT r) ".")=r.contains 46:=by
   rcases EV (l:=r) with⟨e,c⟩ |⟨e,c,cu⟩
   ·rw[e,c];rfl
   ·rw[e,c];exact eu (by exact nq _)
  rw[ax,Mt,q0,nu,sP];dsimp only
  (induction qh l&&(r.contains 46||r==rj 1))<;>rfl
open PySem.Builtin.Str (subAt)
theorem z7(l b:List Nat)(i:Nat):StrLaws.At (aT l) (aT b) (aT l).length i↔i+b.length<=l.length/\(l.drop i).take b.length=b:=by
 unfold StrLaws.At;rw[StrLaws.subAt_eq];show(i+b.length<=l.length/\((l.drop i).take b.length==b)=true)↔_;rw[gz]
theorem Md{x:List Nat}:∀{l:List Nat},(nv l).any (λs=>x.isPrefixOf s)=true↔∃i,i+(x.length+1)<=l.length/\(l.drop i).take (x.length+1)=46::x:=by
 intro ba;induction ba with
 |nil=>
  exact⟨λh=>(by injection h),λh=>(by refine ah h λi h _=>?_;exact absurd h (k4 _))⟩
 |cons c t aw=>
  have aw:=aw;have aa:x.isPrefixOf t=true↔x.length<=t.length/\t.take x.length=x:=by
   rw[isPrefixOf_iff_prefix,prefix_iff_eq_take];constructor
   ·intro h;have:=congrArg List.length h;rw[length_take] at this;exact⟨by walk_at"o",h.symm⟩
   ·rintro⟨_,h⟩;exact h.symm
  unfold nv;by_cases U:c=46
  ·subst U;rw[aQ (gW _),any_cons,Bool.or_eq_true,aw,aa];constructor
   ·rintro(⟨ab,ae⟩ |⟨i,ab,ae⟩)
    ·exact⟨0,by rw[dJ];walk_at"o",by rw[drop_zero,take_succ_cons,ae]⟩
    ·exact⟨i+1,by rw[dJ];walk_at"o",ae⟩
   ·intro dg;refine ah dg λi ab ae=>?_;induction i with
    |zero=>
     rw[drop_zero,take_succ_cons] at ae;replace ae:=ae;rw[dJ] at ab;injection ae with _ ae
     exact .inl ⟨by walk_at"o",ae⟩
    |succ i=>rw[dJ] at ab;exact .inr ⟨i,by walk_at"o",ae⟩
  ·have fx:(c==46)=false:=eF.mpr U;rw[fx,aI (by decide),aw];constructor
   ·rintro⟨i,ab,ae⟩;exact⟨i+1,by rw[dJ];walk_at"o",ae⟩
   ·intro e8;refine ah e8 λi ab ae=>?_;induction i with
    |zero=>
     rw[drop_zero,take_succ_cons] at ae;replace ae:=ae;injection ae with ae _
     exact absurd ae U
    |succ i=>rw[dJ] at ab;exact⟨i,by walk_at"o",ae⟩
theorem L9{c:Nat}{t x:List Nat}(U:c≠46):(Txt.rfind (aT (c::t)) (aT (46::x))== -1||Txt.rfind (aT (c::t)) (aT (46::x))==0)= !(nv t).any (λs=>x.isPrefixOf s):=by
 have key:(∃i,StrLaws.At (aT (c::t)) (aT (46::x)) (aT (c::t)).length i)↔(nv t).any (λs=>x.isPrefixOf s)=true:=by
  rw[Md];constructor
  ·intro gR;refine aP gR λi h=>?_;refine aE ((z7 _ _ _).mp h) λab ae=>?_;induction i with
   |zero=>
    rw[drop_zero,dJ,take_succ_cons] at ae;replace ae:=ae;injection ae with ae _
    exact absurd ae U
   |succ i=>
    simp only[length_cons] at ab;exact⟨i,by walk_at"o",ae⟩
  ·intro iE;refine ah iE λi ab ae=>?_;exact⟨i+1,(z7 _ _ _).mpr ⟨by simp only[length_cons];walk_at"o",ae⟩⟩
 have h0:∀i,StrLaws.At (aT (c::t)) (aT (46::x)) (aT (c::t)).length i->i≠0:=λi h e=>by
  refine aE ((z7 _ _ _).mp h) λ_ ae=>?_;rw[e,drop_zero,dJ,take_succ_cons] at ae;replace ae:=ae;injection ae with ae _
  exact U ae
 rcases rfind_whole (aT (c::t)) (aT (46::x)) with⟨h,aA⟩ |⟨i,h,hi,_⟩
 ·rw[h];have:(nv t).any (λs=>x.isPrefixOf s)=false:=by
   induction e:(nv t).any (λs=>x.isPrefixOf s) with
   |false=>rfl
   |true=>refine aP (key.mpr e) λi hi=>?_;exact absurd hi (aA i)
  rw[this];rfl
 ·rw[h,key.mp ⟨i,hi⟩];have:=h0 i hi;have ax:((i:Int)== -1)=false:=eF.mpr (by walk_at"o");have aD:((i:Int)==0)=false:=eF.mpr (by walk_at"o");rw[ax,aD];rfl
theorem DI(x:List Nat):Txt.startswith (aT x) "."=(x.headD 0==46):=by
 rw[nu];unfold Txt.startswith;rw[StrLaws.subAt_eq];show(decide (0+1<=x.length)&&((x.drop 0).take 1==[46]))=_;induction x with
 |nil=>rfl
 |cons c t=>
  rw[eu (by rw[dJ];exact gc rfl)];show(true&&(c==46&&(([]:List Nat)==[])))=(c==46)
  rw[show(([]:List Nat)==[])=true from rfl,Bool.and_true,Bool.true_and]
variable {jo:List Nat}
theorem NA{eM:List Nat}(ab:gB eM=true)(ae:gB jo=true)(hd:eM.headD 0≠46):l6 (aT eM) (aT (46::jo)) (n0 (aT eM)) (n0 (aT jo))=oD eM jo:=by
 refine eR (q9 ab) λ_ _ ao _=>?_
 match eM,ao,hd,ab with
 |c::t,_,hd,ab=>
  have U:c≠46:=hd;unfold l6 oD;have ax:((c::t:List Nat)==46::jo)=false:=eF.mpr λq=>U (List.cons.inj q).1;have aD:Txt.slice (aT (46::jo)) (some 1) none=aT jo:=uy (l:=46::jo) (k:=1) (by rw[dJ];exact gc rfl);rw[q0,ax,zT ab,L9 U,DI,aD,zT ae,headD_cons,drop_one,tail_cons]
  (induction qh (c::t))<;>(induction (nv t).any (λs=>jo.isPrefixOf s))<;>(induction qh jo)<;>rfl
theorem MJ{eM:List Nat}{p q:Bool}(h:(jo.headD 0==46)=false):l6 (aT eM) (aT jo) p q=(eM==jo):=by
 unfold l6;rw[q0,DI,h];cases eM==jo
 ·walk_at"o"
 ·rfl
def yB(x:Str):Prop:=∃n,n∈p2/\x=aT n
def BG(l:List Str):Prop:=∃k,k∈Ak/\l=k.map aT
theorem Nv{a b c t:Nat}(af:a < 4)(I:b < 4)(U:c < 3)(aM:t < 5):BG (k1 (tc a b c t)):=by
 refine⟨_,?_,Nh a af b I c U t aM⟩;refine List.mem_flatMap.mpr ⟨t,?_,bA.mpr ⟨_,List.contains_iff_mem.mp (Mf a af b I c U),rfl⟩⟩;have key:∀t < 5,t∈[0,1,2,3,4]:=by decide
 exact key t aM
theorem E9(cell:Int):BG (k1 (gK cell)):=by
 refine GK (DW cell) λa b c t af I U aM e=>?_;rw[e];exact Nv af I U aM
structure S8 (n:List Nat):Prop where
 asc:∀c∈n,c < 127
 len:n.length<=20
 hd:(n.headD 0==46)=false
 cnt:kJ n < 9
 up:cS (rR n)=cS n
 yy:gB n=true
 bR:gB (cS n)=true
 cI:gB ((cS n).drop 1)=true
 gG:gB (119::cS n)=true
 pb:gB (119::46::cS n)=true
 fW:gB (119::46::(cS n++[46,55]))=true
 yD:gB (119::46::(cS n++[46,55,48]))=true
 yN:gB (119::46::(cS n++[46,120]))=true
theorem tm{n:List Nat}(h:n∈p2):S8 n:=by
 have:=iP.mp Oe n h;unfold FQ at this;simp only[Bool.and_eq_true,List.all_eq_true,Bool.not_eq_true',beq_iff_eq] at this;refine aE this λaU Uw=>?_;refine aE aU λa7 S3=>?_;refine aE a7 λbk BN=>?_;refine aE bk λbz tN=>?_;refine aE bz λb7 qE=>?_;refine aE b7 λcC qC=>?_;refine aE cC λc1 m5=>?_;refine aE c1 λc2 jt=>?_;refine aE c2 λeS dA=>?_;refine aE eS λeQ bc=>?_;refine aE eQ λft aC=>?_;refine aE ft λab ae=>?_;exact⟨λc U=>gc (ab c U).2,gc ae,aC,gc bc,dA,jt,m5,qC,qE,tN,BN,S3,Uw⟩
theorem OO(c:Nat):up1 c<=c:=by unfold up1;split<;>walk_at"o"
theorem Ab{n:List Nat}(h:(n.headD 0==46)=false):((cS n).headD 0==46)=false:=by
 induction n with
 |nil=>rfl
 |cons c t=>
  show(lo1 c==46)=false;have h:(c==46)=false:=h;have h:=eF.mp h;refine eF.mpr ?_;unfold lo1;split<;>walk_at"o"
theorem ux{n:List Nat}(h:∀c∈n,c < 127):∀c∈n,c < 128:=λc U=>Nat.lt_succ_of_lt (h c U)
section
variable {a n:List Nat}
theorem sU(af:∀c∈a,c < 127)(aA:∀c∈n,c < 127)(ab:gB (cS a)=true)(ae:gB (cS n)=true)(hd:((cS a).headD 0==46)=false):mF (aT a) (aT (46::n))/\hB (aT a) (aT (46::n))=oD (cS a) (cS n):=by
 refine eR (q9 ab) λeD _ _ dH=>?_;refine eR (q9 ae) λgH _ _ dh=>?_;have eM:Txt.lower (aT a)=aT (cS a):=wV (ux af);have ln:Txt.lower (aT (46::n))=aT (46::cS n):=by
  have h:∀c∈46::n,c < 128:=λc U=>by
   rcases bI.mp U with rfl |U
   ·decide
   ·exact ux aA c U
  rw[wV h];rfl
 have es:Txt.slice (aT (46::cS n)) (some 1) none=aT (cS n):=uy (l:=46::cS n) (k:=1) (by rw[dJ];exact gc rfl);have ax:(cS a).length=a.length:=bO ..;have aD:(cS n).length=n.length:=bO ..;refine⟨⟨?_,?_,?_,?_,?_,?_⟩,?_⟩
 ·rw[lO];walk_at"o"
 ·rw[lO,dJ];walk_at"o"
 ·rw[eM,lO];exact bH ‹_› rfl
 ·rw[ln,lO,dJ];walk_at"o"
 ·rw[eM];exact eD
 ·rw[ln,es];exact gH
 ·unfold hB;rw[eM,ln,es];exact NA ab ae (eF.mp hd)
theorem ET(af:∀c∈a,c < 127)(aA:∀c∈n,c < 127)(ab:gB (cS a)=true)(ae:gB ((cS n).drop 1)=true)(ao:n.length<=20)(hd:((cS n).headD 0==46)=false):mF (aT a) (aT n)/\hB (aT a) (aT n)=(cS a==cS n):=by
 refine eR (q9 ab) λeD _ _ dH=>?_;refine eR (q9 ae) λgH _ pa dh=>?_;have eM:Txt.lower (aT a)=aT (cS a):=wV (ux af);have ln:Txt.lower (aT n)=aT (cS n):=wV (ux aA);have ax:(cS a).length=a.length:=bO ..;have aD:(cS n).length=n.length:=bO ..;rw[length_drop] at pa;have es:Txt.slice (aT (cS n)) (some 1) none=aT ((cS n).drop 1):=uy (l:=cS n) (k:=1) (by walk_at"o");refine⟨⟨?_,?_,?_,?_,?_,?_⟩,?_⟩
 ·rw[lO];walk_at"o"
 ·rw[lO];exact bH ‹_› rfl
 ·rw[eM,lO];exact bH ‹_› rfl
 ·rw[ln,lO];walk_at"o"
 ·rw[eM];exact eD
 ·rw[ln,es];exact gH
 ·unfold hB;rw[eM,ln,es];exact MJ hd
end
theorem Nx(l:List Nat):(lW l).length<=l.length+1:=by
 unfold lW;split
 ·dsimp only;split
  ·rw[dJ,length_drop];walk_at"o"
  ·exact Nat.le_add_right _ _
 ·exact Nat.le_add_right _ _
structure Rr (x:Str):Prop where
 ok:PyData.strOk x=true/\x.length<=90/\p0 x/\(mR x).length<=90
 ne:x≠""
 z6:∀z∈four x++two x,mF z.1 z.2
 ends:pQ hB x=true
theorem EI(n y:List Nat):Txt.endswith (aT n) (aT y)=(decide (0+y.length<=n.length)&&((n.drop (n.length - y.length)).take y.length==y)):=by
 unfold Txt.endswith;rw[StrLaws.subAt_eq];rfl
theorem ve{x:Str}(h:yB x):Rr x:=by
 refine ah h λn aA fS=>?_;subst fS;have B:=tm aA;refine eR (q9 B.yy) λiK _ l0 _=>?_;have E:=iP.mp NG n aA;unfold GD at E;simp only[Bool.and_eq_true,beq_iff_eq,Bool.not_eq_true'] at E;refine aE E λgg U3=>?_;refine aE gg λiz Vs=>?_;refine aE iz λiA Vc=>?_;refine aE iA λVi Cx=>?_;have hw:∀c∈(119::n),c < 127:=λc U=>by
  rcases bI.mp U with rfl |U
  ·decide
  ·exact B.asc c U
 have vP:∀t:List Nat,(∀c∈t,c < 127)->∀c∈(119::46::(n++t)),c < 127:=λt aM c U=>by
  rcases bI.mp U with rfl |U
  ·decide
  ·rcases bI.mp U with rfl |U
   ·decide
   ·rcases dk.mp U with U |U
    ·exact B.asc c U
    ·exact aM c U
 have tB:∀t,cS (119::46::(n++t))=119::46::(cS n++cS t):=λt=>by
  show 119::46::(n++t).map lo1=_;rw[dY];rfl
 have d1:=sU (a:=119::n) (n:=n) hw B.asc B.gG B.bR rfl;have d2:=ET (a:=119::46::(n++[])) (n:=n) (vP [] (by decide)) B.asc (by rw[tB,show cS []=[] from rfl,append_nil];exact B.pb) B.cI B.len (Ab B.hd);have wb:=sU (a:=119::46::(n++[46,55])) (n:=n) (vP _ (by decide)) B.asc (by rw[tB];exact B.fW) B.bR rfl;have v8:=sU (a:=119::46::(n++[46,55,48])) (n:=n) (vP _ (by decide)) B.asc (by rw[tB];exact B.yD) B.bR rfl;have sb:=sU (a:=119::46::(n++[])) (n:=n) (vP [] (by decide)) B.asc (by rw[tB,show cS []=[] from rfl,append_nil];exact B.pb) B.bR rfl;have v3:=sU (a:=119::46::(n++[46,120])) (n:=n) (vP _ (by decide)) B.asc (by rw[tB];exact B.yN) B.bR rfl;rw[tB] at d2 wb v8 sb v3;replace wb:=wb;replace v8:=v8;replace v3:=v3;rw[append_nil] at d2 sb;rw[show cS []=[] from rfl,append_nil] at d2 sb;replace d2:=d2;replace sb:=sb;have Tx:(119::46::cS n==cS n)=false:=eF.mpr λq=>by
  have:=congrArg List.length q;simp only[length_cons] at this;walk_at"o"
 have Vd:("w":Str)=aT [119]:=by kernel_rfl
 have Bj:("w.":Str)=aT [119,46]:=by kernel_rfl
 have r9:(".7":Str)=aT [46,55]:=by kernel_rfl
 have UX:(".70":Str)=aT [46,55,48]:=by kernel_rfl
 have ex:(".x":Str)=aT [46,120]:=by kernel_rfl
 have bW:four (aT n)=[(aT (119::n),aT (46::n)),(aT (119::46::n),aT n),(aT (119::46::(n++[46,55])),aT (46::n)),(aT (119::46::(n++[46,55,48])),aT (46::n))]:=by
  unfold four;rw[Vd,Bj,r9,UX,nu];simp only[sP];rfl
 have aD:two (aT n)=[(aT (119::46::n),aT (46::n)),(aT (119::46::(n++[46,120])),aT (46::n))]:=by
  unfold two;rw[Bj,ex,nu];simp only[sP];rfl
 have Vn:q2 (aT n)=sT n:=by
  unfold q2 sT;rw[r9,nu,EI,EI];rfl
 refine⟨⟨?_,?_,iK,?_⟩,?_,?_,?_⟩
 ·show n.toArray.all (λc=>decide (c < 0x110000))=true;rw[all_toArray];exact iP.mpr λc U=>eu (Nat.lt_trans (B.asc c U) (by decide))
 ·rw[lO];exact ei B.len (by decide)
 ·rw[Ah B.yy,lO];have:=Nx n;have:=B.len;walk_at"o"
 ·intro q;rw[Fb] at q;rw[w8 q] at l0;exact absurd l0 (by decide)
 ·rw[bW,aD];intro z hz;rcases dk.mp hz with hz |hz
  ·rcases bI.mp hz with rfl |hz
   ·exact d1.1
   rcases bI.mp hz with rfl |hz
   ·exact d2.1
   rcases bI.mp hz with rfl |hz
   ·exact wb.1
   rcases bI.mp hz with rfl |hz
   ·exact v8.1
   exact absurd hz b8
  ·rcases bI.mp hz with rfl |hz
   ·exact sb.1
   rcases bI.mp hz with rfl |hz
   ·exact v3.1
   exact absurd hz b8
 ·unfold pQ;rw[bW,Vn,Bj,ex,nu];simp only[sP];have a1:hB (aT (119::n)) (aT (46::n))=false:=d1.2.trans Vc;have a2:hB (aT (119::46::n)) (aT n)=false:=d2.2.trans Tx;have dG:hB (aT (119::46::(n++[46,55]))) (aT (46::n))=false:=wb.2.trans Vs;have fo:hB (aT (119::46::(n++[46,55,48]))) (aT (46::n))=false:=v8.2.trans U3;have lI:hB (aT ([119,46]++n)) (aT ([46]++n))=sT n:=sb.2.trans Vi;have qH:hB (aT ([119,46]++n++[46,120])) (aT ([46]++n))=sT n:=v3.2.trans Cx;rw[lI,qH];simp only[all_cons,all_nil,a1,a2,dG,fo]
  (induction sT n)<;>rfl
theorem zX(n:List Nat):Txt.count (aT n) "."=(kJ n:Nat):=by
 rw[nu];refine(count_is (aT n) 46).trans ?_;show cnt 46 n=_;induction n with
 |nil=>rfl
 |cons c t aw=>
  rw[cnt_cons,aw];unfold kJ;rw[countP_cons];by_cases h:c=46
  ·rw[aQ h,aQ (by rw[h];rfl)];walk_at"o"
  ·rw[aI h,aI (by rw[eF.mpr h];decide)];walk_at"o"
theorem uq:∀{p t:List (List Nat)},t≠[]->mw (p++t)=true->mw t=true
 |[],_,_,h=>h
 |[x],t,aM,h=>by
  match t,aM,h with
  |y::r,_,h=>
   have h:(lW x==46::y&&kJ x==kJ y+1&&mw (y::r))=true:=h;exact(k7.mp h).2
 |x::y::p,t,aM,h=>by
  have h:(lW x==46::y&&kJ x==kJ y+1&&mw (y::(p++t)))=true:=h;exact uq (p:=y::p) aM (k7.mp h).2
theorem K7(y:List Nat):Txt.slice (aT (46::y)) (some 1) none=aT y:=uy (l:=46::y) (k:=1) (by rw[dJ];exact gc rfl)
theorem MF:∀{k:List (List Nat)} (U:mw k=true) (aA:∀n∈k,n∈p2) (j:Nat),dU mR ((k.map aT).getD 0 "") j=(k.map aT).take (j+1):=by
 intro k U aA j;induction j with
 |zero=>
  match k,U with
  |x::r,_=>rfl
 |succ j aw=>
  show ng mR (dU mR _ j) j=_;rw[aw];unfold ng;by_cases h:j+1 < k.length
  ·obtain⟨x,ag⟩:∃x,k[j]? =some x:=⟨_,cm (by walk_at"o")⟩
   obtain⟨y,av⟩:∃y,k[j+1]? =some y:=⟨_,cm h⟩
   have dO:k=k.take j++x::y::k.drop (j+2):=by
    obtain⟨ab,Ul⟩:=kG.mp ag;obtain⟨ae,TK⟩:=kG.mp av;have ax:=drop_eq_getElem_cons ab;have aD:=drop_eq_getElem_cons ae;rw[Ul] at ax;rw[TK] at aD;rw[<-aD, <-ax,take_append_drop]
   have hs:mw (x::y::k.drop (j+2))=true:=uq (p:=k.take j) (by walk_at"o") (by rw[<-dO];exact U);have eH:(lW x==46::y&&kJ x==kJ y+1&&mw (y::k.drop (j+2)))=true:=hs;have bf:lW x=46::y:=eq_of_beq (k7.mp (k7.mp eH).1).1;have nO:=tm (aA x (eW ag));have ex:(k.map aT)[j]? =some (aT x):=by rw[eb,ag];rfl
   have sl:(k.map aT)[j+1]? =some (aT y):=by rw[eb,av];rfl
   have ao:((k.map aT).take (j+1)).length=j+1:=by rw[length_take,bO];walk_at"o"
   have lg:((k.map aT).take (j+1)).getD j ""=aT x:=by
    rw[c7,getElem?_take,aQ (by exact k6 _),ex];rfl
   rw[ao,Nat.add_sub_cancel,lg,Ah nO.yy,bf];have bY:(aT (46::y) != aT x)=true:=bne_iff_ne.mpr λq=>by
    have q:=w8 q;have:=nO.hd;rw[<-q] at this;injection this
   rw[aQ bY,K7,hO (i:=j+1),sl];rfl
  ·have ao:((k.map aT).take (j+1))=k.map aT:=kE (by rw[bO];walk_at"o");have x5:((k.map aT).take (j+1+1))=k.map aT:=kE (by rw[bO];walk_at"o");rw[ao,x5];have ar:k≠[]:=λq=>by rw[q] at U;injection U
   have dO:k=k.dropLast++[k.getLast ar]:=(dropLast_concat_getLast ar).symm;have hs:mw [k.getLast ar]=true:=uq (p:=k.dropLast) (by walk_at"o") (by rw[<-dO];exact U);have bf:lW (k.getLast ar)=k.getLast ar:=eq_of_beq hs;have nO:=tm (aA _ (getLast_mem ar));have lg:(k.map aT).getD ((k.map aT).length - 1) ""=aT (k.getLast ar):=by
    rw[c7, <-getLast?_eq_getElem?,getLast?_map,getLast?_eq_some_getLast ar];rfl
   rw[lg,Ah nO.yy,bf];have:(aT (k.getLast ar) != aT (k.getLast ar))=false:=by walk_at"o"
   rw[this];rfl
structure Af (l:List Str):Prop where
 len0:0 < l.length
 l1:l.length<=4
 nm:∀x∈l,yB x
 up:∀p x r,l=p++x::r->dU mR x 5=x::r
 dot:∀p x y r,l=p++x::y::r->Txt.count x "."=Txt.count y "."+1
 fit:∀x,yB x->(mF (Txt.upper (l.getD 0 "")) ((".":Str)++x)/\mF (Txt.upper (l.getD 0 "")) x)/\hB (Txt.upper (l.getD 0 "")) ((".":Str)++x)=(l.drop 1).contains x/\hB (Txt.upper (l.getD 0 "")) x=(l.getD 0 ""==x)
theorem DU{k:List (List Nat)}{p r:List Str}{x:Str}(h:k.map aT=p++x::r):∃p' gx r',k=p'++gx::r'/\p=p'.map aT/\x=aT gx/\r=r'.map aT:=by
 refine bj (List.map_eq_append_iff.mp h) λp' q ll ax aD=>?_;subst ll;refine bj (List.map_eq_cons_iff.mp aD) λgx r' oB a8 bW=>?_;subst oB;exact⟨p',gx,r',rfl,ax.symm,a8.symm,bW.symm⟩
theorem FO{l:List Str}(h:BG l):Af l:=by
 refine ah h λk ar oE=>?_;subst oE;have U:=iP.mp Kk k ar;simp only[Bool.and_eq_true,List.all_eq_true] at U;replace U:=U;refine aE U λrE aA=>?_;refine aE rE λU bc=>?_;have aA:∀n∈k,n∈p2:=λn gS=>List.contains_iff_mem.mp (aA n gS);have bc:=gc bc;have h0:k≠[]:=λq=>by rw[q] at U;injection U
 refine⟨?_,?_,?_,?_,?_,?_⟩
 ·rw[bO];exact List.length_pos_iff.mpr h0
 ·rw[bO];exact bc
 ·intro x ag;refine ah (bA.mp ag) λn gS ru=>?_;subst ru;exact⟨n,aA n gS,rfl⟩
 ·intro p x r e;refine cg (DU e) λp' gx r' uR AL AG AZ=>?_;subst uR;subst AL;subst AG;subst AZ;have:=MF (k:=gx::r') (uq (by walk_at"o") U) (λn gS=>aA n (b9 _ gS)) 5;refine this.trans (kE ?_);rw[bO];rw[fB] at bc;walk_at"o"
 ·intro p x y r e;refine cg (DU e) λp' gx r' QP Qk Qf aD=>?_;subst QP;subst Qk;subst Qf;refine bj (List.map_eq_cons_iff.mp aD.symm) λg4 eY Rc QB Sd=>?_;subst Rc;subst QB;subst Sd;have hs:(lW gx==46::g4&&kJ gx==kJ g4+1&&mw (g4::eY))=true:=uq (p:=p') (t:=gx::g4::eY) (by walk_at"o") U;have:=eq_of_beq (k7.mp (k7.mp hs).1).2;rw[zX,zX,this];rfl
 ·intro x dg;refine ah dg λn gS dr=>?_;subst dr
  match k,h0,ar,aA with
  |a::k',_,ar,aA=>
   have B:=tm gS;have A:=tm (aA a cM);have F:=iP.mp (iP.mp Ms _ ar) n gS;rw[i9,gz,gz] at F;refine aE F λCk CG=>?_;have CB:Txt.upper (aT a)=aT (rR a):=MS (ux A.asc);have bE:∀c∈rR a,c < 127:=λc U=>by
    refine ah (bA.mp U) λd hd Q6=>?_;subst Q6;exact Nat.lt_of_le_of_lt (OO d) (A.asc d hd)
   have d1:=sU (a:=rR a) (n:=n) bE B.asc (by rw[A.up];exact A.bR) B.bR (by rw[A.up];exact Ab A.hd);have d2:=ET (a:=rR a) (n:=n) bE B.asc (by rw[A.up];exact A.bR) B.cI B.len (Ab B.hd);rw[A.up] at d1 d2;replace d1:=d1;replace d2:=d2;show(mF (Txt.upper (aT a)) ((".":Str)++aT n)/\mF (Txt.upper (aT a)) (aT n))/\hB (Txt.upper (aT a)) ((".":Str)++aT n)=(k'.map aT).contains (aT n)/\hB (Txt.upper (aT a)) (aT n)=(aT a==aT n)
   have v7:(k'.map aT).contains (aT n)=k'.contains n:=by
    rw[Bool.eq_iff_iff,contains_iff_mem,contains_iff_mem,bA];exact⟨λQb=>ah Qb λb I e=>w8 e▸I,λh=>⟨n,h,rfl⟩⟩
   rw[CB,nu,sP,v7,q0];exact⟨⟨d1.1,d2.1⟩,d1.2.trans Ck,d2.2.trans CG⟩
theorem L5{l:List Str}(h:l.length<=4)(k:Nat):cL l (some (k:Nat)) none none=cL l (some ((min k 4:Nat):Nat)) none none:=by
 have e:sliceBounds (some ((k:Nat):Int)) none none l.length=sliceBounds (some ((min k 4:Nat):Int)) none none l.length:=by
  have ax:∀j:Nat,sliceBounds (some ((j:Nat):Int)) none none l.length=(max 0 (min (if(j:Int) < 0 then(j:Int)+l.length else j) l.length),(l.length:Int),1):=λj=>rfl;rw[ax,ax,aI (by walk_at"o"),aI (by walk_at"o")];congr 1;walk_at"o"
 unfold cL;rw[e]
theorem Rd(cell:Int):0 < (gK cell).length/\(gK cell).length<=10/\ -10<=la (gK cell)/\la (gK cell)<=10/\∀k:Nat,((cL (gK cell) (some (k:Nat)) none none).toArray.foldl (· +·.length+((".":Str)).length) 0)<=sizeLine/\(Builtin.Str.glued "." (cL (gK cell) (some (k:Nat)) none none)).length<=sizeLine:=by
 refine GK (DW cell) λa b c t af I U aM e=>?_;rw[e];have h:=OF a af b I c U t aM;rw[i9,d5] at h;replace h:=h;refine aE h λh bc=>?_;unfold GQ at h;rw[i9,d5,iP] at h;refine aE h λaU dA=>?_;refine eR aU λab ae aC Bl=>?_;refine⟨ab,ae,aC,Bl,λk=>?_⟩;rw[L5 bc];have:=dA (min k 4) (j6.mpr (by walk_at"o"));rw[i9,d5,d5] at this;replace this:=this;have hs:1000<=sizeLine:=by decide
 exact⟨ei this.1 hs,ei this.2 hs⟩
theorem LY{l:List Int}(h:0 < l.length):bestOf (λa b=>decide (b < a)) l∈l/\∀k∈l,k<=bestOf (λa b=>decide (b < a)) l:=by
 refine aE (PySem.argBest_gt (λi=>l.getD i 0) (l.length - 1)) λab ae=>?_;unfold bestOf;generalize e:argBest (λi j=>decide (l.getD j 0 < l.getD i 0)) (l.length - 1)=b at ab ae ⊢;induction b using jH;rename_i b
 have ab:b<=l.length - 1:=ab;refine⟨?_,λk ar=>?_⟩
 ·rw[c7,cm (by walk_at"o")];exact getElem_mem _
 ·obtain⟨j,aN⟩:=getElem?_of_mem ar;have:=(kG.mp aN).1;have:=ae j (by walk_at"o");have aD:l.getD j 0=k:=by rw[c7,aN];rfl
  have this:l.getD j 0<=l.getD b 0:=this;rw[aD] at this;exact this
theorem ME{l:List Int}(h:0 < l.length):bestOf (λa b=>decide (a < b)) l∈l/\∀k∈l,bestOf (λa b=>decide (a < b)) l<=k:=by
 refine aE (PySem.argBest_lt (λi=>l.getD i 0) (l.length - 1)) λab ae=>?_;unfold bestOf;generalize e:argBest (λi j=>decide (l.getD i 0 < l.getD j 0)) (l.length - 1)=b at ab ae ⊢;induction b using jH;rename_i b
 have ab:b<=l.length - 1:=ab;refine⟨?_,λk ar=>?_⟩
 ·rw[c7,cm (by walk_at"o")];exact getElem_mem _
 ·obtain⟨j,aN⟩:=getElem?_of_mem ar;have:=(kG.mp aN).1;have:=ae j (by walk_at"o");have aD:l.getD j 0=k:=by rw[c7,aN];rfl
  have this:l.getD b 0<=l.getD j 0:=this;rw[aD] at this;exact this
theorem z0{l:List Str}(h:l.length<=4):cL l (some 1) none none=l.drop 1:=by
 rcases l with _ |⟨a,_ |⟨b,_ |⟨c,_ |⟨d,_ |⟨e,r⟩⟩⟩⟩⟩
 iterate 5 kernel_rfl
 simp only[length_cons] at h;walk_at"o"
noncomputable def lF(x:Str):List Str:=dU mR x 5
noncomputable def gw(x:Str):Int:=Txt.count x "."
structure cq (L:List (List Str)):Prop where
 iG:L.length=5
 len0:∀l∈L,0 < l.length
 l1:∀l∈L,l.length<=4
 up:∀l∈L,∀p x r,l=p++x::r->lF x=x::r
 dot:∀l∈L,∀p x y r,l=p++x::y::r->gw x=gw y+1
 Ie:∀l∈L,∀x∈l,0<=gw x/\gw x < 10
 ne:∀l∈L,∀x∈l,x≠""
def eC(L:List (List Str))(x:Str):Prop:=∃l∈L,x∈l
def ib(L:List (List Str))(c x:Str):Prop:=∃l∈L,∃p r,l=p++c::x::r
noncomputable def cV(L:List (List Str))(k:Nat):List Str:=L.getD k []
theorem Dj(dm:List Int):(cellsOf dm).length=5:=by unfold cellsOf;rw[bO,length_range]
theorem OP(dm:List Int):cq ((cellsOf dm).map λc=>k1 (gK c)):=by
 have key:∀l∈(cellsOf dm).map λc=>k1 (gK c),Af l:=λl ao=>by
  refine ah (bA.mp ao) λc _ aU=>?_;subst aU;exact FO (E9 c)
 refine⟨by rw[bO,Dj],λl ao=>(key l ao).len0,λl ao=>(key l ao).l1,λl ao=>(key l ao).up,λl ao=>(key l ao).dot,λl ao x ag=>?_,λl ao x ag=>(ve ((key l ao).nm x ag)).ne⟩;refine ah ((key l ao).nm x ag) λn aA a7=>?_;subst a7;have:=(tm aA).cnt;unfold gw;rw[zX];walk_at"o"
section
variable {L:List (List Str)}
theorem cq.tail{l p r:List Str}{x:Str}(F:cq L)(ao:l∈L)(e:l=p++x::r):∀y∈r,gw y < gw x:=by
 induction r generalizing p x with
 |nil=>exact λy av=>nomatch av
 |cons z r aw=>
  intro y av;have ab:=F.dot l ao p x z r e;rcases bI.mp av with rfl |av
  ·walk_at"o"
  ·have:=aw (p:=p++[x]) (x:=z) (by rw[e,h8];rfl) y av;walk_at"o"
theorem cq.nodup(F:cq L){l:List Str}(ao:l∈L):l.Nodup:=by
 have key:∀(q p:List Str),l=p++q->q.Nodup:=by
  intro q;induction q with
  |nil=>exact λ_ _=>nodup_nil
  |cons x q aw=>
   intro p e;refine List.nodup_cons.mpr ⟨λh=>?_,aw (p++[x]) (by rw[e,h8];rfl)⟩;have:=F.tail ao e x h;walk_at"o"
 exact key l [] rfl
theorem cq.cmp(F:cq L){l:List Str}(ao:l∈L){x y:Str}(ag:x∈l)(av:y∈l):x=y\/(y∈(lF x).drop 1/\gw y < gw x)\/(x∈(lF y).drop 1/\gw x < gw y):=by
 refine cn (i7 ag) λp r e=>?_;have bE:=F.up l ao p x r e;rw[e] at av;replace av:=av;rcases dk.mp av with av |av
 ·refine cn (i7 av) λbX cf aD=>?_;have a8:l=bX++y::(cf++x::r):=by rw[e,aD,h8];rfl
  have Up:=F.up l ao bX y _ a8;rw[Up];have hm:x∈cf++x::r:=b9 _ cM;exact .inr (.inr ⟨hm,F.tail ao a8 x hm⟩)
 ·rcases bI.mp av with rfl |av
  ·exact .inl rfl
  ·rw[bE];exact .inr (.inl ⟨av,F.tail ao e y av⟩)
theorem cq.same(F:cq L){l:List Str}(ao:l∈L){x y:Str}(ag:x∈l)(av:y∈l)(h:gw x=gw y):x=y:=by
 rcases F.cmp ao ag av with q |⟨_,q⟩ |⟨_,q⟩
 ·exact q
 ·walk_at"o"
 ·walk_at"o"
theorem cq.at(F:cq L){k:Nat}(h:k < 5):cV L k∈L:=by
 have:=F.iG;unfold cV;rw[c7,cm (by walk_at"o")];exact getElem_mem _
theorem cq.z1(F:cq L){l:List Str}(ao:l∈L):∃k,k < 5/\cV L k=l:=by
 obtain⟨k,ar⟩:=getElem?_of_mem ao;refine⟨k,by have:=(kG.mp ar).1;have:=F.iG;exact Nat.lt_of_lt_of_eq ‹_› ‹_›,?_⟩;unfold cV;rw[c7,ar];rfl
theorem cq.Ai(F:cq L){l:List Str}(ao:l∈L){x y:Str}(ag:x∈l)(av:y∈lF x):y∈l:=by
 refine cn (i7 ag) λp r e=>?_;rw[F.up l ao p x r e] at av;rw[e];exact b9 _ av
theorem cq.head(F:cq L){l:List Str}(ao:l∈L):lF (l.getD 0 "")=l/\l.getD 0 ""∈l:=by
 have:=F.len0 l ao
 match l,this,ao with
 |a::r,_,ao=>exact⟨F.up _ ao [] a r rfl,cM⟩
structure rt (L:List (List Str)) (k:Nat):Prop where
 lt:k < 5
 fst:∀j,j < k->cV L j≠cV L k
 low:∀l∈L,(cV L k).getD 0 ""∉l.drop 1
theorem DZ(F:cq L)(k:Int):k∈pM L↔∃j:Nat,k=j/\rt L j:=by
 unfold pM pO;rw[ew,ew];have dA:=F.iG;constructor
 ·intro dg;refine aE dg λdr aC=>?_;refine aE dr λab ae=>?_;have ar:0<=k/\k < 5:=by
   have:∀k∈nK,0<=k/\k < 5:=by decide
   exact this k ab
  refine⟨k.toNat,by walk_at"o",⟨by walk_at"o",λj aN e=>?_,λl ao hm=>?_⟩⟩
  ·have aD:(ri L k:Int)=k:=eq_of_beq ae;unfold ri at aD;have lE:j < L.findIdx (· ==L.getD k.toNat []):=by walk_at"o"
   have:=not_of_lt_findIdx lE;refine eF.mp this ?_;unfold cV at e;rw[c7 (l:=L) (i:=j),cm (by walk_at"o")] at e;exact e
  ·unfold sX at aC;have aC:=eq_of_beq aC;have:l∈L.filter λone=>(cL one (some 1) none none).any (· ==(L.getD k.toNat []).getD 0 ""):=by
    refine ew.mpr ⟨ao,?_⟩;rw[z0 (F.l1 l ao)];exact g8.mpr ⟨_,hm,gW _⟩
   rw[aC] at this;exact absurd this b8
 ·intro e8;refine ah e8 λj e6 J=>?_;subst e6;refine⟨⟨?_,?_⟩,?_⟩
  ·have:∀j:Nat,j < 5->(j:Int)∈nK:=by decide
   exact this j J.lt
  ·refine gz.mpr ?_;show((L.findIdx (· ==L.getD j []):Nat):Int)=j;have:L.findIdx (· ==L.getD j [])=j:=by
    refine(findIdx_eq (by have:=J.lt;walk_at"o")).mpr ⟨?_,λi hi=>?_⟩
    ·rw[c7,cm (by have:=J.lt;walk_at"o")];exact gW _
    ·refine eF.mpr λq=>J.fst i hi ?_;unfold cV;rw[<-q,c7,cm (by have:=J.lt;walk_at"o")];rfl
   rw[this]
  ·unfold sX;refine gz.mpr (jC.mpr λl ao h=>?_);rw[z0 (F.l1 l ao)] at h;refine ah (g8.mp h) λx ag e=>?_;rw[eq_of_beq e] at ag;exact J.low l ao ag
theorem cq.leaf(F:cq L):∀(n:Nat) {l:List Str} {x:Str},l∈L->x∈l->4<=l.length+n->∃k,rt L k/\x∈cV L k:=by
 intro n;induction n with
 |zero=>
  intro l x ao ag h;refine go ao ag λl' e7 p e aa=>?_;have:=F.l1 l' e7;rw[e,fB] at this;have:=List.length_pos_iff.mpr aa;walk_at"o"
 |succ n aw=>
  intro l x ao ag h;by_cases q:∃l'∈L,∃p,p≠[]/\l'=p++l
  ·refine ah q λl' e7 bk=>?_;refine ah bk λp aa e=>?_;refine aw e7 (by rw[e];exact b9 _ ag) ?_;rw[e,fB];have:=List.length_pos_iff.mpr aa;walk_at"o"
  ·exact go ao ag λl' e7 p e aa=>q ⟨l',e7,p,aa,e⟩
where
 go {l:List Str} {x:Str} (ao:l∈L) (ag:x∈l) (h:∀l'∈L,∀p,l'=p++l->p≠[]->False):∃k,rt L k/\x∈cV L k:=by
  have dA:=F.iG;have hi:L.findIdx (· ==l) < L.length:=List.findIdx_lt_length.mpr ⟨l,ao,gW _⟩;have e:cV L (L.findIdx (· ==l))=l:=by
   unfold cV;rw[c7,cm hi];exact eq_of_beq (findIdx_getElem (w:=hi) (p:=(· ==l)))
  refine⟨L.findIdx (· ==l),⟨by exact Nat.lt_of_lt_of_eq ‹_› ‹_›,λj aN q=>?_,λl' e7 hm=>?_⟩,by rw[e];exact ag⟩
  ·refine eF.mp (not_of_lt_findIdx aN) ?_;rw[e] at q;replace q:=q;unfold cV at q;rw[c7,cm (by exact Nat.lt_trans ‹_› ‹_›)] at q;exact q
  ·rw[e] at hm;replace hm:=hm
   match l',e7,hm with
   |a::t,e7,hm=>
    refine cn (i7 (show l.getD 0 ""∈t from hm)) λp r aD=>?_;have a8:a::t=(a::p)++l.getD 0 ""::r:=by rw[aD];rfl
    have bW:=F.up _ e7 (a::p) _ r a8;rw[(F.head ao).1] at bW;exact h _ e7 (a::p) (by rw[a8, <-bW]) (by walk_at"o")
theorem cq.gQ(F:cq L){x:Str}(ag:eC L x):∃k:Nat,gQ L x=k/\rt L k/\x∈cV L k/\∀j,rt L j->x∈cV L j->j<=k:=by
 refine ah ag λl ao jk=>?_;refine ah (F.leaf 4 ao jk (by exact gc rfl)) λj J aN=>?_;have iQ:∀k:Int,k∈oi L x↔∃j:Nat,k=j/\rt L j/\x∈cV L j:=λk=>by
  unfold oi;rw[ew,DZ F];constructor
  ·intro gR;refine aE gR λhV h=>?_;refine ah hV λj jm J=>?_;subst jm;refine ah (g8.mp h) λy av e=>?_;rw[eq_of_beq e] at av;exact⟨j,rfl,J,av⟩
  ·intro iE;refine dK iE λj kj J h=>?_;subst kj;exact⟨⟨j,rfl,J⟩,g8.mpr ⟨x,h,gW _⟩⟩
 have h0:0 < (oi L x).length:=List.length_pos_iff.mpr λq=>by
  have:=(iQ j).mpr ⟨j,rfl,J,aN⟩;rw[q] at this;exact absurd this b8
 refine aE (LY h0) λab ae=>?_;refine dK ((iQ _).mp ab) λk e K ar=>?_;refine⟨k,e,K,ar,λi bh hi=>?_⟩;have:=ae i ((iQ i).mpr ⟨i,rfl,bh,hi⟩);rw[e] at this;walk_at"o"
theorem cq.holds(F:cq L){x:Str}(ag:eC L x):0 < (oi L x).length:=by
 refine ah ag λl ao jk=>?_;refine ah (F.leaf 4 ao jk (by exact gc rfl)) λj J aN=>?_;refine List.length_pos_iff.mpr λq=>?_;have:(j:Int)∈oi L x:=ew.mpr ⟨(DZ F j).mpr ⟨j,rfl,J⟩,g8.mpr ⟨x,aN,gW _⟩⟩;rw[q] at this;exact absurd this b8
theorem mj(x:Str):keyOf L x=10*gQ L x - gw x:=by unfold keyOf lY gw;walk_at"o"
theorem cq.dx(F:cq L){x:Str}(ag:eC L x):0<=gw x/\gw x < 10:=by refine ah ag λl ao jk=>?_;exact F.Ie l ao x jk
theorem cq.AJ(F:cq L){x y:Str}(ag:eC L x)(av:eC L y)(h:keyOf L x=keyOf L y):x=y:=by
 rw[mj,mj] at h;have:=F.dx ag;have:=F.dx av;refine iD (F.gQ ag) λk ax K ar _=>?_;refine iD (F.gQ av) λj aD J aN _=>?_;rw[ax,aD] at h;have:k=j:=by walk_at"o"
 subst this;exact F.same (F.at K.lt) ar aN (by walk_at"o")
theorem cq.Q7(F:cq L){y:Str}(av:eC L y)(hz:eC L z):lX (lp.gQ L y) (lY y) (lp.gQ L z) (lY z)=decide (keyOf L y < keyOf L z):=by
 have ab:=F.dx av;have ae:=F.dx hz;have ax:lY y= - gw y:=rfl;have aD:lY z= - gw z:=rfl;unfold lX;rw[mj,mj,ax,aD,Bool.eq_iff_iff,Bool.or_eq_true,i9,d5,d5,gz,d5];walk_at"o"
theorem cq.Ij(F:cq L){y:Str}(av:eC L y)(hz:eC L z)(bY:z≠y)(Bb:keyOf L y<=keyOf L z)(Pc:∀c,ib L c z->keyOf L c < keyOf L y):∃k j:Nat,lp.gQ L y=j/\lp.gQ L z=k/\j < k/\rt L k/\cV L k=lF z/\y∈cV L j:=by
 refine iD (F.gQ hz) λk ax K ar _=>?_;refine iD (F.gQ av) λj aD J aN _=>?_;have ab:=F.dx av;have ae:=F.dx hz;have i5:=F.at K.lt;refine cn (i7 ar) λp r e=>?_;rw[mj,mj,ax,aD] at Bb;have aa:p=[]:=by
  rcases eq_nil_or_concat p with rfl |⟨p',c,rfl⟩
  ·rfl
  ·exfalso;have a8:cV L k=p'++c::z::r:=by rw[e];simp
   have U:c∈cV L k:=by rw[a8];exact b9 _ cM
   have B1:=Pc c ⟨_,i5,p',r,a8⟩;refine iD (F.gQ ⟨_,i5,U⟩) λi bW bh hi AW=>?_;have aC:=F.dx ⟨_,i5,U⟩;have bc:=AW k K U;have dA:=F.dot _ i5 _ _ _ _ a8;rw[mj,mj,bW,aD] at B1;have:j=k:=by walk_at"o"
   subst this;exact bY (F.same i5 ar aN (by walk_at"o"))
 subst aa;have bE:=F.up _ i5 [] z r e;refine⟨k,j,aD,ax,?_,K,by rw[bE,e];rfl,aN⟩;rcases Nat.lt_trichotomy j k with q |q |q
 ·exact q
 ·subst q;exfalso;rcases F.cmp i5 ar aN with q |⟨_,q⟩ |⟨q,_⟩
  ·exact bY q
  ·walk_at"o"
  ·refine cn (i7 aN) λcf fb d7=>?_;rw[F.up _ i5 cf y fb d7] at q;replace q:=q;have bo:=F.nodup i5;have q:z∈fb:=q;rw[show cV L j=z::r from e] at bo;have yA:z::r=cf++y::fb:=by rw[<-d7,e];rfl
   induction cf with
   |nil=>injection yA with r9 _;exact bY r9
   |cons a cf=>
    injection yA with r9 UZ
    refine(List.nodup_cons.mp bo).1 ?_;rw[UZ];exact b9 _ (ey _ q)
 ·exfalso;walk_at"o"
end
noncomputable abbrev ks(kv:List (Str×Int)):List Str:=kv.map (·.1)
structure kX (L:List (List Str)) (kv:List (Str×Int)):Prop where
 nd:(ks kv).Nodup
 mem:∀x∈ks kv,eC L x
 cl:∀x∈ks kv,∀y∈lF x,y∈ks kv
 er:∀l∈L,(ks kv).filter (λx=>decide (x∈l))=(l.filter λx=>decide (x∈ks kv)).reverse
 nn:∀z∈kv,0<=z.2
section
variable {L:List (List Str)}
theorem E2{kv:List (Str×Int)}{x:Str}{i:Int}:ks (jc kv x i)=if x∈ks kv then ks kv else ks kv++[x]:=by
 unfold jc;have e:(kv.any λz=>decide (z.1=x))=decide (x∈ks kv):=by
  rw[Bool.eq_iff_iff,g8,d5,bA];constructor
  ·rintro⟨z,hz,e⟩;exact⟨z,hz,ej e⟩
  ·rintro⟨z,hz,e⟩;exact⟨z,hz,eu e⟩
 rw[e];by_cases h:x∈ks kv
 ·rw[aQ (eu h),aQ h]
 ·rw[aI (by rw[decide_eq_false h];decide),aI h];exact dY
theorem kX.add(F:cq L){kv:List (Str×Int)}(P:kX L kv){x:Str}{i:Int}(ag:eC L x)(bE:∀y∈(lF x).drop 1,y∈ks kv)(hi:0<=i):kX L (jc kv x i):=by
 have ar:=E2 (kv:=kv) (x:=x) (i:=i);have Bf:∀z∈jc kv x i,0<=z.2:=λz hz=>by
  unfold jc at hz;split at hz
  ·exact P.nn z hz
  ·rcases dk.mp hz with hz |hz
   ·exact P.nn z hz
   ·rw[cQ.mp hz];exact hi
 by_cases h:x∈ks kv
 ·rw[aQ h] at ar;replace ar:=ar;exact⟨ar▸P.nd,ar▸P.mem,ar▸P.cl,ar▸P.er,Bf⟩
 ·rw[aI h] at ar;replace ar:=ar;refine ah ag λl0 mT F5=>?_;refine cn (i7 F5) λyF pj dO=>?_;have m2:=F.up l0 mT yF x pj dO;rw[m2] at bE;replace bE:=bE;have bE:∀y∈pj,y∈ks kv:=bE;refine⟨?_,λz hz=>?_,λz hz y av=>?_,λl ao=>?_,Bf⟩
  ·rw[ar];exact gL.mpr ⟨P.nd,by simp,λa af b I e=>h (by rw[<-cQ.mp I, <-e];exact af)⟩
  ·rw[ar] at hz;replace hz:=hz;rcases dk.mp hz with hz |hz
   ·exact P.mem z hz
   ·rw[cQ.mp hz];exact⟨l0,mT,F5⟩
  ·rw[ar] at hz ⊢;replace hz:=hz;rcases dk.mp hz with hz |hz
   ·exact b6 _ (P.cl z hz y av)
   ·rw[cQ.mp hz,m2] at av;replace av:=av;rcases bI.mp av with rfl |av
    ·exact b9 _ (cQ.mpr rfl)
    ·exact b6 _ (bE y av)
  ·rw[ar,j7,P.er l ao];by_cases jk:x∈l
   ·refine cn (i7 jk) λp r e=>?_;have l7:=F.up l ao p x r e;rw[m2] at l7;injection l7 with _ bf
    subst bf;have bo:=F.nodup ao;have aa:∀c∈p,c∉ks kv:=λc U UA=>h (P.cl c UA x (by
     refine cn (i7 U) λbX cf aD=>?_;rw[F.up l ao bX c (cf++x::pj) (by rw[e,aD,h8];rfl)];exact ey _ (b9 _ cM)))
    have Tj:∀c∈p,c≠x:=λc U q=>by
     rw[e] at bo;exact(gL.mp bo).2.2 c U x cM q
    have ax:l.filter (λz=>decide (z∈ks kv))=pj:=by
     rw[e,j7,jC.mpr λc U=>by rw[d5];exact aa c U,fM,aI (by rw[d5];exact h),List.filter_eq_self.mpr λc U=>eu (bE c U)];rfl
    have aD:l.filter (λz=>decide (z∈ks kv++[x]))=x::pj:=by
     rw[e,j7,jC.mpr λc U=>by
      rw[d5,dk,cQ];exact λq=>q.elim (aa c U) (Tj c U),fM,aQ (eu (b9 _ (cQ.mpr rfl))),List.filter_eq_self.mpr λc U=>eu (b6 _ (bE c U))]
     rfl
    rw[ax,aD,fM,aQ (eu jk),filter_nil,reverse_cons]
   ·rw[fM,aI (by rw[d5];exact jk),filter_nil,append_nil];congr 1;refine filter_congr λc U=>?_;have Si:c≠x:=λq=>jk (q▸U);rw[Bool.eq_iff_iff,d5,d5,dk,cQ];exact⟨.inl,λq=>q.resolve_right Si⟩
theorem Mo{kv:List (Str×Int)}{x:Str}{i:Int}:(∀y∈ks kv,y∈ks (jc kv x i))/\x∈ks (jc kv x i):=by
 rw[E2];split
 ·exact⟨λ_ h=>h,by assumption⟩
 ·exact⟨λ_ h=>b6 _ h,b9 _ (cQ.mpr rfl)⟩
theorem kX.row(F:cq L){kv:List (Str×Int)}(P:kX L kv){c:Int}{l:List Str}(ao:l∈L):∀j,j<=l.length->kX L ((range j).foldl (kC c l) kv)/\((range j).foldl (kC c l) kv).length<=kv.length+j/\(∀y∈ks kv,y∈ks ((range j).foldl (kC c l) kv))/\∀y∈l.drop (l.length - j),y∈ks ((range j).foldl (kC c l) kv):=by
 intro ba;induction ba with
 |zero=>
  intro _;exact⟨P,ea _,λ_ h=>h,λy av=>by rw[drop_of_length_le (by walk_at"o")] at av;exact absurd av b8⟩
 |succ j aw=>
  intro h;refine eR (aw (by exact lP ‹_›)) λab ae aC bc=>?_;rw[range_succ,iu,gM,foldl_nil];generalize (range j).foldl (kC c l) kv=rH at*;have cu:l.length - 1 - j < l.length:=by walk_at"o"
  have e:=drop_eq_getElem_cons cu;have aD:l.length - 1 - j+1=l.length - j:=by walk_at"o"
  have a8:l.length - (j+1)=l.length - 1 - j:=by walk_at"o"
  have ex:l.getD (l.length - 1 - j) ""=l[l.length - 1 - j]:=by rw[c7,cm cu];rfl
  rw[aD] at e;replace e:=e;unfold kC;rw[ex,a8,e];have m2:=F.up l ao (l.take (l.length - 1 - j)) l[l.length - 1 - j] (l.drop (l.length - j)) (by rw[<-e,take_append_drop]);have hs:=Mo (kv:=rH) (x:=l[l.length - 1 - j]) (i:=w4 c (l.length - 1 - j));refine⟨ab.add F ⟨l,ao,getElem_mem _⟩ (λy av=>by rw[m2] at av;exact bc y av) (w3 _ (by decide)).1,ei zv (by walk_at"o"),λy av=>hs.1 y (aC y av),λy av=>?_⟩;rcases bI.mp av with rfl |av
  ·exact hs.2
  ·exact hs.1 y (bc y av)
theorem LI(F:cq L):∀(zs:List (Int×List Str)) (kv:List (Str×Int)),(∀z∈zs,z.2∈L)->kX L kv->kX L (zs.foldl k3 kv)/\(zs.foldl k3 kv).length<=kv.length+4*zs.length/\(∀y∈ks kv,y∈ks (zs.foldl k3 kv))/\∀z∈zs,∀y∈z.2,y∈ks (zs.foldl k3 kv):=by
 intro ba;induction ba with
 |nil=>
  intro kv _ P;exact⟨P,ea _,λ_ h=>h,λz hz=>nomatch hz⟩
 |cons z zs aw=>
  intro kv hz P;refine eR (kX.row F P (c:=z.1) (hz z cM) z.2.length (ea _)) λab ae aC bc=>?_;refine eR (aw (k3 kv z) (λy av=>hz y (ey _ av)) ab) λg1 g2 g3 tQ=>?_;have dA:=F.l1 _ (hz z cM);rw[Nat.sub_self,drop_zero] at bc;refine⟨g1,ei g2 ?_,λy av=>g3 y (aC y av),λx ag y av=>?_⟩
  ·have:(k3 kv z).length<=kv.length+z.2.length:=ae;rw[dJ];walk_at"o"
  ·rcases bI.mp ag with rfl |ag
   ·exact g3 y (bc y av)
   ·exact tQ x ag y av
theorem Lg(F:cq L){cells:List Int}(U:cells.length=5):kX L (sG cells L)/\(sG cells L).length<=20/\∀x,x∈ks (sG cells L)↔eC L x:=by
 have hm:∀z∈cells.zip L,z.2∈L:=λz hz=>(of_mem_zip hz).2;have VH:kX L []:=⟨nodup_nil,λ_ h=>absurd h b8,λ_ h=>absurd h b8,λl _=>by
  show []=(l.filter λx=>decide (x∈([]:List Str))).reverse;rw[jC.mpr λx _ q=>absurd (ej q) b8];rfl,λ_ h=>absurd h b8⟩
 refine eR (LI F (cells.zip L) [] hm VH) λab ae _ bc=>?_;refine⟨ab,ei ae ?_,λx=>⟨ab.mem x,λP8=>ah P8 λl ao ag=>?_⟩⟩
 ·rw[length_zip,U,F.iG];decide
 ·obtain⟨i,hi⟩:=getElem?_of_mem ao;have mQ:=(kG.mp hi).1;have Uv:i < cells.length:=by rw[U, <-F.iG];exact mQ
  have:(cells[i],l)∈cells.zip L:=List.mem_iff_getElem?.mpr ⟨i,by rw[getElem?_zip_eq_some];exact⟨cm Uv,hi⟩⟩;exact bc _ this x ag
theorem kX.fit(F:cq L){kv:List (Str×Int)}(P:kX L kv)(nJ:∀x,x∈ks kv↔eC L x){l:List Str}(ao:l∈L):(ks kv).filter (λx=>(l.drop 1).contains x)++(ks kv).filter (λx=>l.getD 0 ""==x)=l.reverse:=by
 have h:=P.er l ao;rw[List.filter_eq_self.mpr λx ag=>eu ((nJ x).mpr ⟨l,ao,ag⟩)] at h;replace h:=h;have bo:=F.nodup ao;have h0:=F.len0 l ao
 match l,h0,h,bo,ao with
 |a::t,_,h,bo,ao=>
  have mX:=(List.nodup_cons.mp bo).1;have ax:(ks kv).filter (λx=>((a::t).drop 1).contains x)=t.reverse:=by
   have:(ks kv).filter (λx=>((a::t).drop 1).contains x)=((ks kv).filter (λx=>decide (x∈a::t))).filter (λx=>t.contains x):=by
    rw[List.filter_filter];refine filter_congr λx _=>?_;show t.contains x=_;induction q:t.contains x with
    |false=>rfl
    |true=>rw[eu (ey _ (List.contains_iff_mem.mp q))];rfl
   rw[this,h,reverse_cons,j7,List.filter_eq_self.mpr λx ag=>List.contains_iff_mem.mpr (List.mem_reverse.mp ag),fM,aI (by rw[contains_iff_mem];exact mX)];exact append_nil _
  have aD:(ks kv).filter (λx=>(a::t).getD 0 ""==x)=[a]:=by
   have:(ks kv).filter (λx=>(a::t).getD 0 ""==x)=((ks kv).filter (λx=>decide (x∈a::t))).filter (λx=>a==x):=by
    rw[List.filter_filter];refine filter_congr λx _=>?_;show(a==x)=_;induction q:a==x with
    |false=>rfl
    |true=>rw[eu (by rw[eq_of_beq q];exact cM)];rfl
   rw[this,h,reverse_cons,j7,jC.mpr λx ag q=>mX (by rw[eq_of_beq q];exact List.mem_reverse.mp ag),fM,aQ (gW _)];rfl
  rw[ax,aD,reverse_cons]
end
theorem KN{α:Type}(l:List α):∀m,(range m).filterMap (l[·]?)=l.take m:=by
 intro ba;induction ba with
 |zero=>
  exact rfl
 |succ m aw=>
  rw[range_succ,filterMap_append,aw,hO];congr 1
theorem NQ{l:List Str}(k:Nat):cL l none (some (k:Nat)) none=l.take k:=by
 unfold cL;have e:sliceBounds none (some ((k:Nat):Int)) none l.length=(((0:Nat):Int),((min k l.length:Nat):Int),1):=by
  have ax:sliceBounds none (some ((k:Nat):Int)) none l.length=(0,max 0 (min (if(k:Int) < 0 then(k:Int)+l.length else k) l.length),1):=rfl;rw[ax,aI (by walk_at"o")];congr 2;walk_at"o"
 rw[e];dsimp only;rw[sliceRange_one,Nat.sub_zero];have aD:(range (min k l.length)).map ((0:Nat)+·)=range (min k l.length):=by
  rw[show((0:Nat)+·)=(λx:Nat=>x) from funext λx=>Nat.zero_add x];exact List.map_id _
 rw[aD,KN];by_cases h:k<=l.length
 ·rw[Nat.min_eq_left h]
 ·rw[kE (by walk_at"o"),kE (by walk_at"o")]
structure i4 (L:List (List Str)) (O:List Str):Prop where
 mem:∀x,x∈O↔eC L x
 nd:O.Nodup
 asc:O.Pairwise λa b=>keyOf L a < keyOf L b
section
variable {L:List (List Str)} {O:List Str}
theorem Pq(F:cq L){N:List Str}(aA:N.Nodup)(hm:∀x,x∈N↔eC L x):∃O,i4 L O/\O.Perm N:=by
 have aa:=mergeSort_perm N (λa b=>decide (keyOf L a<=keyOf L b));have hs:=pairwise_mergeSort (le:=λa b=>decide (keyOf L a<=keyOf L b)) (λa b c ab ae=>by
  have ab:=ej ab;have ae:=ej ae;exact eu (Int.le_trans ab ae)) (λa b=>by
  rw[Bool.or_eq_true,d5,d5];walk_at"o") N
 generalize N.mergeSort (λa b=>decide (keyOf L a<=keyOf L b))=O at aa hs;induction O using jH;rename_i O
 have oS:∀x,x∈O↔eC L x:=λx=>(aa.mem_iff).trans (hm x);have bo:O.Nodup:=aa.nodup_iff.mpr aA;refine⟨O,⟨oS,bo,?_⟩,aa⟩;refine Pairwise.imp_of_mem (λaf I h=>?_) (Pairwise.and hs bo);have ab:=ej h.1;rcases Int.lt_or_eq_of_le ab with q |q
 ·exact q
 ·exact absurd (F.AJ ((oS _).mp af) ((oS _).mp I) q) h.2
theorem i4.before(D:i4 L O){j:Nat}{a b:Str}(hi:O[i]? =some a)(aN:O[j]? =some b)(h:i < j):keyOf L a < keyOf L b:=by
 obtain⟨ab,ax⟩:=kG.mp hi;obtain⟨ae,aD⟩:=kG.mp aN;have:=List.pairwise_iff_getElem.mp D.asc i j ab ae h;rw[ax,aD] at this;exact this
theorem i4.k2(D:i4 L O){j:Nat}{y:Str}(aN:O[j]? =some y)(hz:eC L z):z∈O.take j↔keyOf L z < keyOf L y:=by
 obtain⟨i,hi⟩:=getElem?_of_mem ((D.mem z).mpr hz);constructor
 ·intro h;obtain⟨k,ar⟩:=getElem?_of_mem h;rw[getElem?_take] at ar;replace ar:=ar;split at ar
  ·exact D.before ar aN (by assumption)
  ·injection ar
 ·intro h;have:i < j:=by
   rcases Nat.lt_trichotomy i j with q |q |q
   ·exact q
   ·subst q;rw[hi] at aN;obtain rfl:=bT aN;walk_at"o"
   ·have:=D.before aN hi q;walk_at"o"
  exact eW (by rw[getElem?_take,aQ this];exact hi)
theorem i4.take_succ(D:i4 L O){j:Nat}{y:Str}(aN:O[j]? =some y):z∈O.take (j+1)↔z∈O.take j\/z=y:=by
 rw[hO,aN,dk];show _\/z∈[y]↔_;rw[cQ]
structure PT (L:List (List Str)) (j:Nat) (st:List (List Str)×List Str):Prop where
 len:st.1.length=j
 t6:∀x,x∈st.2↔∃i,i < j/\x∈cV L i
 row:∀i,i < j->∃a b,cV L i=a++b/\st.1[i]? =some (a++b.take 1)/\(∀x∈a,∀dI,dI < i->x∉cV L dI)/\∀x∈b,∃dI,dI < i/\x∈cV L dI
theorem OX(F:cq L):∀j,j<=5->PT L j ((L.take j).foldl lQ ([],[])):=by
 intro ba;induction ba with
 |zero=>
  intro _;exact⟨rfl,λx=>⟨λh=>absurd h b8,λR3=>ah R3 λi h _=>absurd h (k4 _)⟩,λi h=>absurd h (k4 _)⟩
 |succ j aw=>
  intro aN;have C:=aw (by exact lP ‹_›);have lE:j < L.length:=by have:=F.iG;walk_at"o"
  have sm:L.take (j+1)=L.take j++[cV L j]:=by
   rw[hO,cm lE];unfold cV;rw[c7,cm lE];rfl
  rw[sm,iu,gM,foldl_nil];generalize (L.take j).foldl lQ ([],[])=st at C;induction st using jH;rename_i st
  have ao:cV L j∈L:=F.at (by walk_at"o");generalize kx:cV L j=l at ao;induction l using jH;rename_i l
  let p:Str->Bool:=λx=> !st.2.any (· ==x)
  have aa:∀x,p x=true↔x∉st.2:=λx=>by
   show(!st.2.any (· ==x))=true↔_;rw[Bool.not_eq_true'];constructor
   ·intro h ag;have:st.2.any (· ==x)=true:=g8.mpr ⟨x,ag,gW _⟩;rw[this] at h;injection h
   ·intro h;induction q:st.2.any (· ==x) with
    |false=>rfl
    |true=>
     refine ah (g8.mp q) λy av e=>?_;exact absurd (eq_of_beq e▸av) h
  have ax:l=l.takeWhile p++l.dropWhile p:=List.takeWhile_append_dropWhile.symm;have af:∀x∈l.takeWhile p,p x=true:=λx ag=>iP.mp all_takeWhile x ag;have I:∀x∈l.dropWhile p,x∈st.2:=by
   intro x ag;have bY:l.dropWhile p≠[]:=λq=>by rw[q] at ag;exact absurd ag b8
   have h0:=head_dropWhile_not p bY;refine cn (exists_cons_of_ne_nil bY) λy r aD=>?_;have sl:(l.dropWhile p).head bY=y:=by simp[aD]
   rw[sl] at h0;replace h0:=h0;have av:y∈st.2:=Classical.byContradiction λq=>by rw[(aa y).mpr q] at h0;injection h0
   refine ah ((C.t6 y).mp av) λi hi Tz=>?_;have m2:=F.up l ao (l.takeWhile p) y r (by rw[<-aD];exact ax);rw[aD] at ag;exact(C.t6 x).mpr ⟨i,hi,F.Ai (F.at (by walk_at"o")) Tz (by rw[m2];exact ag)⟩
  have qD:l.filter p=l.takeWhile p:=by
   have:(l.takeWhile p++l.dropWhile p).filter p=l.takeWhile p:=by
    rw[j7,List.filter_eq_self.mpr af,jC.mpr λx ag q=>(aa x).mp q (I x ag),append_nil]
   rwa [<-ax] at this
  have es:lQ st l=(st.1++[l.takeWhile p++(l.dropWhile p).take 1],st.2++l.takeWhile p):=by
   show(st.1++[cL l none (some ((l.filter p).length+1)) none],st.2++l.filter p)=_;rw[qD];have:cL l none (some (((l.takeWhile p).length:Int)+1)) none=l.take ((l.takeWhile p).length+1):=NQ ((l.takeWhile p).length+1);rw[this];congr 2;have a8:l.take ((l.takeWhile p).length+1)=(l.takeWhile p++l.dropWhile p).take ((l.takeWhile p).length+1):=by rw[<-ax]
   rw[a8,take_length_add_append]
  rw[es];refine⟨by rw[fB,C.len];rfl,λx=>?_,λi hi=>?_⟩
  ·rw[dk,C.t6];constructor
   ·rintro(⟨i,ab,ae⟩ |h)
    ·exact⟨i,by exact Nat.lt_add_right _ ‹_›,ae⟩
    ·exact⟨j,by exact k6 _,by rw[kx,ax];exact b6 _ h⟩
   ·intro dg;refine ah dg λi ab ae=>?_;by_cases q:i < j
    ·exact .inl ⟨i,q,ae⟩
    ·have:i=j:=by walk_at"o"
     subst this;rw[kx,ax] at ae;replace ae:=ae;rcases dk.mp ae with ae |ae
     ·exact .inr ae
     ·exact .inl ((C.t6 x).mp (I x ae))
  ·by_cases q:i < j
   ·refine iC (C.row i q) λa b ab ae aC bc=>?_;exact⟨a,b,ab,by rw[getElem?_append_left (by rw[C.len];exact q)];exact ae,aC,bc⟩
   ·have:i=j:=by walk_at"o"
    subst this;refine⟨l.takeWhile p,l.dropWhile p,by rw[kx];exact ax,?_,λx ag dI fv hm=>(aa x).mp (af x ag) ((C.t6 x).mpr ⟨dI,fv,hm⟩),λx ag=>(C.t6 x).mp (I x ag)⟩;rw[getElem?_append_right (by rw[C.len];exact ea _),C.len,Nat.sub_self];rfl
noncomputable def mc(L:List (List Str))(i:Nat):List Str:=(jd L).getD i []
theorem uv(F:cq L):jd L=(range 5).map (mc L)/\∀i,i < 5->∃a b,cV L i=a++b/\mc L i=a++b.take 1/\(∀x∈a,∀dI,dI < i->x∉cV L dI)/\∀x∈b,∃dI,dI < i/\x∈cV L dI:=by
 have C:=OX F 5 (ea _);rw[kE (by rw[F.iG];exact ea _)] at C;replace C:=C;have ao:(jd L).length=5:=C.len;refine⟨?_,λi hi=>?_⟩
 ·refine ext_getElem? λi=>?_;rw[eb];by_cases h:i < 5
  ·rw[getElem?_range h];show _=some ((jd L).getD i []);rw[c7,cm (by walk_at"o")];rfl
  ·rw[getElem?_eq_none (by walk_at"o"),getElem?_eq_none (by rw[length_range];walk_at"o")];rfl
 ·refine iC (C.row i hi) λa b ab ae aC bc=>?_;refine⟨a,b,ab,?_,aC,bc⟩;have ae:(jd L)[i]? =some (a++b.take 1):=ae;unfold mc;rw[c7,ae];rfl
end
theorem Kq{q:Nat->Bool}{iK:Nat}:∀{l:List Nat},l.Pairwise (· < ·)->l.find? q=some i->iK∈l->q iK=true->i<=iK:=by
 intro l;induction l with
 |nil=>exact λ_ _ h=>absurd h b8
 |cons a l aw=>
  intro aa hf hm aG;rw[find?_cons] at hf;replace hf:=hf;refine aE (k5.mp aa) λab ae=>?_;induction e:q a with
  |true=>
   rw[e] at hf;obtain rfl:=bT hf;rcases bI.mp hm with rfl |hm
   ·exact ea _
   ·exact Nat.le_of_lt (ab _ hm)
  |false=>
   rw[e] at hf;rcases bI.mp hm with rfl |hm
   ·rw[e] at aG;injection aG
   ·exact aw ae hf hm aG
theorem Je{g:List Str->List Str}(dj:g []=[]):∀R:List (List Str),((R.filter λl=> !l.isEmpty).map g).filter (λl=> !l.isEmpty)=(R.map g).filter λl=> !l.isEmpty:=by
 intro R;induction R with
 |nil=>rfl
 |cons l R aw=>
  rcases l with _ |⟨a,l⟩
  ·rw[fM,aI (by decide),eE,fM,aI (by rw[dj];decide)];exact aw
  ·rw[fM,aQ (show(!(a::l).isEmpty)=true from rfl),eE,eE,fM,fM,aw]
section
variable {L:List (List Str)} {O:List Str}
theorem cq.below(F:cq L){l p r:List Str}{x:Str}(ao:l∈L)(e:l=p++x::r)(hz:z∈r):keyOf L x < keyOf L z:=by
 have ab:=F.tail ao e z hz;have ag:eC L x:=⟨l,ao,by rw[e];exact b9 _ cM⟩
 have gm:eC L z:=⟨l,ao,by rw[e];exact b9 _ (ey _ hz)⟩
 refine iD (F.gQ ag) λk ax K ar _=>?_;refine iD (F.gQ gm) λj aD J _ AW=>?_;have:=AW k K (F.Ai (F.at K.lt) ar (by rw[F.up l ao p x r e];exact ey _ hz));rw[mj,mj,ax,aD];walk_at"o"
noncomputable def TT(L:List (List Str))(O:List Str)(j i:Nat):List Str:=(mc L i).filter λx=>decide (x∉O.take j)
theorem zQ{j:Nat}{x:Str}:x∈TT L O j i↔x∈mc L i/\x∉O.take j:=by
 unfold TT;rw[ew,d5]
theorem uM(F:cq L)(hi:i < 5):∃q,cV L i=mc L i++q:=by
 refine bj ((uv F).2 i hi) λa b ab ae _=>?_;exact⟨b.drop 1,by rw[ab,ae,h8,take_append_drop]⟩
theorem xf(F:cq L)(hi:i < 5){x:Str}(ag:x∈mc L i):x∈cV L i:=by
 refine aP (uM F hi) λq e=>?_;rw[e];exact b6 _ ag
theorem PS(F:cq L)(hi:i < 5):(mc L i).Nodup:=by
 refine aP (uM F hi) λq e=>?_;have:=F.nodup (F.at hi);rw[e] at this;exact(gL.mp this).1
theorem Oj(F:cq L){j:Nat}(hi:i < 5):(TT L O j i).length<=4:=by
 refine aP (uM F hi) λq e=>?_;have h:=F.l1 _ (F.at hi);rw[e,fB] at h;have:=length_filter_le (λx=>decide (x∉O.take j)) (mc L i);unfold TT;walk_at"o"
theorem FR(F:cq L){j:Nat}(hi:i < 5):(TT L O j i).Nodup:=(PS F hi).filter _
theorem zP(F:cq L)(D:i4 L O){j:Nat}{y h:Str}{t:List Str}(hi:i < 5)(aN:O[j]? =some y)(e:TT L O j i=h::t)(av:y∈TT L O j i):h=y:=by
 rw[e] at av;replace av:=av;rcases bI.mp av with q |av
 ·exact q.symm
 ·exfalso;refine iC (List.filter_eq_cons_iff.mp e) λdH dh ax _ aC bc=>?_;refine aP (uM F hi) λq aD=>?_;have Sq:y∈dh:=by rw[<-bc] at av;exact(ew.mp av).1
  have ar:=F.below (F.at hi) (p:=dH) (x:=h) (r:=dh++q) (by rw[aD,ax,h8];rfl) (b6 _ Sq);have dt:eC L h:=⟨_,F.at hi,xf F hi (by rw[ax];exact b9 _ cM)⟩
  exact(ej aC) ((D.k2 aN dt).mpr ar)
theorem Em(F:cq L){y:Str}:∀(i:Nat),i < 5->y∈cV L i->∃iK a b,iK<=i/\cV L iK=a++b/\mc L iK=a++b.take 1/\y∈a:=by
 intro i;induction i using Nat.strongRecOn with
 |_ i aw=>
  intro hi av;refine iC ((uv F).2 i hi) λa b ab ae _ bc=>?_;rw[ab] at av;replace av:=av;rcases dk.mp av with av |av
  ·exact⟨i,a,b,ea _,ab,ae,av⟩
  ·refine ah (bc y av) λdI fv hZ=>?_;refine u6 (aw dI fv (by exact Nat.lt_trans ‹_› ‹_›) hZ) λiK n3 CC g1 g2=>?_;exact⟨iK,n3,CC,by walk_at"o",g2⟩
noncomputable def kW(L:List (List Str))(O:List Str)(j:Nat):List (List Str):=(range 5).map (TT L O j)
theorem Es{rows:List (List Str)}(bc:∀s∈rows,s.length<=4){x:Str}:kI rows x=true↔∀s∈rows,x∉s.drop 1:=by
 unfold kI;rw[iP];refine forall_congr' λs=>forall_congr' λhs=>?_;rw[z0 (bc s hs),Bool.not_eq_true'];constructor
 ·intro h ag;have this:(s.drop 1).any (· ==x)=true:=g8.mpr ⟨x,ag,gW _⟩;rw[this] at h;injection h
 ·intro h;induction q:(s.drop 1).any (· ==x) with
  |false=>rfl
  |true=>
   refine ah (g8.mp q) λz hz e=>?_;exact absurd (eq_of_beq e▸hz) h
theorem ES(F:cq L)(D:i4 L O){j:Nat}{y:Str}(aN:O[j]? =some y):pP ((kW L O j).filter λl=> !l.isEmpty)=some y:=by
 have av:eC L y:=(D.mem y).mp (eW aN);refine iD (F.gQ av) λIi VB J vw _=>?_;have oR:y∉O.take j:=λh=>by have:=(D.k2 aN av).mp h;walk_at"o"
 refine cg (Em F Ii J.lt vw) λiK CM W0 Bc ab ae To=>?_;have Gv:iK < 5:=Nat.lt_of_le_of_lt Bc J.lt;have Bh:y∈TT L O j iK:=zQ.mpr ⟨by rw[ae];exact b6 _ To,oR⟩;have CO:(kW L O j).filter (λl=> !l.isEmpty)=((range 5).filter λi=> !(TT L O j i).isEmpty).map (TT L O j):=by
  unfold kW;rw[List.filter_map];rfl
 have lg:∀s∈(kW L O j).filter (λl=> !l.isEmpty),∃i,i < 5/\s=TT L O j i/\s≠[]:=λs hs=>by
  refine aE (ew.mp hs) λhs bY=>?_;refine ah (bA.mp hs) λi hi aU=>?_;subst aU;exact⟨i,j6.mp hi,rfl,λq=>by rw[q] at bY;injection bY⟩
 have gF:∀i,i < 5->TT L O j i≠[]->TT L O j i∈(kW L O j).filter λl=> !l.isEmpty:=λi hi bY=>by
  refine ew.mpr ⟨fX (j6.mpr hi),?_⟩;induction e:TT L O j i with
  |nil=>exact absurd e bY
  |cons _ _=>rfl
 generalize WS:(kW L O j).filter (λl=> !l.isEmpty)=rows at CO lg gF;have bc:∀s∈rows,s.length<=4:=λs hs=>by refine dK (lg s hs) λi hi a7 _=>?_;subst a7;exact Oj F hi
 have HM:kI rows (f7 (TT L O j iK))=true:=by
  refine cn (exists_cons_of_ne_nil (ne_nil_of_mem Bh)) λh t e=>?_;have:=zP F D Gv aN e Bh;subst this;rw[show f7 (TT L O j iK)=h by rw[e];rfl,Es bc];intro s hs hm;refine dK (lg s hs) λi hi bk bY=>?_;subst bk;refine cn (exists_cons_of_ne_nil bY) λh' e2 aO=>?_;rw[aO] at hm;replace hm:=hm;have:=zP F D hi aN aO (by rw[aO];exact ey _ hm);subst this;have bo:=FR F (O:=O) (j:=j) hi;rw[aO] at bo;exact(List.nodup_cons.mp bo).1 hm
 have uY:iK∈(range 5).filter λi=> !(TT L O j i).isEmpty:=by
  refine ew.mpr ⟨j6.mpr Gv,?_⟩;refine cn (exists_cons_of_ne_nil (ne_nil_of_mem Bh)) λh t e=>?_;rw[e];rfl
 have Ra:((range 5).filter λi=> !(TT L O j i).isEmpty).Pairwise (· < ·):=Pairwise.filter _ pairwise_lt_range;unfold pP;rw[show rows.find? (λs1=>kI rows (f7 s1))=(((range 5).filter λi=> !(TT L O j i).isEmpty).find? λi=>kI rows (f7 (TT L O j i))).map (TT L O j) by
  conv=>lhs;rw[CO]
  rw[find?_map, <-CO];rfl]
 induction qD:((range 5).filter λi=> !(TT L O j i).isEmpty).find? λi=>kI rows (f7 (TT L O j i)) with
 |none=>
  have:=List.find?_eq_none.mp qD iK uY;exact absurd HM this
 |some i=>
  show some (f7 (TT L O j i))=some y;have hle:i<=iK:=Kq (q:=λi=>kI rows (f7 (TT L O j i))) Ra qD uY HM;have H4:kI rows (f7 (TT L O j i))=true:=find?_some (p:=λi=>kI rows (f7 (TT L O j i))) qD;have S6:=mem_of_find?_eq_some qD;refine aE (ew.mp S6) λUR G3=>?_;have qc:=j6.mp UR;have bY:TT L O j i≠[]:=λq=>by rw[q] at G3;injection G3
  refine cn (exists_cons_of_ne_nil bY) λz t e=>?_;have n2:f7 (TT L O j i)=z:=by rw[e];rfl
  rw[n2] at H4 ⊢;refine congrArg some (Classical.byContradiction λoP=>?_);have UW:z∈TT L O j i:=by rw[e];exact cM
  refine aE (zQ.mp UW) λSo x7=>?_;have gm:=xf F qc So;have hz:eC L z:=⟨_,F.at qc,gm⟩
  have Bb:keyOf L y<=keyOf L z:=Int.not_lt.mp λq=>x7 ((D.k2 aN hz).mpr q);have e9:=(Es bc).mp H4;obtain⟨k,h4,ax,aD,cu,K,yq,_⟩:=F.Ij av hz oP Bb λc ar=>by
   refine ah ar λl ao bz=>?_;refine cn bz λp r kx=>?_;have U:eC L c:=⟨l,ao,by rw[kx];exact b9 _ cM⟩
   refine(D.k2 aN U).mp (Classical.byContradiction λUE=>?_);refine ah (F.z1 ao) λdI fv T7=>?_;have eB:c∈cV L dI:=by rw[T7,kx];exact b9 _ cM
   refine cg (Em F dI fv eB) λeD a b mW g1 g2 SR=>?_;have F4:eD < 5:=by walk_at"o"
   refine cn (i7 SR) λp' s fm=>?_;have Tp:=F.up l ao p c (z::r) kx;have l7:=F.up _ (F.at F4) p' c (s++b) (by rw[g1,fm,h8];rfl);rw[Tp] at l7;replace l7:=l7;injection l7 with _ l7
   have hs:∃q',s++b.take 1=z::q':=by
    induction s with
    |nil=>
     have l7:z::r=b:=l7;rw[<-l7];exact⟨[],rfl⟩
    |cons eU s'=>
     injection l7 with q _
     rw[<-q];exact⟨s'++b.take 1,rfl⟩
   refine aP hs λq' hs=>?_;have Vb:mc L eD=p'++c::z::q':=by rw[g2,fm,h8,cons_append,hs]
   have tP:TT L O j eD=p'.filter (λx=>decide (x∉O.take j))++c::z::q'.filter λx=>decide (x∉O.take j):=by
    unfold TT;rw[Vb,j7,fM,aQ (eu UE),fM,aQ (eu x7)]
   have iQ:=gF eD F4 (by rw[tP];simp);refine e9 _ iQ ?_;rw[tP];induction p'.filter (λx=>decide (x∉O.take j)) with
   |nil=>exact cM
   |cons w ws=>exact b9 _ (ey _ cM)
  rw[VB] at ax;have:h4=Ii:=by walk_at"o"
  subst this;have Ti:i < k:=by walk_at"o"
  have Px:z=(cV L i).getD 0 "":=by
   have h0:=F.len0 _ (F.at qc)
   match BO:cV L i,h0 with
   |w::ws,_=>
    rw[BO] at gm;replace gm:=gm;rcases bI.mp gm with q |q
    ·exact q
    ·exfalso;have WH:=(F.head (F.at K.lt)).1;have BW:∃r,lF z=z::r:=by
      refine cn (i7 (show z∈cV L i by rw[BO];exact gm)) λp r ep=>?_;exact⟨r,F.up _ (F.at qc) p z r ep⟩
     refine aP BW λr BW=>?_;have oI:(cV L k).getD 0 ""=z:=by rw[yq,BW];rfl
     refine K.low _ (F.at qc) ?_;rw[oI,BO];exact q
  have:lF z=cV L i:=by rw[Px];exact(F.head (F.at qc)).1
  exact K.fst i Ti (by rw[yq,this])
theorem NL(F:cq L)(D:i4 L O){j:Nat}{y:Str}(aN:O[j]? =some y):(((kW L O j).filter λl=> !l.isEmpty).map (nx y)).filter (λl=> !l.isEmpty)=(kW L O (j+1)).filter λl=> !l.isEmpty:=by
 have av:eC L y:=(D.mem y).mp (eW aN);have FY:y≠"":=by refine ah av λl ao h=>?_;exact F.ne l ao y h
 rw[Je (by show(if("":Str)==y then _ else _)=_;rw[aI (by rw[gz];exact λq=>FY q.symm)])];congr 1;unfold kW;rw[dX];refine g7 λi hi=>?_;have hi:=j6.mp hi;show nx y (TT L O j i)=TT L O (j+1) i;have aD:TT L O (j+1) i=(TT L O j i).filter λx=>decide (x≠y):=by
  unfold TT;rw[List.filter_filter];refine filter_congr λx _=>?_;rw[Bool.eq_iff_iff,i9,d5,d5,d5,D.take_succ aN];exact⟨λh=>⟨λq=>h (.inr q),λq=>h (.inl q)⟩,λh q=>q.elim h.2 h.1⟩
 rw[aD];unfold nx;induction e:TT L O j i with
 |nil=>rw[aI (by rw[gz];exact λq=>FY q.symm)];rfl
 |cons h t=>
  have bo:=FR F (O:=O) (j:=j) hi;rw[e] at bo;by_cases q:h=y
  ·subst q;rw[aQ (by exact gW h),fM,aI (by walk_at"o")];show t=t.filter λx=>decide (x≠h);exact(List.filter_eq_self.mpr λx ag=>eu (p:=x≠h) λq=>(List.nodup_cons.mp bo).1 (q▸ag)).symm
  ·rw[aI (by rw[gz];exact q)];exact(List.filter_eq_self.mpr λx ag=>eu (p:=x≠y) λbN=>q (zP F D hi aN e (by rw[e, <-bN];exact ag))).symm
theorem PO(F:cq L)(D:i4 L O):∃f,lU f (jd L) []=some O:=by
 have key:∀n j rows,j+n=O.length->rows.filter (λl=> !l.isEmpty)=(kW L O j).filter (λl=> !l.isEmpty)->lU (n+1) rows (O.take j)=some O:=by
  intro n;induction n with
  |zero=>
   intro j rows aN bf;unfold lU;dsimp only;rw[bf];have:(kW L O j).filter (λl=> !l.isEmpty)=[]:=by
    refine jC.mpr λs hs h=>?_;refine ah (bA.mp hs) λi hi b7=>?_;subst b7;induction e:TT L O j i with
    |nil=>rw[e] at h;injection h
    |cons a t=>
     refine aE (zQ.mp (show a∈TT L O j i by rw[e];exact cM)) λab ae=>?_;rw[kE (by walk_at"o")] at ae;exact ae ((D.mem a).mpr ⟨_,F.at (j6.mp hi),xf F (j6.mp hi) ab⟩)
   rw[this,kE (by walk_at"o")];rfl
  |succ n aw=>
   intro j rows aN bf;obtain⟨y,av⟩:∃y,O[j]? =some y:=⟨_,cm (by walk_at"o")⟩
   unfold lU;dsimp only;rw[bf,ES F D av];have bY:((kW L O j).filter λl=> !l.isEmpty).isEmpty=false:=by
    induction e:(kW L O j).filter λl=> !l.isEmpty with
    |nil=>
     have:=ES F D av;rw[e] at this;injection this
    |cons _ _=>rfl
   rw[bY];have:=aw (j+1) _ (by walk_at"o") (NL F D av);rw[hO,av] at this;exact this
 refine⟨O.length+1,key O.length 0 (jd L) (by walk_at"o") ?_⟩;congr 1;have:=(uv F).1;rw[this];unfold kW;refine g7 λi hi=>?_;unfold TT;exact(List.filter_eq_self.mpr λx _=>eu (by rw[take_zero];exact b8)).symm
end
noncomputable def eh(K:List Str)(f:Str->Int)(g:Str->List Str):dS:=K.map λx=>(x,f x,g x)
noncomputable def gY(K:List Str)(y:Str):List Str:=if y∈K then K else K++[y]
theorem EE{K:List Str}{f:Str->Int}{g:Str->List Str}:(eh K f g).map (·.1)=K:=by
 unfold eh;rw[dX];exact List.map_id _
theorem EA{K:List Str}{f:Str->Int}{g:Str->List Str}{y:Str}:y∈K->(eh K f g).lookup y=some (f y,g y):=by
 unfold eh;induction K with
 |nil=>exact λh=>absurd h b8
 |cons x K aw=>
  intro h;rw[eE,di];by_cases q:y=x
  ·subst q;rw[gW]
  ·rw[eF.mpr q];exact aw ((bI.mp h).resolve_left q)
theorem Fg{K:List Str}{f:Str->Int}{g:Str->List Str}{y:Str}(h:y∈K):oY (eh K f g) y=f y:=by unfold oY;rw[EA h];rfl
theorem Fn{K:List Str}{f:Str->Int}{g:Str->List Str}{y:Str}(h:y∈K):nM (eh K f g) y=g y:=by unfold nM;rw[EA h];rfl
theorem zB{K:List Str}{f:Str->Int}{g:Str->List Str}{y:Str}(h:y∈K):oy (eh K f g) y=true:=by
 unfold oy eh;exact g8.mpr ⟨_,fX h,gW _⟩
theorem lM{K:List Str}{f f':Str->Int}{g gv:Str->List Str}(h:∀x∈K,f x=f' x/\g x=gv x):eh K f g=eh K f' gv:=by
 unfold eh;exact g7 λx ag=>by rw[(h x ag).1,(h x ag).2]
theorem zJ{K:List Str}{f:Str->Int}{g:Str->List Str}{y:Str}{h:Int×List Str->Int×List Str}:jK (eh K f g) y h=eh K (λx=>if x=y then(h (f x,g x)).1 else f x) (λx=>if x=y then(h (f x,g x)).2 else g x):=by
 unfold jK eh;rw[dX];refine g7 λx _=>?_;show(if x=y then(x,h (f x,g x)) else(x,f x,g x))=(x,(if x=y then(h (f x,g x)).1 else f x),(if x=y then(h (f x,g x)).2 else g x))
 by_cases q:x=y
 ·rw[aQ q,aQ q,aQ q]
 ·rw[aI q,aI q,aI q]
theorem zI{K:List Str}{f:Str->Int}{g:Str->List Str}{y:Str}{k:Int}:jN (eh K f g) y k=eh K (λx=>if x=y then f x+k else f x) g:=by
 unfold jN;rw[zJ];exact lM λx _=>⟨rfl,by show(if x=y then g x else g x)=g x;split<;>rfl⟩
theorem Ef{K:List Str}{f:Str->Int}{g:Str->List Str}{y:Str}{k:Int}:lV (eh K f g) y k=eh K (λx=>if x=y then k else f x) g:=by
 unfold lV;rw[zJ];exact lM λx _=>⟨rfl,by show(if x=y then g x else g x)=g x;split<;>rfl⟩
theorem My{K:List Str}{f:Str->Int}{g:Str->List Str}{p y:Str}:s6 (eh K f g) p y=eh K f (λx=>if x=p then g x++[y] else g x):=by
 unfold s6;rw[zJ];exact lM λx _=>⟨by show(if x=p then f x else f x)=f x;split<;>rfl,rfl⟩
theorem zN{K:List Str}{f:Str->Int}{g:Str->List Str}{y:Str}(h:y∉K->f y=0/\g y=[]):hx (eh K f g) y=eh (gY K y) f g:=by
 unfold hx gY;rw[EE];by_cases q:y∈K
 ·rw[aQ q,aQ q]
 ·rw[aI q,aI q];unfold eh;rw[dY];congr 1;show _=[(y,f y,g y)]
  rw[(h q).1,(h q).2]
theorem pI{K:List Str}{y:Str}:(∀x∈K,x∈gY K y)/\y∈gY K y:=by
 unfold gY;split
 ·exact⟨λ_ h=>h,by assumption⟩
 ·exact⟨λ_ h=>b6 _ h,b9 _ (cQ.mpr rfl)⟩
theorem Nm{K:List Str}{y:Str}(h:y∈K):gY K y=K:=aQ h
theorem Nc{K:List Str}{y:Str}(h:K.Nodup):(gY K y).Nodup:=by
 unfold gY;split
 ·exact h
 ·rename_i q;exact gL.mpr ⟨h,by simp,λa af b I e=>q (by rw[<-cQ.mp I, <-e];exact af)⟩
theorem L6{K:List Str}{x y:Str}:x∈gY K y↔x∈K\/x=y:=by
 unfold gY;split
 ·rename_i q;exact⟨.inl,λh=>h.elim id λe=>e▸q⟩
 ·rw[dk,cQ]
noncomputable abbrev i2:=List (Str×Option Str)
noncomputable def jy(T:i2)(x:Str):Int:=((T.filter λz=>z.1==x&&z.2.isSome).length:Nat)
noncomputable def gb(T:i2)(x:Str):List Str:=(T.filter λz=>z.2==some x).map (·.1)
structure pC (N:dS) (K:List Str) (T:i2):Prop where
 eq:N=eh K (jy T) (gb T)
 nd:K.Nodup
 sub:∀z∈T,z.1∈K/\∀c,z.2=some c->c∈K
theorem N9{T:i2}{x:Str}(h:∀z∈T,z.1≠x):jy T x=0:=by
 unfold jy;rw[jC.mpr λz hz q=>h z hz (eq_of_beq (k7.mp q).1)];rfl
theorem Nl{T:i2}{x:Str}(h:∀z∈T,z.2≠some x):gb T x=[]:=by
 unfold gb;rw[jC.mpr λz hz q=>h z hz (eq_of_beq q)];rfl
theorem pC.one{K:List Str}{T:i2}(bh:pC N K T)(y:Str)(o:Option Str)(aj:∀c,o=some c->c∈K):pC (nL N y o.toList) (gY K y) (T++[(y,o)]):=by
 have av:y∉K->jy T y=0/\gb T y=[]:=λh=>⟨N9 λz hz q=>h (q▸(bh.sub z hz).1),Nl λz hz q=>h ((bh.sub z hz).2 y q)⟩
 have hf:∀x,jy (T++[(y,o)]) x=if x=y/\o.isSome=true then jy T x+1 else jy T x:=λx=>by
  unfold jy;rw[j7,fB,fM];by_cases q:x=y/\o.isSome=true
  ·rw[aQ (by refine aE q λdz bN=>?_;subst dz;walk_at"o"),aQ q,filter_nil];rfl
  ·rw[aI (by intro bN;rw[i9,gz] at bN;exact q ⟨bN.1.symm,bN.2⟩),aI q,filter_nil];rfl
 have dj:∀x,gb (T++[(y,o)]) x=if o=some x then gb T x++[y] else gb T x:=λx=>by
  unfold gb;rw[j7,dY,fM];by_cases q:o=some x
  ·rw[aQ (by rw[q];exact gW _),aQ q,filter_nil];rfl
  ·rw[aI (by rw[gz];exact q),aI q,filter_nil];exact append_nil _
 refine⟨?_,Nc bh.nd,λz hz=>?_⟩
 ·rw[bh.eq];induction o with
  |none=>
   show jN (hx _ y) y ((0:Nat):Int)=_;rw[zN av,zI];refine lM λx _=>⟨?_,?_⟩
   ·show(if x=y then jy T x+0 else jy T x)=_;rw[hf,aI (c:=x=y/\(none:Option Str).isSome=true) (λq=>nomatch q.2)];split<;>walk_at"o"
   ·rw[dj,aI (c:=(none:Option Str)=some x) (λq=>nomatch q)]
  |some c=>
   have U:=aj c rfl;show s6 (hx (jN (hx _ y) y ((1:Nat):Int)) c) c y=_;rw[zN av,zI,zN (λq=>absurd (pI.1 c U) q),Nm (pI.1 c U),My];refine lM λx _=>⟨?_,?_⟩
   ·rw[hf];show(if x=y then jy T x+1 else jy T x)=_;by_cases q:x=y
    ·rw[aQ q,aQ ⟨q,rfl⟩]
    ·rw[aI q,aI λbN=>q bN.1]
   ·rw[dj];by_cases q:x=c
    ·subst q;rw[aQ rfl,aQ rfl]
    ·rw[aI q,aI λbN=>q (bT bN).symm]
 ·rcases dk.mp hz with hz |hz
  ·exact⟨pI.1 _ (bh.sub z hz).1,λc U=>pI.1 c ((bh.sub z hz).2 c U)⟩
  ·rw[cQ.mp hz];exact⟨pI.2,λc U=>pI.1 c (aj c U)⟩
noncomputable def pR(row:List Str)(k:Nat):Str×Option Str:=(row.getD k "",if k=0 then none else some (row.getD (k - 1) ""))
theorem pC.row{K:List Str}{T:i2}(bh:pC N K T){row:List Str}(bc:row.length<=4):∀j,j<=row.length->pC ((range j).foldl (λN k=>nL N (row.getD k "") (pN row k)) N) ((row.take j).foldl gY K) (T++(range j).map (pR row))/\∀x∈row.take j,x∈(row.take j).foldl gY K:=by
 intro ba;induction ba with
 |zero=>
  intro _;exact⟨by rw[range_zero,map_nil,append_nil];exact bh,λx ag=>absurd ag b8⟩
 |succ j aw=>
  intro h;refine aE (aw (by exact lP ‹_›)) λab ae=>?_;have ex:row[j]? =some (row.getD j ""):=by rw[c7,cm (by walk_at"o")];rfl
  have tY:row.take (j+1)=row.take j++[row.getD j ""]:=by rw[hO,ex];rfl
  rw[range_succ,iu,gM,foldl_nil,dY,eE,map_nil, <-h8,tY,iu,gM,foldl_nil,Dz (by exact bH ‹_› rfl) (by walk_at"o")];have:=ab.one (row.getD j "") (pR row j).2 (λc U=>by
   unfold pR at U;dsimp only at U;split at U
   ·injection U
   ·obtain rfl:=bT U;refine ae _ (eW (i:=j - 1) ?_);rw[getElem?_take,aQ (by walk_at"o"),c7,cm (by walk_at"o")];rfl)
  have e:(pR row j).2.toList=if j=0 then [] else [row.getD (j - 1) ""]:=by
   unfold pR;dsimp only;by_cases q:j=0
   ·rw[aQ q,aQ q];rfl
   ·rw[aI q,aI q];rfl
  rw[e] at this;refine⟨this,λx ag=>?_⟩;rcases dk.mp ag with ag |ag
  ·exact pI.1 x (ae x ag)
  ·rw[cQ.mp ag];exact pI.2
noncomputable def el(L:List (List Str)):i2:=L.flatMap λrow=>(range row.length).map (pR row)
noncomputable def mM(L:List (List Str)):List Str:=L.foldl (λK row=>row.foldl gY K) []
theorem D1:∀{L:List (List Str)},(∀l∈L,l.length<=4)->pC (ja L) (mM L) (el L):=by
 have key:∀(L:List (List Str)) (N:dS) (K:List Str) (T:i2),(∀l∈L,l.length<=4)->pC N K T->pC (L.foldl xc N) (L.foldl (λK row=>row.foldl gY K) K) (T++el L):=by
  intro L;induction L with
  |nil=>intro N K T _ bh;unfold el;rw[flatMap_nil,append_nil];exact bh
  |cons row L aw=>
   intro N K T bc bh;have:=(bh.row (bc row cM) row.length (ea _)).1;rw[take_length] at this;replace this:=this;have:=aw _ _ _ (λl ao=>bc l (ey _ ao)) this;unfold el at this ⊢;rw[flatMap_cons, <-h8];exact this
 intro L h;exact key L [] [] [] h ⟨rfl,nodup_nil,λz hz=>absurd hz b8⟩
theorem D0{r:Str->Int}:∀{dH dh:List Str},dH.Pairwise (λa b=>r a < r b)->dh.Pairwise (λa b=>r a < r b)->(∀x,x∈dH↔x∈dh)->dH=dh:=by
 intro dH;induction dH with
 |nil=>
  intro dh _ _ h;rcases dh with _ |⟨b,dh⟩
  ·rfl
  ·exact absurd ((h b).mpr cM) b8
 |cons a dH aw=>
  intro dh bX cf h;rcases dh with _ |⟨b,dh⟩
  ·exact absurd ((h a).mp cM) b8
  refine aE (k5.mp bX) λa1 a2=>?_;refine aE (k5.mp cf) λgU jq=>?_;have e:a=b:=by
   rcases bI.mp ((h a).mp cM) with q |q
   ·exact q
   ·rcases bI.mp ((h b).mpr cM) with bN |bN
    ·exact bN.symm
    ·have:=gU a q;have:=a1 b bN;walk_at"o"
  subst e;refine congrArg _ (aw a2 jq λx=>⟨λag=>?_,λag=>?_⟩)
  ·rcases bI.mp ((h x).mp (ey _ ag)) with q |q
   ·subst q;have:=a1 x ag;walk_at"o"
   ·exact q
  ·rcases bI.mp ((h x).mpr (ey _ ag)) with q |q
   ·subst q;have:=gU x ag;walk_at"o"
   ·exact q
section
variable {L:List (List Str)} {O:List Str}
theorem nt{c y:Str}:(y,some c)∈el L↔ib L c y:=by
 unfold el ib;rw[mem_flatMap];constructor
 ·intro dg;refine ah dg λrow bf h=>?_;refine ah (bA.mp h) λk ar e=>?_;have ar:=j6.mp ar;unfold pR at e;injection e with ax aD
  by_cases q:k=0
  ·rw[aQ q] at aD;injection aD
  ·rw[aI q] at aD;replace aD:=aD;injection aD with aD
   refine⟨row,bf,row.take (k - 1),row.drop (k+1),?_⟩;have ab:k - 1 < row.length:=by walk_at"o"
   have d1:=drop_eq_getElem_cons ab;have d2:=drop_eq_getElem_cons ar;have g1:row[k - 1]=c:=by rw[<-aD,c7,cm ab];rfl
   have g2:row[k]=y:=by rw[<-ax,c7,cm ar];rfl
   rw[g1,show k - 1+1=k by walk_at"o",d2,g2] at d1;rw[<-d1,take_append_drop]
 ·intro e8;refine ah e8 λrow bf dr=>?_;refine cn dr λp r e=>?_;refine⟨row,bf,bA.mpr ⟨p.length+1,j6.mpr (by rw[e];simp),?_⟩⟩;unfold pR;rw[aI (by walk_at"o"),Nat.add_sub_cancel];have g1:row[p.length]? =some c:=by rw[e,getElem?_append_right (ea _),Nat.sub_self];rfl
  have g2:row[p.length+1]? =some y:=by rw[e,getElem?_append_right (by exact Nat.le_add_right _ _),show p.length+1 - p.length=1 by walk_at"o"];rfl
  rw[c7,c7,g1,g2];rfl
theorem Le{x:Str}:∀{row K:List Str},x∈row.foldl gY K↔x∈K\/x∈row:=by
 intro ba;induction ba with
 |nil=>
  intro K;exact⟨.inl,λh=>h.resolve_right b8⟩
 |cons y row aw=>
  intro K;rw[gM,aw,L6,bI];constructor
  ·rintro((h |h) |h)
   ·exact .inl h
   ·exact .inr (.inl h)
   ·exact .inr (.inr h)
  ·rintro(h |h |h)
   ·exact .inl (.inl h)
   ·exact .inl (.inr h)
   ·exact .inr h
theorem Dy{x:Str}:∀{L:List (List Str)} {K:List Str},x∈L.foldl (λK row=>row.foldl gY K) K↔x∈K\/eC L x:=by
 intro ba;induction ba with
 |nil=>
  intro K;exact⟨.inl,λh=>h.resolve_right λQT=>ah QT λl ao _=>absurd ao b8⟩
 |cons row L aw=>
  intro K;rw[gM,aw,Le];constructor
  ·rintro((h |h) |⟨l,ao,h⟩)
   ·exact .inl h
   ·exact .inr ⟨row,cM,h⟩
   ·exact .inr ⟨l,ey _ ao,h⟩
  ·rintro(h |⟨l,ao,h⟩)
   ·exact .inl (.inl h)
   ·rcases bI.mp ao with rfl |ao
    ·exact .inl (.inr h)
    ·exact .inr ⟨l,ao,h⟩
theorem q5{x:Str}:x∈mM L↔eC L x:=Dy.trans ⟨λh=>h.resolve_left b8,.inr⟩
def xH(L:List (List Str))(x:Str):Prop:=∀c,¬ib L c x
theorem zq(F:cq L){l:List Str}{x:Str}(ao:l∈L)(ag:x∈l)(hf:xH L x):x=l.getD 0 "":=by
 refine cn (i7 ag) λp r e=>?_;rcases eq_nil_or_concat p with rfl |⟨p',c,rfl⟩
 ·rw[e];rfl
 ·exact absurd ⟨l,ao,p',r,by rw[e];simp⟩ (hf c)
theorem L8(F:cq L){j:Nat}{x:Str}(aN:j < 5)(ag:x∈cV L j)(hf:xH L x)(kL:∀i,i < j->x∉cV L i):gQ L x=j:=by
 refine iD (F.gQ ⟨_,F.at aN,ag⟩) λk e K ar _=>?_;have ab:=zq F (F.at aN) ag hf;have ae:=zq F (F.at K.lt) ar hf;have:cV L k=cV L j:=by rw[<-(F.head (F.at aN)).1, <-(F.head (F.at K.lt)).1, <-ab, <-ae]
 rw[e];rcases Nat.lt_trichotomy k j with q |q |q
 ·exact absurd ar (kL k q)
 ·rw[q]
 ·exact absurd this.symm (K.fst j q)
theorem Ju{p:Str->Bool}:∀{row K:List Str},(∀x∈row,p x=false)->(row.foldl gY K).filter p=K.filter p:=by
 intro ba;induction ba with
 |nil=>
  intro _ _;exact rfl
 |cons y row aw=>
  intro K h;rw[gM,aw λx ag=>h x (ey _ ag)];unfold gY;split
  ·rfl
  ·rw[j7,fM,aI (by rw[h y cM];decide)];exact append_nil _
theorem Lh(F:cq L){p:Str->Bool}(aa:∀x,p x=true↔xH L x):((mM L).filter p).Pairwise λa b=>keyOf L a < keyOf L b:=by
 have key:∀j,j<=5->(((L.take j).foldl (λK row=>row.foldl gY K) []).filter p).Pairwise (λa b=>keyOf L a < keyOf L b)/\∀x∈((L.take j).foldl (λK row=>row.foldl gY K) []).filter p,keyOf L x < 10*(j:Int) - 9:=by
  intro j;induction j with
  |zero=>exact λ_=>⟨Pairwise.nil,λx ag=>absurd ag b8⟩
  |succ j aw=>
   intro aN;refine aE (aw (by exact lP ‹_›)) λab ae=>?_;have lE:j < L.length:=by have:=F.iG;walk_at"o"
   have sm:L.take (j+1)=L.take j++[cV L j]:=by
    rw[hO,cm lE];unfold cV;rw[c7,cm lE];rfl
   have bx:∀x,x∈(L.take j).foldl (λK row=>row.foldl gY K) []↔eC (L.take j) x:=λx=>Dy.trans ⟨λh=>h.resolve_left b8,.inr⟩;rw[sm,iu,gM,foldl_nil];generalize (L.take j).foldl (λK row=>row.foldl gY K) []=K at ab ae bx;have ao:=F.at (L:=L) (k:=j) (by walk_at"o");have h0:=F.len0 _ ao
   match e:cV L j,h0 with
   |h::t,_=>
    have bo:=F.nodup ao;rw[e] at bo ao;replace ao:=ao;have aM:∀x∈t,p x=false:=λx ag=>by
     induction q:p x with
     |false=>rfl
     |true=>
      have:=zq F ao (ey _ ag) ((aa x).mp q);have this:x=h:=this;exact absurd (this▸ag) (List.nodup_cons.mp bo).1
    rw[gM,Ju aM];unfold gY;split
    ·exact⟨ab,λx ag=>by have:=ae x ag;walk_at"o"⟩
    ·rename_i kL;rw[j7,fM,filter_nil];split
     ·rename_i q;have ar:lp.gQ L h=j:=L8 F (j:=j) (by walk_at"o") (by rw[e];exact cM) ((aa h).mp q) λi hi hm=>kL ((bx h).mpr ⟨cV L i,by
       refine eW (i:=i) ?_;rw[getElem?_take,aQ hi];unfold cV;rw[c7,cm (by exact Nat.lt_trans ‹_› ‹_›)];rfl,hm⟩)
      have hd:=F.dx ⟨_,ao,cM⟩;have rB:keyOf L h=10*(j:Int) - gw h:=by rw[mj,ar]
      refine⟨List.pairwise_append.mpr ⟨ab,pairwise_singleton ..,λa af b I=>?_⟩,λx ag=>?_⟩
      ·rw[cQ.mp I];have:=ae a af;walk_at"o"
      ·rcases dk.mp ag with ag |ag
       ·have:=ae x ag;walk_at"o"
       ·rw[cQ.mp ag];walk_at"o"
     ·rw[append_nil];exact⟨ab,λx ag=>by have:=ae x ag;walk_at"o"⟩
 have:=(key 5 (ea _)).1;rw[kE (by rw[F.iG];exact ea _)] at this;exact this
noncomputable def ko(L:List (List Str))(E:List Str)(z:Str):Bool:=@decide (z∉E/\∀c,ib L c z->c∈E) (Classical.propDecidable _)
theorem q3{E:List Str} :ko L E z=true↔z∉E/\∀c,ib L c z->c∈E:=by unfold ko;exact@d5 _ (Classical.propDecidable _)
noncomputable def jv(T:i2)(E:List Str)(x:Str):Int:=((T.filter λz=>z.1==x&&(z.2.isSome&&decide (z.2.getD ""∉E))).length:Nat)
noncomputable def pD(T:i2)(y x:Str):Int:=((T.filter λz=>z.1==x&&z.2==some y).length:Nat)
theorem Fd{T:i2}{x:Str}:jv T [] x=jy T x:=by
 unfold jv jy;congr 2;refine filter_congr λz _=>?_;rw[eu (b8),Bool.and_true]
theorem E1{E c6:List Str}{x y:Str}(j2:∀z,z∈c6↔z∈E\/z=y)(av:y∉E):∀T:i2,jv T E x=jv T c6 x+pD T y x:=by
 intro ba;induction ba with
 |nil=>
  exact rfl
 |cons h3 T aw=>
  obtain⟨a,o⟩:=h3;have aw:=aw;unfold jv pD at aw ⊢;rw[fM,fM,fM];dsimp only;by_cases ab:a=x
  ·rw[gz.mpr ab];induction o with
   |none=>
    exact aw
   |some c=>
    by_cases ae:c=y
    ·subst ae;rw[aQ (by rw[Bool.true_and,i9,d5];exact⟨rfl,av⟩),aI (by rw[Bool.true_and,i9,d5];exact λq=>q.2 ((j2 c).mpr (.inr rfl))),aQ (by rw[Bool.true_and];exact gW _),dJ,dJ];walk_at"o"
    ·by_cases aC:c∈E
     ·rw[aI (by rw[Bool.true_and,i9,d5];exact λq=>q.2 aC),aI (by rw[Bool.true_and,i9,d5];exact λq=>q.2 ((j2 c).mpr (.inl aC))),aI (by rw[Bool.true_and,gz];exact λq=>ae (bT q))];exact aw
     ·rw[aQ (by rw[Bool.true_and,i9,d5];exact⟨rfl,aC⟩),aQ (by rw[Bool.true_and,i9,d5];exact⟨rfl,λq=>((j2 c).mp q).elim aC ae⟩),aI (by rw[Bool.true_and,gz];exact λq=>ae (bT q)),dJ,dJ];walk_at"o"
  ·rw[eF.mpr ab];exact aw
theorem zH{T:i2}{E:List Str}{x:Str}:jv T E x=0↔∀c,(x,some c)∈T->c∈E:=by
 unfold jv;constructor
 ·intro h c U;have h:(T.filter λz=>z.1==x&&(z.2.isSome&&decide (z.2.getD ""∉E))).length=0:=by walk_at"o"
  have:=jC.mp (List.length_eq_zero_iff.mp h) _ U;refine Classical.byContradiction λq=>this ?_;show(x==x&&(true&&decide (c∉E)))=true;rw[gW,eu q];rfl
 ·intro h;rw[jC.mpr]
  ·rfl
  ·intro gR hz q;obtain⟨a,o⟩:=gR;rw[i9,i9,d5] at q;refine cB q λdz bN hI=>?_;induction o with
   |none=>injection bN
   |some c=>
    have dz:a=x:=eq_of_beq dz;subst dz;exact hI (h c hz)
theorem Ld{T:i2}{E:List Str}{x:Str}:0<=jv T E x:=by unfold jv;exact nq _
end
theorem Ke{K:List Str}{g:Str->List Str}:∀(cW:List Str) (f:Str->Int),k9 (eh K f g) cW=eh K (λx=>if x∈cW then -1 else f x) g:=by
 intro ba;induction ba with
 |nil=>
  intro f;show eh K f g=_;exact lM λx _=>⟨by show _=if x∈([]:List Str) then -1 else f x;rw[aI b8],rfl⟩
 |cons z cW aw=>
  intro f;show k9 (lV (eh K f g) z (-1)) cW=_;rw[Ef,aw];refine lM λx _=>⟨?_,rfl⟩
  show(if x∈cW then(-1:Int) else if x=z then -1 else f x)=if x∈z::cW then -1 else f x
  by_cases ab:x∈cW
  ·rw[aQ ab,aQ (ey _ ab)]
  ·rw[aI ab];by_cases ae:x=z
   ·rw[aQ ae,aQ (ae▸cM)]
   ·rw[aI ae,aI λq=>(bI.mp q).elim ae ab]
theorem KS{K:List Str}{g:Str->List Str}{p:Str}(aa:p∈K):∀(m:Nat) (f:Str->Int) (l:List Str),0<=f p - m->(replicate m p).foldl fQ (eh K f g,l)=(eh K (λx=>if x=p then f x - m else f x) g,if 0 < m/\f p - m=0 then l++[p] else l):=by
 intro ba;induction ba with
 |zero=>
  intro f l _;show(eh K f g,l)=_;rw[aI (λq=>absurd q.1 (Nat.lt_irrefl 0))];congr 1;refine lM λx _=>⟨?_,rfl⟩
  show f x=if x=p then f x - ((0:Nat):Int) else f x
  split<;>walk_at"o"
 |succ m aw=>
  intro f l h;rw[replicate_succ,gM];have e:fQ (eh K f g,l) p=(eh K (λx=>if x=p then f x+ -1 else f x) g,if f p+ -1=0 then l++[p] else l):=by
   unfold fQ;dsimp only;rw[zI,Fg aa,aQ rfl]
  rw[e,aw _ _ (by rw[aQ rfl];walk_at"o")];have ax:(eh K (λx=>if x=p then(if x=p then f x+ -1 else f x) - (m:Int) else if x=p then f x+ -1 else f x) g)=eh K (λx=>if x=p then f x - ((m+1:Nat):Int) else f x) g:=by
   refine lM λx _=>⟨?_,rfl⟩
   split<;>walk_at"o"
  rw[ax];congr 1;rw[aQ rfl];by_cases q:m=0
  ·subst q;rw[aI (λq=>absurd q.1 (Nat.lt_irrefl 0))];by_cases bN:f p+ -1=0
   ·rw[aQ bN,aQ ⟨by exact k6 _,by walk_at"o"⟩]
   ·rw[aI bN,aI (λq=>bN (by have:=q.2;walk_at"o"))]
  ·rw[aI (c:=f p+ -1=0) (by walk_at"o")];by_cases bN:f p+ -1 - (m:Int)=0
   ·rw[aQ ⟨by walk_at"o",bN⟩,aQ ⟨by exact Nat.zero_lt_succ _,by walk_at"o"⟩]
   ·rw[aI (λq=>bN q.2),aI (λq=>bN (by have:=q.2;walk_at"o"))]
section
variable {L:List (List Str)} {O:List Str}
theorem xa(F:cq L){c x y:Str}(ab:ib L c x)(ae:ib L c y):x=y:=by
 refine ah ab λl ao aU=>?_;refine cn aU λp r e=>?_;refine ah ae λl' e7 a7=>?_;refine cn a7 λp' r' aO=>?_;have:=(F.up l ao p c _ e).symm.trans (F.up l' e7 p' c _ aO);injection this with _ this
 injection this
theorem oj(F:cq L){c x:Str}(h:ib L c x):keyOf L c < keyOf L x/\eC L c/\eC L x:=by
 refine ah h λl ao bk=>?_;refine cn bk λp r e=>?_;exact⟨F.below ao e cM,⟨l,ao,by rw[e];exact b9 _ (.head _)⟩,⟨l,ao,by rw[e];simp⟩⟩
theorem OH(F:cq L):(el L).length<=20:=by
 have key:∀L:List (List Str),(∀l∈L,l.length<=4)->(el L).length<=4*L.length:=by
  intro L;induction L with
  |nil=>exact λ_=>ea _
  |cons l L aw=>
   intro h;have:=aw λl ao=>h l (ey _ ao);have bc:=h l cM;unfold el at this ⊢;rw[flatMap_cons,fB,bO,length_range,dJ];walk_at"o"
 have:=key L F.l1;rw[F.iG] at this;exact this
theorem sR{T:i2}{y:Str}:z∈gb T y↔(z,some y)∈T:=by
 unfold gb;rw[bA];constructor
 ·intro dg;refine ah dg λdr h e6=>?_;obtain⟨a,o⟩:=dr;subst e6;refine aE (ew.mp h) λab ae=>?_;have ae:o=some y:=eq_of_beq ae;subst ae;exact ab
 ·intro h;exact⟨_,ew.mpr ⟨h,gW _⟩,rfl⟩
theorem OA{T:i2}{y p:Str}(h:∀z∈gb T y,z=p):pD T y p=(gb T y).length:=by
 unfold pD gb;rw[bO];congr 2;refine filter_congr λz hz=>?_;induction q:z.2==some y with
 |false=>rw[Bool.and_false]
 |true=>
  have:z.1=p:=h z.1 (fX (ew.mpr ⟨hz,q⟩));rw[gz.mpr this];rfl
theorem ER{T:i2}{y x:Str}(h:(x,some y)∉T):pD T y x=0:=by
 unfold pD;rw[jC.mpr]
 ·rfl
 ·intro e8 hz q;obtain⟨a,o⟩:=e8;refine aE (k7.mp q) λdz bN=>?_;have dz:a=x:=eq_of_beq dz;have bN:o=some y:=eq_of_beq bN;subst dz bN;exact h hz
noncomputable def ij(L:List (List Str))(E q:List Str):dS:=eh (mM L) (λx=>if x∈E then -2 else if x∈q then -1 else jv (el L) E x) (gb (el L))
theorem Mi(F:cq L)(D:i4 L O){j:Nat}{y:Str}(aN:O[j]? =some y){cW q S:List Str}(j1:cW++q=y::S)(r3:y::S=O.filter (ko L (O.take j))):
  k9 (ij L (O.take j) q) cW=ij L (O.take j) (y::S)/\∃nN,kc (ij L (O.take j) (y::S)) [] y=(ij L (O.take (j+1)) S,nN)/\nN++S=O.filter (ko L (O.take (j+1))):=by
 have av:eC L y:=(D.mem y).mp (eW aN);have vz:y∈mM L:=q5.mpr av;have j2:∀z,z∈O.take (j+1)↔z∈O.take j\/z=y:=λz=>D.take_succ aN;have oR:y∉O.take j:=λh=>by have:=(D.k2 aN av).mp h;walk_at"o"
 have Fw:(y::S).Pairwise λa b=>keyOf L a < keyOf L b:=by rw[r3];exact D.asc.filter _
 have iQ:∀z,z∈y::S↔eC L z/\z∉O.take j/\∀c,ib L c z->c∈O.take j:=λz=>by
  rw[r3,ew,D.mem,q3]
 have UQ:y∉S:=λh=>by have:=(k5.mp Fw).1 y h;walk_at"o"
 refine⟨?_,?_⟩
 ·unfold ij;rw[Ke];refine lM λx _=>⟨?_,rfl⟩
  by_cases ab:x∈cW
  ·have ae:x∈y::S:=j1▸b6 _ ab;rw[aQ ab,aI ((iQ x).mp ae).2.1,aQ ae]
  ·rw[aI ab];by_cases h0:x∈O.take j
   ·rw[aQ h0,aQ h0]
   ·rw[aI h0,aI h0];by_cases ae:x∈q
    ·rw[aQ ae,aQ (j1▸b9 _ ae)]
    ·rw[aI ae,aI (c:=x∈y::S) (λh=>(dk.mp (j1▸h:x∈cW++q)).elim ab ae)]
 ·
  have dO:kc (ij L (O.take j) (y::S)) [] y=(gb (el L) y).foldl fQ (eh (mM L) (λx=>if x=y then -2 else if x∈O.take j then -2 else if x∈y::S then -1 else jv (el L) (O.take j) x) (gb (el L)),[]):=by
   unfold kc ij;rw[Fn vz,Ef]
  have so:∀f:Str->Int,(∀x∈mM L,f x=(if x=y then -2 else if x∈O.take j then -2 else if x∈y::S then -1 else jv (el L) (O.take j) x - pD (el L) y x))->eh (mM L) f (gb (el L))=ij L (O.take (j+1)) S:=λf hf=>by
   unfold ij;refine lM λx ag=>⟨?_,rfl⟩
   rw[hf x ag];by_cases ab:x=y
   ·rw[aQ ab,aQ ((j2 x).mpr (.inr ab))]
   ·rw[aI ab];by_cases ae:x∈O.take j
    ·rw[aQ ae,aQ ((j2 x).mpr (.inl ae))]
    ·rw[aI ae,aI (c:=x∈O.take (j+1)) (λq=>((j2 x).mp q).elim ae ab)];by_cases aC:x∈S
     ·rw[aQ (ey _ aC),aQ aC]
     ·rw[aI (λq=>(bI.mp q).elim ab aC),aI aC,E1 j2 oR];walk_at"o"
  have qj:S.Pairwise λa b=>keyOf L a < keyOf L b:=(k5.mp Fw).2;have Hg:∀z,z∈S↔eC L z/\z≠y/\z∉O.take j/\∀c,ib L c z->c∈O.take j:=λz=>by
   constructor
   ·intro h;refine cB ((iQ z).mp (ey _ h)) λab ae aC=>?_;exact⟨ab,λq=>UQ (q▸h),ae,aC⟩
   ·intro gR;refine eR gR λab ae aC bc=>?_;exact(bI.mp ((iQ z).mpr ⟨ab,aC,bc⟩)).resolve_left ae
  have xr:∀nN,(nN=[]/\(∀p,ib L y p->¬∀c,ib L c p->c∈O.take (j+1))\/∃p,nN=[p]/\ib L y p/\∀c,ib L c p->c∈O.take (j+1))->nN++S=O.filter (ko L (O.take (j+1))):=by
   intro nN h;have hm:∀z,z∈nN++S↔z∈O.filter (ko L (O.take (j+1))):=λz=>by
    rw[ew,D.mem,q3,dk,Hg];constructor
    ·rintro(hz |⟨ab,ae,aC,bc⟩)
     ·rcases h with⟨rfl,_⟩ |⟨p,rfl,aa,nJ⟩
      ·exact absurd hz b8
      ·rw[cQ.mp hz];have ar:=oj F aa;refine⟨ar.2.2,λq=>?_,nJ⟩;rcases(j2 p).mp q with q |q
       ·have:=(D.k2 aN ar.2.2).mp q;have:=ar.1;walk_at"o"
       ·have:=ar.1;rw[q] at this;walk_at"o"
     ·exact⟨ab,λq=>((j2 z).mp q).elim aC ae,λc U=>(j2 c).mpr (.inl (bc c U))⟩
    ·intro iE;refine cB iE λab ae aC=>?_;have x7:z∉O.take j:=λq=>ae ((j2 z).mpr (.inl q));have oP:z≠y:=λq=>ae ((j2 z).mpr (.inr q));by_cases ar:ib L y z
     ·rcases h with⟨_,ic⟩ |⟨p,rfl,aa,_⟩
      ·exact absurd aC (ic z ar)
      ·exact .inl (cQ.mpr (xa F ar aa))
     ·exact .inr ⟨ab,oP,x7,λc U=>((j2 c).mp (aC c U)).resolve_right λq=>ar (q▸U)⟩
   refine D0 (r:=keyOf L) ?_ (D.asc.filter _) hm;rcases h with⟨rfl,_⟩ |⟨p,rfl,aa,nJ⟩
   ·exact qj
   ·refine k5.mpr ⟨λb I=>?_,qj⟩;refine cB (oj F aa) λar _ tq=>?_;refine eR ((Hg b).mp I) λHJ Sl UH Ux=>?_;have GR:p∉O.take (j+1):=(q3.mp (ew.mp ((hm p).mp (b6 _ (cQ.mpr rfl)))).2).1;have SU:b≠p:=λq=>oR (Ux y (q▸aa));have RO:b∉O.take (j+1):=λq=>((j2 b).mp q).elim UH Sl;have RT:j+1 < O.length:=by
     refine Nat.lt_of_not_le λq=>GR ?_;rw[kE q];exact(D.mem p).mpr tq
    have vn:O[j+1]? =some O[j+1]:=cm RT;generalize O[j+1]=yt at vn;have tp:eC L yt:=(D.mem yt).mp (eW vn);have ep:p=yt:=Classical.byContradiction λbY=>by
     refine GO (F.Ij tp tq bY (Int.not_lt.mp λq=>GR ((D.k2 vn tq).mpr q)) λc U=>(D.k2 vn (oj F U).2.1).mp (nJ c U)) λk _ _ _ _ K yq _=>?_;refine ah aa λl ao bz=>?_;refine cn bz λu r e=>?_;have m2:=F.up l ao (u++[y]) p r (by rw[e,h8];rfl);refine K.low l ao ?_;rw[yq,m2,e];show p∈(u++y::p::r).drop 1;induction u with
     |nil=>exact cM
     |cons w u=>exact b9 _ (ey _ cM)
    have hle:¬keyOf L b < keyOf L yt:=λq=>RO ((D.k2 vn HJ).mpr q);rw[ep];rcases Int.lt_or_eq_of_le (Int.not_lt.mp hle) with q |q
    ·exact q
    ·exact absurd (F.AJ tp HJ q).symm (ep▸SU)
  induction wj:gb (el L) y with
  |nil=>
   refine⟨[],?_,xr [] (.inl ⟨rfl,λp aa=>?_⟩)⟩
   ·rw[dO,wj];show(eh _ _ _,_)=_;congr 1;refine so _ λx _=>?_;have:pD (el L) y x=0:=ER λh=>by
     have:=sR.mpr h;rw[wj] at this;exact absurd this b8
    rw[this,Int.sub_zero]
   ·have:=sR.mpr (nt.mpr aa);rw[wj] at this;exact absurd this b8
  |cons p t=>
   have aa:ib L y p:=nt.mp (sR.mp (by rw[wj];exact cM));have nJ:∀z∈gb (el L) y,z=p:=λz hz=>xa F (nt.mp (sR.mp hz)) aa;have GJ:gb (el L) y=replicate (gb (el L) y).length p:=List.eq_replicate_iff.mpr ⟨rfl,nJ⟩;have hm:=OA nJ;have Hb:0 < (gb (el L) y).length:=by rw[wj,dJ];exact Nat.zero_lt_succ _
   generalize (gb (el L) y).length=m at GJ hm Hb;refine cB (oj F aa) λar _ tq=>?_;have BX:p≠y:=λq=>by rw[q] at ar;walk_at"o"
   have Bt:p∉O.take j:=λq=>by have:=(D.k2 aN tq).mp q;walk_at"o"
   have Bk:p∉y::S:=λq=>oR (((iQ p).mp q).2.2 y aa);have pT:=E1 (x:=p) j2 oR (el L);have Bf:=Ld (T:=el L) (E:=O.take (j+1)) (x:=p);have hf:(if p=y then(-2:Int) else if p∈O.take j then -2 else if p∈y::S then -1 else jv (el L) (O.take j) p)=jv (el L) (O.take j) p:=by
    rw[aI BX,aI Bt,aI Bk]
   have jl:=KS (g:=gb (el L)) (q5.mpr tq) m (λx=>if x=y then(-2:Int) else if x∈O.take j then -2 else if x∈y::S then -1 else jv (el L) (O.take j) x) [] (by rw[hf];walk_at"o");rw[hf] at jl;refine⟨if 0 < m/\jv (el L) (O.take j) p - m=0 then [p] else [],?_,xr _ ?_⟩
   ·rw[dO,GJ,jl];congr 1;refine so _ λx _=>?_;by_cases q:x=p
    ·subst q;rw[aQ rfl,aI BX,aI Bt,aI Bk,aI BX,aI Bt,aI Bk,hm]
    ·have:pD (el L) y x=0:=ER λh=>q (xa F (nt.mp h) aa);rw[aI q,this,Int.sub_zero]
   ·by_cases q:jv (el L) (O.take j) p - m=0
    ·rw[aQ ⟨Hb,q⟩];refine .inr ⟨p,rfl,aa,λc U=>?_⟩;exact zH.mp (by walk_at"o") c (nt.mpr U)
    ·rw[aI λh=>q h.2];refine .inl ⟨rfl,λp' f6 h=>q ?_⟩;rw[xa F f6 aa] at h;have:=zH.mpr λc U=>h c (nt.mp U);walk_at"o"
theorem Ob(F:cq L)(D:i4 L O)(dE:O.length<=20):∃fuel,runN fuel (ja L) (((ja L).filter λz=>z.2.1==0).map (·.1)) [] 0 0 []=some O:=by
 have key:∀n j cW q po da,j+n=O.length->cW++q=O.filter (ko L (O.take j))->po - da=((q.length:Nat):Int)->runN (n+1) (ij L (O.take j) q) cW q po da (O.take j)=some O:=by
  intro n;induction n with
  |zero=>
   intro j cW q po da aN j1 mO;have:O.filter (ko L (O.take j))=[]:=jC.mpr λz hz h=>(q3.mp h).1 (by rw[kE (by walk_at"o")];exact hz);rw[this] at j1;refine aE (List.append_eq_nil_iff.mp j1) λb7 cC=>?_;subst b7;subst cC;unfold runN;rw[decide_eq_false (by have:po - da=0:=mO;walk_at"o"),kE (by walk_at"o")];rfl
  |succ n aw=>
   intro j cW q po da aN j1 mO;obtain⟨y,av⟩:∃y,O[j]? =some y:=⟨_,cm (by walk_at"o")⟩
   have H5:=(D.mem y).mp (eW av);have oR:y∉O.take j:=λh=>by have:=(D.k2 av H5).mp h;walk_at"o"
   obtain⟨cu,sl⟩:=kG.mp av;have r3:O.filter (ko L (O.take j))=y::(O.drop (j+1)).filter (ko L (O.take j)):=by
    have e:O=O.take j++y::O.drop (j+1):=by rw[<-sl, <-drop_eq_getElem_cons cu,take_append_drop]
    have ab:(O.take j++y::O.drop (j+1)).filter (ko L (O.take j))=y::(O.drop (j+1)).filter (ko L (O.take j)):=by
     rw[j7,jC.mpr λz hz h=>(q3.mp h).1 hz,fM,aQ (q3.mpr ⟨oR,λc U=>(D.k2 av (oj F U).2.1).mpr (oj F U).1⟩)];rfl
    rwa [<-e] at ab
   generalize (O.drop (j+1)).filter (ko L (O.take j))=S at r3;induction S using jH;rename_i S
   have A8:=j1.trans r3;obtain⟨x2,nN,lA,qj⟩:=Mi F D av A8 r3.symm;have hlen:cW.length+q.length=S.length+1:=by have:=congrArg List.length A8;rw[fB,dJ] at this;exact this
   have Wa:S.length < O.length:=by
    have:=length_filter_le (ko L (O.take j)) O;rw[r3,dJ] at this;walk_at"o"
   have Pf:(decide (da < po)|| !cW.isEmpty)=true:=by
    induction cW with
    |nil=>
     rw[length_nil] at hlen;rw[eu (by walk_at"o")];rfl
    |cons a t=>rw[Bool.or_comm];rfl
   have vz:y∈mM L:=q5.mpr H5;have e9:okN (ij L (O.take j) q) cW q (O.take j) y=true:=by
    unfold okN;rw[x2];have a1:oY (ij L (O.take j) (y::S)) y= -1:=by
     unfold ij;rw[Fg vz,aI oR,aQ cM]
    have a2:oy (ij L (O.take j) (y::S)) y=true:=zB vz;have dG:cW.all (oy (ij L (O.take j) q))=true:=iP.mpr λx ag=>zB (q5.mpr ((D.mem x).mp (ew.mp (j1▸b6 q ag)).1));have fo:nM (ij L (O.take j) (y::S)) y=gb (el L) y:=by unfold ij;rw[Fn vz]
    have lI:(gb (el L) y).all (oy (ij L (O.take j) (y::S)))=true:=iP.mpr λx ag=>zB (q5.mpr (oj F (nt.mp (sR.mp ag))).2.2);have qH:(gb (el L) y).length<=20:=by
     unfold gb;rw[bO];exact ei (length_filter_le _ _) (OH F)
    rw[a1,a2,dG,fo,lI,eu ⟨by exact bH ‹_› rfl,by rw[fB];walk_at"o",by rw[length_take];walk_at"o"⟩];rfl
   unfold runN;rw[Pf,aQ rfl,A8];dsimp only;rw[e9,aQ rfl,x2,lA];have:=aw (j+1) nN S (po+cW.length) (da+1) (by walk_at"o") qj (by walk_at"o");have tY:O.take j++[y]=O.take (j+1):=by rw[hO,av];rfl
   rw[tY];exact this
 have bh:=D1 (L:=L) F.l1;have dO:ij L (O.take 0) []=ja L:=by
  rw[bh.eq];unfold ij;refine lM λx _=>⟨?_,rfl⟩
  rw[take_zero,aI b8,aI b8,Fd]
 have ax:((ja L).filter λz=>z.2.1==0).map (·.1)=(mM L).filter λx=>jy (el L) x==0:=by
  rw[bh.eq];unfold eh;rw[List.filter_map,dX];exact List.map_id _
 have aa:∀x,(jy (el L) x==0)=true↔xH L x:=λx=>by
  rw[gz, <-Fd,zH];exact⟨λh c U=>absurd (h c (nt.mpr U)) b8,λh c U=>absurd (nt.mp U) (h c)⟩
 have aD:(mM L).filter (λx=>jy (el L) x==0)=O.filter (ko L (O.take 0)):=by
  refine D0 (r:=keyOf L) (Lh F aa) (D.asc.filter _) λx=>?_;rw[ew,ew,q5,D.mem,aa,q3,take_zero];exact⟨λQh=>aE Qh λab ae=>⟨ab,b8,λc U=>absurd U (ae c)⟩,λQv=>cB Qv λab _ aC=>⟨ab,λc U=>absurd (aC c U) b8⟩⟩
 refine⟨O.length+1,?_⟩;have:=key O.length 0 _ [] 0 0 (by walk_at"o") ((append_nil _).trans (ax.trans aD)) rfl;rw[dO] at this;exact this
theorem N8(F:cq L):∃rk:Str->Nat,∀z∈ja L,∀x∈z.2.2,x∈(ja L).map (·.1)/\rk x < rk z.1:=by
 have bh:=D1 (L:=L) F.l1;refine⟨λx=>(gw x).toNat,λz hz x ag=>?_⟩;rw[bh.eq] at hz ⊢;rw[EE];refine ah (bA.mp hz) λy av c1=>?_;subst c1;have ar:ib L y x:=nt.mp (sR.mp ag);refine⟨q5.mpr (oj F ar).2.2,?_⟩;refine ah ar λl ao c2=>?_;refine cn c2 λp r e=>?_;have:=F.dot l ao p y x r e;have:=F.Ie l ao x (by rw[e];simp);show(gw x).toNat < (gw y).toNat;walk_at"o"
end
noncomputable def pr(x:Str):Str:=(lF x).getD 1 ""
theorem MA{α:Type}{K:List Str}{v:Str->α}{y:Str}:y∈K->(K.map λx=>(x,v x)).lookup y=some (v y):=by
 induction K with
 |nil=>exact λh=>absurd h b8
 |cons x K aw=>
  intro h;rw[eE,di];by_cases q:y=x
  ·subst q;rw[gW]
  ·rw[eF.mpr q];exact aw ((bI.mp h).resolve_left q)
section
variable {L:List (List Str)} {O:List Str}
theorem rn(F:cq L){l p r:List Str}{x:Str}(ao:l∈L)(e:l=p++x::r):pr x=r.getD 0 "":=by
 unfold pr;rw[F.up l ao p x r e];rfl
theorem xe(F:cq L){c x:Str}(U:eC L c)(ag:x≠""):pr c=x↔ib L c x:=by
 constructor
 ·intro h;refine ah U λl ao eB=>?_;refine cn (i7 eB) λp r e=>?_;rw[rn F ao e] at h;replace h:=h;induction r with
  |nil=>exact absurd h.symm ag
  |cons y r=>
   have h:y=x:=h;exact⟨l,ao,p,r,by rw[e,h]⟩
 ·intro dg;refine ah dg λl ao dr=>?_;refine cn dr λp r e=>?_;rw[rn F ao e];rfl
theorem zz(F:cq L){x:Str}(ag:eC L x):(j8 L).lookup x=some (pr x):=by
 have step:∀l∈L,∀j,j<=l.length->∀kv:List (Str×Str),(∀x v,kv.lookup x=some v->v=pr x)->(∀x v,((range j).foldl (kZ l) kv).lookup x=some v->v=pr x)/\(∀x,(kv.lookup x).isSome=true->(((range j).foldl (kZ l) kv).lookup x).isSome=true)/\∀x∈l.take j,(((range j).foldl (kZ l) kv).lookup x).isSome=true:=by
  intro l ao j;induction j with
  |zero=>exact λ_ kv h=>⟨h,λ_ h=>h,λx ag=>absurd ag b8⟩
  |succ j aw=>
   intro aN kv h;refine cB (aw (by exact lP ‹_›) kv h) λab ae aC=>?_;rw[range_succ,iu,gM,foldl_nil];generalize (range j).foldl (kZ l) kv=rH at ab ae aC;have cu:j < l.length:=aN;have ex:l.getD j ""=l[j]:=by rw[c7,cm cu];rfl
   have e:l=l.take j++l[j]::l.drop (j+1):=by rw[<-drop_eq_getElem_cons cu,take_append_drop]
   have ep:(l++[("":Str)]).getD (j+1) ""=pr l[j]:=by
    rw[rn F ao e,c7,c7,getElem?_drop];by_cases q:j+1 < l.length
    ·rw[getElem?_append_left q]
    ·rw[getElem?_append_right (by walk_at"o"),getElem?_eq_none (l:=l) (by walk_at"o"),show j+1 - l.length=0 by walk_at"o"];rfl
   unfold kZ;rw[ex,ep];refine⟨λx v aq=>?_,λx ag=>?_,λx ag=>?_⟩
   ·rw[j3] at aq;replace aq:=aq;split at aq
    ·rename_i q;obtain rfl:=bT aq;rw[q]
    ·exact ab x v aq
   ·rw[j3];split
    ·rfl
    ·exact ae x ag
   ·rw[j3];split
    ·rfl
    ·rename_i q;rw[hO,cm cu,dk] at ag;exact aC x (ag.resolve_right λh=>q (cQ.mp h))
 have rows:∀(ls:List (List Str)),(∀l∈ls,l∈L)->∀kv:List (Str×Str),(∀x v,kv.lookup x=some v->v=pr x)->(∀x v,(ls.foldl ni kv).lookup x=some v->v=pr x)/\(∀x,(kv.lookup x).isSome=true->((ls.foldl ni kv).lookup x).isSome=true)/\∀l∈ls,∀x∈l,((ls.foldl ni kv).lookup x).isSome=true:=by
  intro ls;induction ls with
  |nil=>exact λ_ kv h=>⟨h,λ_ h=>h,λl ao=>absurd ao b8⟩
  |cons l ls aw=>
   intro G5 kv h;refine cB (step l (G5 l cM) l.length (ea _) kv h) λab ae aC=>?_;rw[take_length] at aC;refine cB (aw (λl ao=>G5 l (ey _ ao)) _ ab) λg1 g2 g3=>?_;refine⟨g1,λx ag=>g2 x (ae x ag),λl' e7 x ag=>?_⟩;rcases bI.mp e7 with rfl |e7
   ·exact g2 x (aC x ag)
   ·exact g3 l' e7 x ag
 refine ah ag λl ao jk=>?_;refine cB (rows L (λ_ h=>h) [] (λ_ _ h=>nomatch h)) λab _ aC=>?_;refine aP (nk.mp (aC l ao x jk)) λv aq=>?_;have jW:(j8 L).lookup x=some v:=aq;rw[jW,ab x v aq]
theorem Ei(F:cq L)(D:i4 L O)(j:Nat)(name:Str)(h:(O++[("":Str)])[j]? =some name)(one:Str)(ab:one∈O)(ae:pr one=name):one∈(O++[("":Str)]).take j:=by
 by_cases aN:j < O.length
 ·rw[getElem?_append_left aN] at h;replace h:=h;have aA:=(D.mem name).mp (eW h);have aj:=(D.mem one).mp ab;have bY:name≠"":=by refine ah aA λl ao ag=>?_;exact F.ne l ao _ ag
  rw[take_append_of_le_length (Nat.le_of_lt aN)];exact(D.k2 h aj).mpr (oj F ((xe F aj bY).mp ae)).1
 ·rw[take_append,kE (by walk_at"o")];exact b6 _ ab
theorem Ks{y:Str}:∀(ns:List Str) (t:List (Str×Int)),y∉ns->(ns.foldl (g6 O cK above heads) t).lookup y=t.lookup y:=by
 intro ba;induction ba with
 |nil=>
  intro _ _;exact rfl
 |cons n ns aw=>
  intro t h;rw[gM,aw _ λq=>h (ey _ q)];have aA:y≠n:=λq=>h (q▸cM);unfold g6;split
  ·rw[j3,aI aA,j3,aI aA]
  ·rw[j3,aI aA]
noncomputable def iH(O:List Str)(cK:List (Str×Int))(L:List (List Str))(x:Str):Int:=(((O++[("":Str)]).foldl (g6 O cK (j8 L) (L.map λl=>l.getD 0 "")) []).lookup x).getD 0
noncomputable def Pv(cK:List (Str×Int))(x:Str):Int:=(cK.lookup x).getD 0
noncomputable def sB(O:List Str)(f:Str->Int)(x:Str):Int:=((O.filter λone=>decide (pr one=x)).map f).sum
theorem FT(F:cq L)(D:i4 L O)(cK:List (Str×Int)){j:Nat}{x:Str}(h:(O++[("":Str)])[j]? =some x):
  iH O cK L x=if(L.map λl=>l.getD 0 "").any (· ==x)||(x != ""&&decide (Pv cK x < sB O (iH O cK L) x)) then Pv cK x else sB O (iH O cK L) x:=by
 have ic:("":Str)∉O:=λq=>by refine ah ((D.mem _).mp q) λl ao ag=>?_;exact F.ne l ao _ ag rfl
 have bo:(O++[("":Str)]).Nodup:=gL.mpr ⟨D.nd,by decide,λa af b I e=>ic (by rw[<-cQ.mp I, <-e];exact af)⟩;obtain⟨cu,ex⟩:=kG.mp h;generalize t8:O++[("":Str)]=W at*;have e:W=W.take j++x::W.drop (j+1):=by rw[<-ex, <-drop_eq_getElem_cons cu,take_append_drop]
 have ag:x∉W.drop (j+1):=λq=>by
  have aA:=bo;rw[e] at aA;exact(List.nodup_cons.mp (gL.mp aA).2.1).1 q
 have m7:∀y,y∉W.drop (j+1)->(iH O cK L y)=((g6 O cK (j8 L) (L.map λl=>l.getD 0 "") ((W.take j).foldl (g6 O cK (j8 L) (L.map λl=>l.getD 0 "")) []) x).lookup y).getD 0:=λy av=>by
  unfold iH;rw[t8]
  conv=>lhs;rw[e]
  rw[iu,gM,Ks _ _ av]
 generalize (W.take j).foldl (g6 O cK (j8 L) (L.map λl=>l.getD 0 "")) []=t at m7;have j1:oe O (j8 L) t x=sB O (iH O cK L) x:=by
  unfold oe sB;have ax:(O.filter λone=>((j8 L).lookup one).getD ""==x)=O.filter λone=>decide (pr one=x):=filter_congr λone aj=>by
   rw[zz F ((D.mem one).mp aj),Bool.eq_iff_iff,gz,d5];rfl
  rw[ax];congr 1;refine g7 λone aj=>?_;refine aE (ew.mp aj) λqw BE=>?_;have I:=Ei F D j x (by rw[t8];exact h) one qw (ej BE);rw[t8] at I;replace I:=I;have qe:one≠x:=λq=>by
   have aA:=bo;rw[e] at aA;exact(gL.mp aA).2.2 one I x cM q
  have xG:one∉W.drop (j+1):=λq=>by
   have aA:=bo;rw[e] at aA;exact(gL.mp aA).2.2 one I one (ey _ q) rfl
  rw[m7 one xG];unfold g6;split
  ·rw[j3,aI qe,j3,aI qe]
  ·rw[j3,aI qe]
 rw[m7 x ag];unfold g6;rw[j1];show((if(L.map λl=>l.getD 0 "").any (· ==x)||(x != ""&&decide (Pv cK x < sB O (iH O cK L) x)) then _ else _:List (Str×Int)).lookup x).getD 0=_;split
 ·rw[j3,aQ rfl];rfl
 ·rw[j3,aQ rfl];rfl
theorem Oy{f g:Str->Int}:∀{B:List Str},(∀x∈B,f x<=g x)->(B.map f).sum<=(B.map g).sum:=by
 intro ba;induction ba with
 |nil=>
  intro _;exact Int.le_refl _
 |cons b B aw=>
  intro h;have ab:=aw λx ag=>h x (ey _ ag);have ae:=h b cM;rw[eE,eE,sum_cons,sum_cons];walk_at"o"
theorem Od{c:Int}{q:Str->Bool}{f:Str->Int}:∀{B:List Str},(B.map λx=>f x+if q x=true then c else 0).sum=(B.map f).sum+c*(B.filter q).length:=by
 intro ba;induction ba with
 |nil=>
  simp
 |cons b B aw=>
  have aw:=aw;rw[eE,eE,sum_cons,sum_cons,aw,fM];split
  ·rw[dJ,Int.natCast_add,Int.mul_add];walk_at"o"
  ·walk_at"o"
theorem KX(F:cq L)(D:i4 L O){l:List Str}{x:Str}(ao:l∈L)(ag:x≠l.getD 0 ""):(((O.filter λone=>decide (pr one=x)).filter λone=>decide (one∈l)).length:Int)=if decide (x∈l++[("":Str)])=true then 1 else 0:=by
 have bo:((O.filter λone=>decide (pr one=x)).filter λone=>decide (one∈l)).Nodup:=(D.nd.filter _).filter _;have hm:∀z,z∈(O.filter λone=>decide (pr one=x)).filter (λone=>decide (one∈l))↔z∈l/\pr z=x:=λz=>by
  rw[ew,ew,d5,d5,D.mem];exact⟨λRq=>aE Rq λQc aC=>aE Qc λ_ ae=>⟨aC,ae⟩,λR7=>aE R7 λab ae=>⟨⟨⟨l,ao,ab⟩,ae⟩,ab⟩⟩
 generalize (O.filter λone=>decide (pr one=x)).filter (λone=>decide (one∈l))=B at bo hm;induction B using jH;rename_i B
 have one:∀c,(∀z,z∈B↔z=c)->B.length=1:=λc h=>by
  match B,bo,h with
  |[],_,h=>exact absurd ((h c).mpr rfl) b8
  |[_],_,_=>rfl
  |a::b::r,bo,h=>
   have ab:=(h a).mp cM;have ae:=(h b).mp (ey _ cM);exact absurd (by rw[ab,ae];exact cM) (List.nodup_cons.mp bo).1
 by_cases ab:x∈l
 ·rw[aQ (eu (b6 _ ab))];refine cn (i7 ab) λp r e=>?_;rcases eq_nil_or_concat p with rfl |⟨p',c,rfl⟩
  ·exact absurd (by rw[e];rfl) ag
  ·have aD:l=p'++c::x::r:=by rw[e];simp
   have eB:c∈l:=by rw[aD];exact b9 _ (.head _)
   rw[one c λz=>?_]
   ·rfl
   ·rw[hm];constructor
    ·intro e8;refine aE e8 λhz aa=>?_;refine ah ((xe F ⟨l,ao,hz⟩ (F.ne l ao x ab)).mp aa) λl' e7 aU=>?_;refine cn aU λcf fb a8=>?_;have d1:=F.dot l ao _ _ _ _ aD;have d2:=F.dot l' e7 _ _ _ _ a8;exact F.same ao hz eB (by walk_at"o")
    ·rintro rfl;exact⟨eB,by rw[rn F ao aD];rfl⟩
 ·by_cases ae:x=""
  ·subst ae;rw[aQ (eu (b9 _ (cQ.mpr rfl)))];have bY:l≠[]:=List.length_pos_iff.mp (F.len0 l ao);rw[one (l.getLast bY) λz=>?_]
   ·rfl
   ·rw[hm];have e:=(dropLast_concat_getLast bY).symm;constructor
    ·intro gR;refine aE gR λhz aa=>?_;refine cn (i7 hz) λp r aD=>?_;rw[rn F ao aD] at aa;induction r with
     |nil=>simp[aD]
     |cons y r=>exact absurd aa (F.ne l ao y (by rw[aD];simp))
    ·rintro rfl;exact⟨getLast_mem bY,by rw[rn F ao e];rfl⟩
  ·rw[aI (by rw[d5,dk,cQ];exact λq=>q.elim ab ae)];have:B=[]:=List.eq_nil_iff_forall_not_mem.mpr λz hz=>by
    refine aE ((hm z).mp hz) λhz aa=>?_;refine ah ((xe F ⟨l,ao,hz⟩ ae).mp aa) λl' e7 a7=>?_;refine cn a7 λcf fb a8=>?_;exact ab (F.Ai ao hz (by rw[F.up l' e7 _ _ _ a8];exact .tail _ (.head _)))
   rw[this];rfl
end
section
variable {L:List (List Str)} {O:List Str}
noncomputable def pe(fits:List (List Str))(kv:List (Str×Int))(j:Nat)(x:Str):Int:=((layAt fits kv j).2.lookup x).getD 0
noncomputable def pn(fits:List (List Str))(kv:List (Str×Int))(j:Nat):Int:=rb (layAt fits kv j).2 (fits.getD j [])
noncomputable def hH(fits:List (List Str))(kv:List (Str×Int)):Nat->Str->Int
 |0,_=>0
 |j+1,x=>hH fits kv j x+if decide (x∈fits.getD j [])=true then pn fits kv j else 0
theorem zO{fits:List (List Str)}{kv:List (Str×Int)}{j:Nat}{x:Str}(ag:x∈ks kv):pe fits kv (j+1) x=pe fits kv j x - if decide (x∈fits.getD j [])=true then pn fits kv j else 0:=by
 show(((nA (layAt fits kv j).2 (fits.getD j [])).lookup x).getD 0)=_;unfold nA;rw[MA (by rw[EG];exact ag)];show(if((fits.getD j []).any (· ==x))=true then pe fits kv j x - pn fits kv j else pe fits kv j x)=_;by_cases h:x∈fits.getD j []
 ·have e:(fits.getD j []).any (· ==x)=true:=g8.mpr ⟨x,h,gW _⟩;rw[e,aQ rfl,aQ (eu h)]
 ·rw[aI (λq=>by refine ah (g8.mp q) λy av e=>?_;exact h (eq_of_beq e▸av)),aI (by rw[d5];exact h),Int.sub_zero]
theorem NB{fits:List (List Str)}{kv:List (Str×Int)}{j:Nat}(h0:0 < (fits.getD j []).length):(∃x∈fits.getD j [],pn fits kv j=pe fits kv j x)/\∀x∈fits.getD j [],pn fits kv j<=pe fits kv j x:=by
 refine aE (ME (l:=(fits.getD j []).map λx=>((layAt fits kv j).2.lookup x).getD 0) (by rw[bO];exact h0)) λab ae=>?_;refine ah (bA.mp ab) λx ag e=>?_;exact⟨⟨x,ag,e.symm⟩,λy av=>ae _ (fX av)⟩
theorem M8{fits:List (List Str)}{kv:List (Str×Int)}(hf:∀j,j < 5->0 < (fits.getD j []).length/\∀x∈fits.getD j [],x∈ks kv)(aa:∀x∈ks kv,0<=Pv kv x):∀j,j<=5->(∀x∈ks kv,0<=pe fits kv j x/\pe fits kv j x=Pv kv x - hH fits kv j x)/\(∀i,i < j->0<=pn fits kv i)/\∀i,i < j->∃x∈fits.getD i [],pe fits kv j x=0:=by
 intro ba;induction ba with
 |zero=>
  intro _;exact⟨λx ag=>⟨aa x ag,by show Pv kv x=_;exact(Int.sub_zero _).symm⟩,λi h=>absurd h (k4 _),λi h=>absurd h (k4 _)⟩
 |succ j aw=>
  intro h;refine cB (aw (by exact lP ‹_›)) λab ae aC=>?_;refine aE (hf j (by walk_at"o")) λf0 f1=>?_;refine aE (NB (kv:=kv) f0) λaU qL=>?_;refine ah aU λx0 qk dO=>?_;have hm:0<=pn fits kv j:=by rw[dO];exact(ab x0 (f1 x0 qk)).1
  refine⟨λx ag=>?_,λi hi=>?_,λi hi=>?_⟩
  ·have:=ab x ag;rw[zO ag];show 0<=_/\_=Pv kv x - (hH fits kv j x+_);by_cases q:x∈fits.getD j []
   ·have:=qL x q;rw[aQ (eu q)];walk_at"o"
   ·rw[aI (by rw[d5];exact q)];walk_at"o"
  ·by_cases q:i < j
   ·exact ae i q
   ·rw[show i=j by walk_at"o"];exact hm
  ·by_cases q:i < j
   ·refine ah (aC i q) λx ag e=>?_;have TJ:=(hf i (by walk_at"o")).2 x ag;refine⟨x,ag,?_⟩;rw[zO TJ];by_cases bN:x∈fits.getD j []
    ·have:=qL x bN;rw[aQ (eu bN)];walk_at"o"
    ·rw[aI (by rw[d5];exact bN)];walk_at"o"
   ·have:i=j:=by walk_at"o"
    subst this;refine⟨x0,qk,?_⟩;rw[zO (f1 x0 qk),aQ (eu qk)];walk_at"o"
theorem GN(F:cq L)(D:i4 L O){fits:List (List Str)}{kv:List (Str×Int)}(hf:∀j,j < 5->∃l∈L,fits.getD j []=l.reverse){x:Str}(ag:∀l∈L,x≠l.getD 0 ""):∀j,j<=5->sB O (hH fits kv j) x=if x="" then(layAt fits kv j).1 else hH fits kv j x:=by
 intro ba;induction ba with
 |zero=>
  intro _;have e:∀B:List Str,(B.map (hH fits kv 0)).sum=0:=λB=>by
   induction B with
   |nil=>rfl
   |cons b B aw=>rw[eE,sum_cons,aw];rfl
  unfold sB;rw[e];split<;>rfl
 |succ j aw=>
  intro h;have aw:=aw (by exact lP ‹_›);refine ah (hf j (by walk_at"o")) λl ao kx=>?_;have ab:=KX F D ao (ag l ao);unfold sB at aw ⊢;have ax:(O.filter λone=>decide (pr one=x)).map (hH fits kv (j+1))=(O.filter λone=>decide (pr one=x)).map λone=>hH fits kv j one+if(λone=>decide (one∈l)) one=true then pn fits kv j else 0:=g7 λone _=>by
   show hH fits kv j one+(if decide (one∈fits.getD j [])=true then pn fits kv j else 0)=_;have e:decide (one∈fits.getD j [])=decide (one∈l):=by
    rw[kx,Bool.eq_iff_iff,d5,d5,mem_reverse]
   rw[e]
  rw[ax,Od,aw,ab];by_cases q:x=""
  ·rw[aQ q,aQ q,aQ (eu (b9 _ (cQ.mpr q))),Int.mul_one];rfl
  ·rw[aI q,aI q];show _=hH fits kv j x+_;congr 1;rw[kx];by_cases bN:x∈l
   ·rw[aQ (eu (b6 _ bN)),aQ (eu (List.mem_reverse.mpr bN)),Int.mul_one]
   ·rw[aI (by rw[d5,dk,cQ];exact λh=>h.elim bN q),aI (by rw[d5,mem_reverse];exact bN),Int.mul_zero]
theorem D7(F:cq L)(D:i4 L O){fits:List (List Str)}{kv:List (Str×Int)}(ar:∀x,x∈ks kv↔eC L x)(aa:∀x∈ks kv,0<=Pv kv x)(hf:∀j,j < 5->∃l∈L,fits.getD j []=l.reverse)(nJ:∀l∈L,∃j,j < 5/\fits.getD j []=l.reverse):(layAt fits kv 5).1=qZ O kv L:=by
 have xY:∀j,j < 5->0 < (fits.getD j []).length/\∀x∈fits.getD j [],x∈ks kv:=λj aN=>by
  refine ah (hf j aN) λl ao e=>?_;rw[e,length_reverse];exact⟨F.len0 l ao,λx ag=>(ar x).mpr ⟨l,ao,List.mem_reverse.mp ag⟩⟩
 refine cB (M8 xY aa 5 (ea _)) λeD _ kU=>?_
 let host:Str->Bool:=λx=>(L.map λl=>l.getD 0 "").any (· ==x)
 have Fx:∀x,host x=false->∀l∈L,x≠l.getD 0 "":=λx h l ao e=>by
  have:host x=true:=g8.mpr ⟨l.getD 0 "",fX ao,gz.mpr e.symm⟩;rw[this] at h;injection h
 have F8:∀x,host x=true->∃l∈L,x=l.getD 0 "":=λx h=>by
  refine ah (g8.mp h) λy av e=>?_;refine ah (bA.mp av) λl ao a7=>?_;subst a7;exact⟨l,ao,(eq_of_beq e).symm⟩
 have m7:∀x∈O,iH O kv L x=if host x||(x != ""&&decide (Pv kv x < sB O (iH O kv L) x)) then Pv kv x else sB O (iH O kv L) x:=λx ag=>by
  obtain⟨j,aN⟩:=getElem?_of_mem ag;exact FT F D kv (j:=j) (by rw[getElem?_append_left (kG.mp aN).1];exact aN)
 have bY:∀x∈O,x≠"":=λx ag=>by refine ah ((D.mem x).mp ag) λl ao h=>?_;exact F.ne l ao x h
 have x6:∀x∈O,hH fits kv 5 x<=Pv kv x:=λx ag=>by have:=eD x ((ar x).mpr ((D.mem x).mp ag));walk_at"o"
 have FF:∀x∈O,host x=false->sB O (hH fits kv 5) x=hH fits kv 5 x:=λx ag h=>by
  rw[GN F D hf (Fx x h) 5 (ea _),aI (bY x ag)]
 have Gw:∀x∈O,∀one∈O.filter (λone=>decide (pr one=x)),one∈O/\ib L one x/\gw one=gw x+1:=λx ag one aj=>by
  refine aE (ew.mp aj) λab ae=>?_;have ar:=(xe F ((D.mem one).mp ab) (bY x ag)).mp (ej ae);refine⟨ab,ar,?_⟩;refine ah ar λl ao bk=>?_;refine cn bk λp r e=>?_;exact F.dot l ao _ _ _ _ e
 have hle:∀n:Nat,∀x∈O,10<=gw x+n->hH fits kv 5 x<=iH O kv L x:=by
  intro n;induction n with
  |zero=>intro x ag h;have:=F.dx ((D.mem x).mp ag);walk_at"o"
  |succ n aw=>
   intro x ag h;rw[m7 x ag];split
   ·exact x6 x ag
   ·rename_i q;have dt:host x=false:=by
     induction e:host x with
     |false=>rfl
     |true=>rw[e] at q;exact absurd rfl q
    rw[<-FF x ag dt];exact Oy λone aj=>by
     refine cB (Gw x ag one aj) λa _ c=>?_;exact aw one a (by walk_at"o")
 have heq:∀n:Nat,∀x∈O,10<=gw x+n->(∀y∈(lF x).drop 1,hH fits kv 5 y≠Pv kv y)->hH fits kv 5 x=iH O kv L x:=by
  intro n;induction n with
  |zero=>intro x ag h;have:=F.dx ((D.mem x).mp ag);walk_at"o"
  |succ n aw=>
   intro x ag h av;have ab:=hle (n+1) x ag h;have ae:=m7 x ag;by_cases q:hH fits kv 5 x=Pv kv x
   ·have:iH O kv L x<=Pv kv x:=by
     rw[ae];split
     ·exact Int.le_refl _
     ·rename_i bN;rw[Bool.or_eq_true,i9,d5] at bN;refine Int.not_lt.mp λhI=>bN (.inr ⟨bne_iff_ne.mpr (bY x ag),hI⟩)
    walk_at"o"
   ·refine ah ((D.mem x).mp ag) λl0 mT jk=>?_;refine cn (i7 jk) λyF pj dO=>?_;have m2:=F.up l0 mT yF x pj dO;have vt:∀y∈lF x,hH fits kv 5 y≠Pv kv y:=λy oW=>by
     rw[m2] at oW av;replace oW:=oW;rcases bI.mp oW with rfl |oW
     ·exact q
     ·exact av y oW
    have dt:host x=false:=by
     induction e:host x with
     |false=>rfl
     |true=>
      refine ah (F8 x e) λl ao bz=>?_;subst bz;refine ah (nJ l ao) λj aN qD=>?_;refine ah (kU j aN) λz hz n2=>?_;rw[qD] at hz;replace hz:=hz;have hz:=List.mem_reverse.mp hz;have:=eD z ((ar z).mpr ⟨l,ao,hz⟩);exact absurd (by walk_at"o") (vt z (by rw[(F.head ao).1];exact hz))
    have aC:sB O (hH fits kv 5) x=sB O (iH O kv L) x:=by
     unfold sB;congr 1;refine g7 λone aj=>?_;refine cB (Gw x ag one aj) λa b c=>?_;refine aw one a (by walk_at"o") λy oW=>vt y ?_;refine ah b λl ao b7=>?_;refine cn b7 λp r e=>?_;rw[F.up l ao p one _ e] at oW;rw[F.up l ao (p++[one]) x r (by rw[e,h8];rfl)];exact oW
    rw[FF x ag dt] at aC;rw[dt, <-aC] at ae;have bc:iH O kv L x<=hH fits kv 5 x:=by
     rw[ae];split
     ·rename_i bN;rw[Bool.false_or,i9,d5] at bN;exact Int.le_of_lt bN.2
     ·exact Int.le_refl _
    walk_at"o"
 have GV:host ""=false:=by
  induction e:host "" with
  |false=>rfl
  |true=>
   refine ah (F8 _ e) λl ao aD=>?_;exact absurd aD.symm (F.ne l ao _ (F.head ao).2)
 have h0:iH O kv L ""=sB O (iH O kv L) "":=by
  have:=FT F D kv (j:=O.length) (x:="") (by rw[getElem?_append_right (ea _),Nat.sub_self];rfl);have e:(L.map λl=>l.getD 0 ("":Str)).any (· ==("":Str))=false:=GV;have aD:((("":Str) != ("":Str))&&decide (Pv kv "" < sB O (iH O kv L) ""))=false:=by rw[show(("":Str) != ("":Str))=false from bne_self_eq_false _];rfl
  rw[this,e,aD];rfl
 have ab:sB O (hH fits kv 5) ""=(layAt fits kv 5).1:=by rw[GN F D hf (Fx "" GV) 5 (ea _),aQ rfl]
 have ae:sB O (hH fits kv 5) ""=sB O (iH O kv L) "":=by
  unfold sB;congr 1;refine g7 λone aj=>?_;refine aE (ew.mp aj) λa b=>?_;have af:=(D.mem one).mp a;have:=F.dx af;refine heq 10 one a (by walk_at"o") λy av=>?_;refine ah af λl ao A0=>?_;refine cn (i7 A0) λp r e=>?_;have aa:=ej b;rw[rn F ao e] at aa;rw[F.up l ao p one r e] at av;induction r with
  |nil=>exact absurd av b8
  |cons z r=>exact absurd aa (F.ne l ao z (by rw[e];simp))
 rw[<-ab,ae, <-h0];rfl
end
theorem VN(dm:List Int)(hs:dm.length<=63):∃L kv O fk,An dm L kv O fk:=by
 obtain⟨L,sm⟩:∃L,(cellsOf dm).map (λc=>k1 (gK c))=L:=⟨_,rfl⟩
 have F:cq L:=sm▸OP dm;have rK:∀l∈L,Af l:=λl ao=>by
  rw[<-sm] at ao;refine ah (bA.mp ao) λc _ aU=>?_;subst aU;exact FO (E9 c)
 refine cB (Lg F (Dj dm)) λP hlen ar=>?_;obtain⟨kv,p7⟩:∃kv,sG (cellsOf dm) L=kv:=⟨_,rfl⟩
 rw[p7] at P hlen ar;replace P:=P;replace ar:=ar;refine ah (Pq F P.nd ar) λO D FE=>?_;have qn:∀x,eC L x->yB x:=λx Rx=>ah Rx λl ao ag=>(rK l ao).nm x ag;have aa:∀x∈ks kv,0<=Pv kv x:=λx ag=>by
  unfold Pv;induction e:kv.lookup x with
  |none=>exact Int.le_refl _
  |some v=>
   have:(x,v)∈kv:=by
    have key:∀kv:List (Str×Int),kv.lookup x=some v->(x,v)∈kv:=λkv=>by
     induction kv with
     |nil=>exact λh=>nomatch h
     |cons z r aw=>
      intro h;rw[di] at h;replace h:=h;induction q:x==z.1 with
      |true=>
       rw[q] at h;replace h:=h;have h:some z.2=some v:=h;obtain rfl:=bT h;rw[eq_of_beq q];exact cM
      |false=>
       rw[q] at h;exact ey _ (aw h)
    exact key kv e
   exact P.nn _ this
 have Ro:O.length<=20:=by rw[FE.length_eq,bO];exact hlen
 have eB:∀r∈jd L,∃i,i < 5/\r=mc L i:=λr bf=>by
  rw[(uv F).1] at bf;refine ah (bA.mp bf) λi hi a7=>?_;subst a7;exact⟨i,j6.mp hi,rfl⟩
 have AB:∀j,(L.map reverse).getD j []=(cV L j).reverse:=λj=>by
  unfold cV;rw[c7,c7,eb]
  (induction L[j]?)<;>rfl
 have FC:∀j,j < 5->(L.map reverse).reverse.getD j []=(cV L (4 - j)).reverse:=λj aN=>by
  have dA:=F.iG;rw[<-AB,c7,c7,getElem?_reverse (by rw[bO];walk_at"o"),bO,dA]
 refine⟨L,kv,O,qZ O kv L,⟨by exact bH ‹_› rfl,sm,λc _=>Rd c,F.iG,F.len0,λl ao=>ei (F.l1 l ao) (by decide),λl ao x ag=>(ve ((rK l ao).nm x ag)).ok,λl ao=>(F.head ao).1,p7,by exact bH ‹_› rfl,P.nd,ar,λl ao x ag=>⟨((rK l ao).fit x (qn x ((ar x).mp ag))).1.2,((rK l ao).fit x (qn x ((ar x).mp ag))).1.1⟩,λl ao=>?_,λx ag=>(ve (qn x ((ar x).mp ag))).z6,λx ag=>(ve (qn x ((ar x).mp ag))).ends,N8 F,Ob F D Ro,λx ag=>F.holds ((ar x).mp ag),λy av z hz=>F.AJ ((ar y).mp av) ((ar z).mp hz),λy av z hz=>F.Q7 ((ar y).mp av) ((ar z).mp hz),FE,D.asc,PO F D,?_,λx ag=>by rw[zz F ((D.mem x).mp ag)];rfl,λj name h one ab ae=>?_,λh=>?_,rfl,?_,?_⟩⟩
 ·rw[<-kX.fit F P ar ao];congr 1
  ·exact filter_congr λx ag=>((rK l ao).fit x (qn x ((ar x).mp ag))).2.1
  ·exact filter_congr λx ag=>((rK l ao).fit x (qn x ((ar x).mp ag))).2.2
 ·refine⟨by rw[(uv F).1,bO,length_range];exact ea _,λr bf=>?_⟩;refine ah (eB r bf) λi hi bk=>?_;subst bk;refine aP (uM F hi) λq e=>?_;have bc:=F.l1 _ (F.at hi);rw[e,fB] at bc;exact⟨by walk_at"o",λx ag=>(ve ((rK _ (F.at hi)).nm x (xf F hi ag))).ok.1⟩
 ·rw[zz F ((D.mem one).mp ab)] at ae;exact Ei F D j name h one ab ae
 ·refine ah (bA.mp h) λl ao e=>?_;exact F.ne l ao _ (F.head ao).2 e
 ·exact D7 F D ar aa (λj aN=>⟨cV L j,F.at aN,AB j⟩) λl ao=>by
   refine ah (F.z1 ao) λj aN e=>?_;exact⟨j,aN,by rw[AB,e]⟩
 ·exact D7 F D ar aa (λj aN=>⟨cV L (4 - j),F.at (by walk_at"o"),FC j aN⟩) λl ao=>by
   refine ah (F.z1 ao) λj aN e=>?_;exact⟨4 - j,by walk_at"o",by rw[FC (4 - j) (by walk_at"o"),show 4 - (4 - j)=j by walk_at"o",e]⟩
end lp
theorem PySem.Challenge.cw_op0239_01_holds : PySem.Challenge.rw_op0239_01.Holds := by
  exact lp.VR (lp.VQ lp.VN)
