import PyProof.Rows.All
import Wide.All
import OpenK.AllK
import Wide.FinOn
import PySem.Challenge.RW_op0239_01
set_option Elab.async false
set_option maxRecDepth 100000
set_option maxHeartbeats 0
set_option linter.unusedVariables false
set_option genSizeOf false
set_option genInjectivity false
set_option bootstrap.genMatcherCode false
set_option compiler.extract_closed false
namespace Mine
open PySem.Heap List Option
open PySem PySem.W PyProof.Rows
abbrev aH:=@wpAny_bind
abbrev cm:=@List.getElem?_eq_getElem
abbrev bT:=@Option.some.inj
abbrev b9:=@List.mem_append_right
abbrev c8:=@List.getD_eq_getElem?_getD
abbrev b6:=@List.mem_append_left
abbrev bu:=@wpAny_pure
abbrev aI:=@if_neg
abbrev d0:=@decide_eq_true_iff
abbrev bO:=@List.length_map
abbrev b8:=@List.not_mem_nil
abbrev cM:=@List.mem_cons_self
abbrev dV:=@Heap.get?_push_of_some
abbrev aQ:=@if_pos
abbrev ey:=@beq_eq_false_iff_ne
abbrev dc:=@Heap.get?_push_size
abbrev cQ:=@List.mem_singleton
abbrev ee:=@of_decide_eq_true
abbrev fW:=@Nat.le_of_ble_eq_true
abbrev en:=@List.mem_cons_of_mem
abbrev c0:=@Nat.zero_le
abbrev fO:=@List.mem_map_of_mem
abbrev bI:=@List.mem_cons
abbrev el:=@decide_eq_true
abbrev fD:=@slot_list_getitem
abbrev eP:=@List.mem_of_getElem?
abbrev di:=@List.lookup_cons
abbrev bA:=@List.mem_map
abbrev dW:=@List.map_map
abbrev dI:=@List.length_cons
abbrev d7:=@List.getElem?_map
theorem e9{b:Prop}(h:∀G:Prop,(b->G)->G):b:=h b id
variable {A:Around} {E c5 Q:Value->Shared->Prop} {s s' b2 s₀ au aL:Shared}
theorem nW{α:Type}{M:Model}{x:Sem α}{Q:α->Shared->Prop}(h:∀cI:α->Shared->Prop,(∀v t,Q v t->cI v t)->wpAny M A x cI E s):wpAny M A x Q E s:=h Q λ_ _ q=>q
theorem jf{α:Sort fc}{motive:α->Prop}(x:α)(h:∀y,motive y):motive x:=h x
theorem sT{α:Type}{M:Model}{x:Sem α}{Q:α->Shared->Prop}(h:∀E:Value->Shared->Prop,wpAny M A x Q E s):wpAny M A x Q E s:=h E
theorem bH{x a b:Nat}(h:x<=a)(k:Nat.ble a b=true):x<=b:=Nat.le_trans h (fW k)
theorem od{x a b:Nat}(h:x<=a)(k:Nat.ble (a+1) b=true):x < b:=Nat.lt_of_le_of_lt h (fW k)
theorem GB{x a b:Nat}(h:x < a)(k:Nat.ble a b=true):x < b:=Nat.lt_of_lt_of_le h (fW k)
theorem aE{P Q:Prop}{G:Prop}(h:P/\Q)(k:P->Q->G):G:=k h.1 h.2
theorem cB{P Q R:Prop}{G:Prop}(h:P/\Q/\R)(k:P->Q->R->G):G:=k h.1 h.2.1 h.2.2
theorem eK{P Q R S:Prop}{G:Prop}(h:P/\Q/\R/\S)(k:P->Q->R->S->G):G:=k h.1 h.2.1 h.2.2.1 h.2.2.2
theorem Fp{P Q R S T:Prop}{G:Prop}(h:P/\Q/\R/\S/\T)(k:P->Q->R->S->T->G):G:=k h.1 h.2.1 h.2.2.1 h.2.2.2.1 h.2.2.2.2
theorem ud{P Q R S T eO:Prop}{G:Prop}(h:P/\Q/\R/\S/\T/\eO)(k:P->Q->R->S->T->eO->G):G:=k h.1 h.2.1 h.2.2.1 h.2.2.2.1 h.2.2.2.2.1 h.2.2.2.2.2
theorem aP{α:Sort fc}{P:α->Prop}{G:Prop}(h:∃a,P a)(k:∀a,P a->G):G:=h.elim λa h=>k a h
theorem ah{α:Sort fc}{P Q:α->Prop}{G:Prop}(h:∃a,P a/\Q a)(k:∀a,P a->Q a->G):G:=h.elim λa h=>k a h.1 h.2
theorem dK{α:Sort fc}{P Q R:α->Prop}{G:Prop}(h:∃a,P a/\Q a/\R a)(k:∀a,P a->Q a->R a->G):G:=h.elim λa h=>k a h.1 h.2.1 h.2.2
theorem h7{α:Sort fc}{P Q R S:α->Prop}{G:Prop}(h:∃a,P a/\Q a/\R a/\S a)(k:∀a,P a->Q a->R a->S a->G):G:=h.elim λa h=>k a h.1 h.2.1 h.2.2.1 h.2.2.2
theorem mO{α:Sort fc}{P Q R S T:α->Prop}{G:Prop}(h:∃a,P a/\Q a/\R a/\S a/\T a)(k:∀a,P a->Q a->R a->S a->T a->G):G:=h.elim λa h=>k a h.1 h.2.1 h.2.2.1 h.2.2.2.1 h.2.2.2.2
theorem sg{α:Sort fc}{P Q R S T eO:α->Prop}{G:Prop}(h:∃a,P a/\Q a/\R a/\S a/\T a/\eO a)(k:∀a,P a->Q a->R a->S a->T a->eO a->G):G:=h.elim λa h=>k a h.1 h.2.1 h.2.2.1 h.2.2.2.1 h.2.2.2.2.1 h.2.2.2.2.2
theorem Fm{α:Sort fc}{P Q R S T eO V:α->Prop}{G:Prop}(h:∃a,P a/\Q a/\R a/\S a/\T a/\eO a/\V a)(k:∀a,P a->Q a->R a->S a->T a->eO a->V a->G):G:=h.elim λa h=>k a h.1 h.2.1 h.2.2.1 h.2.2.2.1 h.2.2.2.2.1 h.2.2.2.2.2.1 h.2.2.2.2.2.2
theorem EI{α:Sort fc}{P Q R S T eO V X Y Z:α->Prop}{G:Prop}(h:∃a,P a/\Q a/\R a/\S a/\T a/\eO a/\V a/\X a/\Y a/\Z a)(k:∀a,P a->Q a->R a->S a->T a->eO a->V a->X a->Y a->Z a->G):G:=h.elim λa h=>k a h.1 h.2.1 h.2.2.1 h.2.2.2.1 h.2.2.2.2.1 h.2.2.2.2.2.1 h.2.2.2.2.2.2.1 h.2.2.2.2.2.2.2.1 h.2.2.2.2.2.2.2.2.1 h.2.2.2.2.2.2.2.2.2
theorem cn{α:Sort fc}{β:Sort gU}{P:α->β->Prop}{G:Prop}(h:∃a b,P a b)(k:∀a b,P a b->G):G:=h.elim λa h=>h.elim λb h=>k a b h
theorem dO{α:Sort fc}{β:Sort gU}{P Q:α->β->Prop}{G:Prop}(h:∃a b,P a b/\Q a b)(k:∀a b,P a b->Q a b->G):G:=h.elim λa h=>h.elim λb h=>k a b h.1 h.2
theorem bj{α:Sort fc}{β:Sort gU}{P Q R:α->β->Prop}{G:Prop}(h:∃a b,P a b/\Q a b/\R a b)(k:∀a b,P a b->Q a b->R a b->G):G:=h.elim λa h=>h.elim λb h=>k a b h.1 h.2.1 h.2.2
theorem h8{α:Sort fc}{β:Sort gU}{P Q R S:α->β->Prop}{G:Prop}(h:∃a b,P a b/\Q a b/\R a b/\S a b)(k:∀a b,P a b->Q a b->R a b->S a b->G):G:=h.elim λa h=>h.elim λb h=>k a b h.1 h.2.1 h.2.2.1 h.2.2.2
theorem sh{α:Sort fc}{β:Sort gU}{P Q R S T:α->β->Prop}{G:Prop}(h:∃a b,P a b/\Q a b/\R a b/\S a b/\T a b)(k:∀a b,P a b->Q a b->R a b->S a b->T a b->G):G:=h.elim λa h=>h.elim λb h=>k a b h.1 h.2.1 h.2.2.1 h.2.2.2.1 h.2.2.2.2
theorem FZ{α:Sort fc}{β:Sort gU}{P Q R S T eO:α->β->Prop}{G:Prop}(h:∃a b,P a b/\Q a b/\R a b/\S a b/\T a b/\eO a b)(k:∀a b,P a b->Q a b->R a b->S a b->T a b->eO a b->G):G:=h.elim λa h=>h.elim λb h=>k a b h.1 h.2.1 h.2.2.1 h.2.2.2.1 h.2.2.2.2.1 h.2.2.2.2.2
theorem z2{α:Sort fc}{β:Sort gU}{P Q R S T eO V X:α->β->Prop}{G:Prop}(h:∃a b,P a b/\Q a b/\R a b/\S a b/\T a b/\eO a b/\V a b/\X a b)(k:∀a b,P a b->Q a b->R a b->S a b->T a b->eO a b->V a b->X a b->G):G:=h.elim λa h=>h.elim λb h=>k a b h.1 h.2.1 h.2.2.1 h.2.2.2.1 h.2.2.2.2.1 h.2.2.2.2.2.1 h.2.2.2.2.2.2.1 h.2.2.2.2.2.2.2
theorem t9{α:Sort fc}{β:Sort gU}{e4:Sort jw}{P Q:α->β->e4->Prop}{G:Prop}(h:∃a b c,P a b c/\Q a b c)(k:∀a b c,P a b c->Q a b c->G):G:=h.elim λa h=>h.elim λb h=>h.elim λc h=>k a b c h.1 h.2
theorem gm{α:Sort fc}{β:Sort gU}{e4:Sort jw}{P Q R:α->β->e4->Prop}{G:Prop}(h:∃a b c,P a b c/\Q a b c/\R a b c)(k:∀a b c,P a b c->Q a b c->R a b c->G):G:=h.elim λa h=>h.elim λb h=>h.elim λc h=>k a b c h.1 h.2.1 h.2.2
theorem cg{α:Sort fc}{β:Sort gU}{e4:Sort jw}{P Q R S:α->β->e4->Prop}{G:Prop}(h:∃a b c,P a b c/\Q a b c/\R a b c/\S a b c)(k:∀a b c,P a b c->Q a b c->R a b c->S a b c->G):G:=h.elim λa h=>h.elim λb h=>h.elim λc h=>k a b c h.1 h.2.1 h.2.2.1 h.2.2.2
theorem iA{α:Sort fc}{β:Sort gU}{e4:Sort jw}{P Q R S T:α->β->e4->Prop}{G:Prop}(h:∃a b c,P a b c/\Q a b c/\R a b c/\S a b c/\T a b c)(k:∀a b c,P a b c->Q a b c->R a b c->S a b c->T a b c->G):G:=h.elim λa h=>h.elim λb h=>h.elim λc h=>k a b c h.1 h.2.1 h.2.2.1 h.2.2.2.1 h.2.2.2.2
theorem FG{α:Sort fc}{β:Sort gU}{e4:Sort jw}{P Q R S T eO:α->β->e4->Prop}{G:Prop}(h:∃a b c,P a b c/\Q a b c/\R a b c/\S a b c/\T a b c/\eO a b c)(k:∀a b c,P a b c->Q a b c->R a b c->S a b c->T a b c->eO a b c->G):G:=h.elim λa h=>h.elim λb h=>h.elim λc h=>k a b c h.1 h.2.1 h.2.2.1 h.2.2.2.1 h.2.2.2.2.1 h.2.2.2.2.2
theorem QC{α:Sort fc}{β:Sort gU}{e4:Sort jw}{g6:Sort l9}{P:α->β->e4->g6->Prop}{G:Prop}(h:∃a b c d,P a b c d)(k:∀a b c d,P a b c d->G):G:=h.elim λa h=>h.elim λb h=>h.elim λc h=>h.elim λd h=>k a b c d h
theorem wR{α:Sort fc}{β:Sort gU}{e4:Sort jw}{g6:Sort l9}{P Q:α->β->e4->g6->Prop}{G:Prop}(h:∃a b c d,P a b c d/\Q a b c d)(k:∀a b c d,P a b c d->Q a b c d->G):G:=h.elim λa h=>h.elim λb h=>h.elim λc h=>h.elim λd h=>k a b c d h.1 h.2
theorem uo{α:Sort fc}{β:Sort gU}{e4:Sort jw}{g6:Sort l9}{P Q R:α->β->e4->g6->Prop}{G:Prop}(h:∃a b c d,P a b c d/\Q a b c d/\R a b c d)(k:∀a b c d,P a b c d->Q a b c d->R a b c d->G):G:=h.elim λa h=>h.elim λb h=>h.elim λc h=>h.elim λd h=>k a b c d h.1 h.2.1 h.2.2
theorem wM{α:Sort fc}{β:Sort gU}{e4:Sort jw}{g6:Sort l9}{P Q R S:α->β->e4->g6->Prop}{G:Prop}(h:∃a b c d,P a b c d/\Q a b c d/\R a b c d/\S a b c d)(k:∀a b c d,P a b c d->Q a b c d->R a b c d->S a b c d->G):G:=h.elim λa h=>h.elim λb h=>h.elim λc h=>h.elim λd h=>k a b c d h.1 h.2.1 h.2.2.1 h.2.2.2
theorem Fh{α:Sort fc}{β:Sort gU}{e4:Sort jw}{g6:Sort l9}{P Q R S T:α->β->e4->g6->Prop}{G:Prop}(h:∃a b c d,P a b c d/\Q a b c d/\R a b c d/\S a b c d/\T a b c d)(k:∀a b c d,P a b c d->Q a b c d->R a b c d->S a b c d->T a b c d->G):G:=h.elim λa h=>h.elim λb h=>h.elim λc h=>h.elim λd h=>k a b c d h.1 h.2.1 h.2.2.1 h.2.2.2.1 h.2.2.2.2
theorem QJ{α:Sort fc}{β:Sort gU}{e4:Sort jw}{g6:Sort l9}{P Q R S T eO V X Y:α->β->e4->g6->Prop}{G:Prop}(h:∃a b c d,P a b c d/\Q a b c d/\R a b c d/\S a b c d/\T a b c d/\eO a b c d/\V a b c d/\X a b c d/\Y a b c d)(k:∀a b c d,P a b c d->Q a b c d->R a b c d->S a b c d->T a b c d->eO a b c d->V a b c d->X a b c d->Y a b c d->G):G:=h.elim λa h=>h.elim λb h=>h.elim λc h=>h.elim λd h=>k a b c d h.1 h.2.1 h.2.2.1 h.2.2.2.1 h.2.2.2.2.1 h.2.2.2.2.2.1 h.2.2.2.2.2.2.1 h.2.2.2.2.2.2.2.1 h.2.2.2.2.2.2.2.2
theorem wO{α:Sort fc}{β:Sort gU}{e4:Sort jw}{g6:Sort l9}{mh:Sort uU}{P Q R S:α->β->e4->g6->mh->Prop}{G:Prop}(h:∃a b c d e,P a b c d e/\Q a b c d e/\R a b c d e/\S a b c d e)(k:∀a b c d e,P a b c d e->Q a b c d e->R a b c d e->S a b c d e->G):G:=h.elim λa h=>h.elim λb h=>h.elim λc h=>h.elim λd h=>h.elim λe h=>k a b c d e h.1 h.2.1 h.2.2.1 h.2.2.2
theorem F4{α:Sort fc}{β:Sort gU}{e4:Sort jw}{g6:Sort l9}{mh:Sort uU}{P Q R S T:α->β->e4->g6->mh->Prop}{G:Prop}(h:∃a b c d e,P a b c d e/\Q a b c d e/\R a b c d e/\S a b c d e/\T a b c d e)(k:∀a b c d e,P a b c d e->Q a b c d e->R a b c d e->S a b c d e->T a b c d e->G):G:=h.elim λa h=>h.elim λb h=>h.elim λc h=>h.elim λd h=>h.elim λe h=>k a b c d e h.1 h.2.1 h.2.2.1 h.2.2.2.1 h.2.2.2.2
theorem Ri{α:Sort fc}{β:Sort gU}{e4:Sort jw}{g6:Sort l9}{mh:Sort uU}{P Q R S T eO:α->β->e4->g6->mh->Prop}{G:Prop}(h:∃a b c d e,P a b c d e/\Q a b c d e/\R a b c d e/\S a b c d e/\T a b c d e/\eO a b c d e)(k:∀a b c d e,P a b c d e->Q a b c d e->R a b c d e->S a b c d e->T a b c d e->eO a b c d e->G):G:=h.elim λa h=>h.elim λb h=>h.elim λc h=>h.elim λd h=>h.elim λe h=>k a b c d e h.1 h.2.1 h.2.2.1 h.2.2.2.1 h.2.2.2.2.1 h.2.2.2.2.2
theorem QB{α:Sort fc}{β:Sort gU}{e4:Sort jw}{g6:Sort l9}{mh:Sort uU}{P Q R S T eO V X:α->β->e4->g6->mh->Prop}{G:Prop}(h:∃a b c d e,P a b c d e/\Q a b c d e/\R a b c d e/\S a b c d e/\T a b c d e/\eO a b c d e/\V a b c d e/\X a b c d e)(k:∀a b c d e,P a b c d e->Q a b c d e->R a b c d e->S a b c d e->T a b c d e->eO a b c d e->V a b c d e->X a b c d e->G):G:=h.elim λa h=>h.elim λb h=>h.elim λc h=>h.elim λd h=>h.elim λe h=>k a b c d e h.1 h.2.1 h.2.2.1 h.2.2.2.1 h.2.2.2.2.1 h.2.2.2.2.2.1 h.2.2.2.2.2.2.1 h.2.2.2.2.2.2.2
theorem Pr{α:Sort fc}{β:Sort gU}{e4:Sort jw}{g6:Sort l9}{mh:Sort uU}{P Q R S T eO V X Y:α->β->e4->g6->mh->Prop}{G:Prop}(h:∃a b c d e,P a b c d e/\Q a b c d e/\R a b c d e/\S a b c d e/\T a b c d e/\eO a b c d e/\V a b c d e/\X a b c d e/\Y a b c d e)(k:∀a b c d e,P a b c d e->Q a b c d e->R a b c d e->S a b c d e->T a b c d e->eO a b c d e->V a b c d e->X a b c d e->Y a b c d e->G):G:=h.elim λa h=>h.elim λb h=>h.elim λc h=>h.elim λd h=>h.elim λe h=>k a b c d e h.1 h.2.1 h.2.2.1 h.2.2.2.1 h.2.2.2.2.1 h.2.2.2.2.2.1 h.2.2.2.2.2.2.1 h.2.2.2.2.2.2.2.1 h.2.2.2.2.2.2.2.2
theorem Oq{α:Sort fc}{β:Sort gU}{e4:Sort jw}{g6:Sort l9}{mh:Sort uU}{P Q R S T eO V X Y Z K:α->β->e4->g6->mh->Prop}{G:Prop}(h:∃a b c d e,P a b c d e/\Q a b c d e/\R a b c d e/\S a b c d e/\T a b c d e/\eO a b c d e/\V a b c d e/\X a b c d e/\Y a b c d e/\Z a b c d e/\K a b c d e)(k:∀a b c d e,P a b c d e->Q a b c d e->R a b c d e->S a b c d e->T a b c d e->eO a b c d e->V a b c d e->X a b c d e->Y a b c d e->Z a b c d e->K a b c d e->G):G:=h.elim λa h=>h.elim λb h=>h.elim λc h=>h.elim λd h=>h.elim λe h=>k a b c d e h.1 h.2.1 h.2.2.1 h.2.2.2.1 h.2.2.2.2.1 h.2.2.2.2.2.1 h.2.2.2.2.2.2.1 h.2.2.2.2.2.2.2.1 h.2.2.2.2.2.2.2.2.1 h.2.2.2.2.2.2.2.2.2.1 h.2.2.2.2.2.2.2.2.2.2
noncomputable abbrev hI(i:Nat):Stmt:=PySem.Challenge.pw_op0239_01.main.body.getD i (.Pass ⟨0,0,0,0⟩)
noncomputable abbrev lM(i j:Nat):Stmt:=match hI i with
 | .ClassDef _ _ _ body _ _ _ _ _ _ _=>body.getD j (.Pass ⟨0,0,0,0⟩)
 |s=>s
noncomputable abbrev fA(s:Stmt)(q:Str)(d:Value)(m:Str)(t:Tok)(c:Addr):Obj:=match s with
 | .FunctionDef name params body _ _ _ scope _ _ _=>{cls:= .type "function",data:= .func {name:=name,qualname:=q,params:=params,body:= .stmts body,scope:=scope,globals:=3,closure:=[],defaults:=d,kwdefaults:= .none,pyModule:= .str m t,code:= .ref c}}
 |_=>{cls:= .none,data:= .freed}
noncomputable abbrev ic(n:Str)(t1:Tok)(q:Str)(e7 t3:Tok)(ew gv kl xT xC:Int)(gG:Addr)(b:Bool)(BN:Int)(e3 i2 U2 j1:Addr)(BL B7:Int)(kV:Tok):Obj:=
 {cls:= .type "code",data:= .fields #[.str n t1,.str q e7,.str "/claim/cut.py" t3,.int ew 0,.int gv 0,.int kl 0,.int xT 0,.int xC 0,.ref gG,.bool b,.int BN 0,.ref e3,.none,.ref i2,.ref U2,.ref j1,.int BL 0,.int B7 0,.str "/claim/cut.py" kV]}
noncomputable abbrev ml(n:Str)(t1:Tok)(q:Str)(e7 t3:Tok)(ew gv kl xT xC:Int)(gG:Addr)(b:Bool)(BN:Int)(e3 j1:Addr)(BL B7:Int)(kV:Tok):Obj:=
 {cls:= .type "code",data:= .fields #[.str n t1,.str q e7,.str "/claim/cut.py" t3,.int ew 0,.int gv 0,.int kl 0,.int xT 0,.int xC 0,.ref gG,.bool b,.int BN 0,.ref e3,.none,.none,.none,.ref j1,.int BL 0,.int B7 0,.str "/claim/cut.py" kV]}
noncomputable abbrev ck(P:Params)(x:Str)(t:Tok)(v:Value):DictEntry:={hash:=PyData.keyHash P x,key:= .str x t,val:=v}
noncomputable abbrev KK(P:Params):Frag:=[
 (2,{cls:= .none,data:= .dict #[ck P "\x69mport.loaded._sre" 183 (.bool true),ck P "class._frozen_importlib.BuiltinImporter" 185 (.ref 14),ck P "watched.\x69mport" 206 (.ref 18),ck P "class._frozen_importlib.ModuleSpec" 216 (.ref 22),ck P "sys.modules.booked-epoch" 245 (.int 3 0),ck P "\x69mport.later-laid._sre" 270 (.bool true),ck P "watched.library" 272 (.ref 27),ck P "watched.library-objects" 0 (.str "\x0c" 0),ck P "watched.library-deep._sre" 273 (.str "\x04\x00\x00\x0b\x04\x00\x00\x0b\x04\x00\x00\x03\x04\x00\x00\x0b\x08\x04dict\x02" 0)] 9}),
 (3,{cls:= .type "dict",data:= .dict #[ck P "__name__" 165 (.str "law_op0239_01" 549),ck P "__doc__" 166 .none,ck P "__package__" 167 .none,ck P "__loader__" 168 (.builtin "__main__.__loader__#opaque"),ck P "__spec__" 169 .none,ck P "__annotations__" 170 (.ref 6),ck P "__builtins__" 171 (.ref 4),ck P "__file__" 173 (.str "/claim/cut.py" 172),ck P "__cached__" 174 .none,ck P "_sre" 275 (.ref 12),ck P "_wall" 288 (.ref 38),ck P "IPV4_RE" 320 (.ref 43),ck P "is_HDN" 327 (.ref 50),ck P "domain_match" 336 (.ref 57),ck P "reach" 345 (.ref 64),ck P "_initial_missing" 348 (.ref 65),ck P "reduce" 360 (.ref 73),ck P "_c3_merge" 366 (.ref 78),ck P "_NODE_OUT" 371 (.int (-1) 370),ck P "_NODE_DONE" 374 (.int (-2) 373),ck P "_NodeInfo" 411 (.ref 97),ck P "CycleError" 429 (.ref 112),ck P "TopologicalSorter" 548 (.ref 194),ck P "_law_cells" 556 (.ref 203),ck P "_law_labels" 565 (.ref 210),ck P "_law_ladder" 571 (.ref 215),ck P "_law_climb" 578 (.ref 222),ck P "_law_prices" 590 (.ref 229),ck P "_law_fit" 596 (.ref 234),ck P "_law_ends" 607 (.ref 241),ck P "_law_run" 613 (.ref 246),ck P "_law_cut" 619 (.ref 251),ck P "_law_order" 625 (.ref 256),ck P "_law_least" 631 (.ref 261),ck P "_law_lay" 637 (.ref 266),ck P "law" 643 (.ref 271)] 36}),
 (37,ic "_wall" 282 "_wall" 283 284 2 1 0 0 3 32 true 276 33 34 35 36 286 2 287),
 (38,fA (hI 1) "_wall" .none "__main__" 164 37),
 (42,{cls:= .type "tuple",data:= .seq #[.int 14 0,.int 8 0,.int 1 0,.int 2 0,.int 4294967295 0,.int 1 0,.int 1 0,.int 46 0,.int 0 0,.int 16 0,.int 46 0,.int 24 0,.int 9 0,.int 1 0,.int 4294967295 0,.int 13 0,.int 4 0,.int 8 0,.int 0 0,.int 0 0,.int 1 0,.int 6 0,.int 5 0,.int 1 0]}),
 (43,{cls:= .type "re.Pattern",data:= .fields #[.str "\\.\\d+$" 292,.int 256 319,.int 0 0,.none,.none,.ref 42,.int 0 0]}),
 (49,ic "is_HDN" 321 "is_HDN" 322 323 7 1 0 0 3 44 true 276 45 46 47 48 325 7 326),
 (50,fA (hI 4) "is_HDN" .none "cpy313.http.cookiejar" 289 49),
 (56,ic "domain_match" 328 "domain_match" 329 330 15 2 0 0 3 51 true 276 52 53 54 55 334 15 335),
 (57,fA (hI 5) "domain_match" .none "cpy313.http.cookiejar" 289 56),
 (63,ic "reach" 337 "reach" 338 339 30 1 0 0 3 58 true 276 59 60 61 62 343 30 344),
 (64,fA (hI 6) "reach" .none "cpy313.http.cookiejar" 289 63),
 (65,{cls:= .type "object"}),
 (66,{cls:= .type "tuple",data:= .seq #[.ref 65]}),
 (72,ic "reduce" 349 "reduce" 350 351 40 3 0 0 3 67 true 276 68 69 70 71 358 40 359),
 (73,fA (hI 9) "reduce" (.ref 66) "cpy313.functools" 346 72),
 (77,ml "_c3_merge" 361 "_c3_merge" 362 363 52 1 0 0 3 74 true 276 75 76 364 52 365),
 (78,fA (hI 10) "_c3_merge" .none "cpy313.functools" 346 77),
 (92,ic "__init__" 391 "_NodeInfo.__init__" 392 393 78 2 0 0 3 87 true 276 88 89 90 91 396 78 397),
 (93,fA (lM 14 1) "_NodeInfo.__init__" .none "cpy313.graphlib" 367 92),
 (96,{cls:= .type "dict",data:= .dict #[ck P "__module__" 382 (.str "cpy313.graphlib" 367),ck P "__firstlineno__" 386 (.int 75 385),ck P "__slots__" 390 (.ref 86),ck P "__init__" 398 (.ref 93),ck P "__static_attributes__" 402 (.ref 94),ck P "node" 404 (.ref 98),ck P "npredecessors" 406 (.ref 99),ck P "successors" 408 (.ref 100),ck P "__doc__" 409 .none] 5}),
 (97,{cls:= .type "type",data:= .cls {name:="_NodeInfo",bases:=[.type "object"],mro:=[.ref 97,.type "object"],ns:=96,qualname:="_NodeInfo",hasDict:=false,slotNames:=["node","npredecessors","successors"]},slots:= #[none,none,some (.str "_NodeInfo" 375),some (.str "_NodeInfo" 383),some (.builtin "object.__new__"),some (.bool false)]}),
 (98,{cls:= .type "member_descriptor",data:= .fields #[.str "node" 403,.ref 97,.builtin "proto.slot",.builtin "proto.slot#set",.int 2 0]}),
 (99,{cls:= .type "member_descriptor",data:= .fields #[.str "npredecessors" 405,.ref 97,.builtin "proto.slot",.builtin "proto.slot#set",.int 1 0]}),
 (100,{cls:= .type "member_descriptor",data:= .fields #[.str "successors" 407,.ref 97,.builtin "proto.slot",.builtin "proto.slot#set",.int 0 0]}),
 (103,{cls:= .type "tuple",data:= .seq #[.type "ValueError"]}),
 (123,{cls:= .type "tuple",data:= .seq #[.none]}),
 (129,ic "__init__" 442 "TopologicalSorter.__init__" 443 444 86 2 0 0 3 124 true 276 125 126 127 128 449 86 450),
 (130,fA (lM 16 0) "TopologicalSorter.__init__" (.ref 123) "cpy313.graphlib" 367 129),
 (136,ic "_get_nodeinfo" 452 "TopologicalSorter._get_nodeinfo" 453 454 95 2 0 0 3 131 true 276 132 133 134 135 458 95 459),
 (137,fA (lM 16 1) "TopologicalSorter._get_nodeinfo" .none "cpy313.graphlib" 367 136),
 (143,ic "add" 461 "TopologicalSorter.add" 462 463 100 2 0 0 7 138 true 276 139 140 141 142 470 100 471),
 (144,fA (lM 16 2) "TopologicalSorter.add" .none "cpy313.graphlib" 367 143),
 (148,ml "prepare" 473 "TopologicalSorter.prepare" 474 475 109 1 0 0 3 145 true 276 146 147 476 109 477),
 (149,fA (lM 16 3) "TopologicalSorter.prepare" .none "cpy313.graphlib" 367 148),
 (155,ic "get_ready" 479 "TopologicalSorter.get_ready" 480 481 117 1 0 0 3 150 true 276 151 152 153 154 486 117 487),
 (156,fA (lM 16 4) "TopologicalSorter.get_ready" .none "cpy313.graphlib" 367 155),
 (162,ic "is_active" 489 "TopologicalSorter.is_active" 490 491 128 1 0 0 3 157 true 276 158 159 160 161 493 128 494),
 (163,fA (lM 16 5) "TopologicalSorter.is_active" .none "cpy313.graphlib" 367 162),
 (169,ic "__bool__" 496 "TopologicalSorter.__bool__" 497 498 133 1 0 0 3 164 true 276 165 166 167 168 500 133 501),
 (170,fA (lM 16 6) "TopologicalSorter.__bool__" .none "cpy313.graphlib" 367 169),
 (176,ic "done" 503 "TopologicalSorter.done" 504 505 136 1 0 0 7 171 true 276 172 173 174 175 514 136 515),
 (177,fA (lM 16 7) "TopologicalSorter.done" .none "cpy313.graphlib" 367 176),
 (183,ic "_find_cycle" 517 "TopologicalSorter._find_cycle" 518 519 159 1 0 0 3 178 true 276 179 180 181 182 527 159 528),
 (184,fA (lM 16 8) "TopologicalSorter._find_cycle" .none "cpy313.graphlib" 367 183),
 (190,ic "static_order" 530 "TopologicalSorter.static_order" 531 532 188 1 0 0 3 185 true 276 186 187 188 189 534 188 535),
 (191,fA (lM 16 9) "TopologicalSorter.static_order" .none "cpy313.graphlib" 367 190),
 (193,{cls:= .type "dict",data:= .dict #[ck P "__module__" 437 (.str "cpy313.graphlib" 367),ck P "__firstlineno__" 441 (.int 84 440),ck P "__init__" 451 (.ref 130),ck P "_get_nodeinfo" 460 (.ref 137),ck P "add" 472 (.ref 144),ck P "prepare" 478 (.ref 149),ck P "get_ready" 488 (.ref 156),ck P "is_active" 495 (.ref 163),ck P "__bool__" 502 (.ref 170),ck P "done" 516 (.ref 177),ck P "_find_cycle" 529 (.ref 184),ck P "static_order" 536 (.ref 191),ck P "__static_attributes__" 541 (.ref 192),ck P "__dict__" 543 (.ref 195),ck P "__weakref__" 545 (.ref 196),ck P "__doc__" 546 .none] 4}),
 (194,{cls:= .type "type",data:= .cls {name:="TopologicalSorter",bases:=[.type "object"],mro:=[.ref 194,.type "object"],ns:=193,qualname:="TopologicalSorter"},slots:= #[none,none,some (.str "TopologicalSorter" 430),some (.str "TopologicalSorter" 438),some (.builtin "object.__new__"),some (.bool true)]}),
 (202,ml "_law_cells" 551 "_law_cells" 552 553 191 1 0 0 3 199 true 276 200 201 554 191 555),
 (203,fA (hI 18) "_law_cells" .none "law_op0239_01" 549 202),
 (209,ic "_law_labels" 557 "_law_labels" 558 559 193 1 0 0 3 204 true 276 205 206 207 208 563 193 564),
 (210,fA (hI 19) "_law_labels" .none "law_op0239_01" 549 209),
 (214,ml "_law_ladder" 566 "_law_ladder" 567 568 199 1 0 0 3 211 true 276 212 213 569 199 570),
 (215,fA (hI 20) "_law_ladder" .none "law_op0239_01" 549 214),
 (221,ic "_law_climb" 572 "_law_climb" 573 574 202 1 0 0 3 216 true 276 217 218 219 220 576 202 577),
 (222,fA (hI 21) "_law_climb" .none "law_op0239_01" 549 221),
 (228,ic "_law_prices" 579 "_law_prices" 580 581 204 2 0 0 3 223 true 276 224 225 226 227 588 204 589),
 (229,fA (hI 22) "_law_prices" .none "law_op0239_01" 549 228),
 (233,ml "_law_fit" 591 "_law_fit" 592 593 210 2 0 0 3 230 true 276 231 232 594 210 595),
 (234,fA (hI 23) "_law_fit" .none "law_op0239_01" 549 233),
 (240,ic "_law_ends" 597 "_law_ends" 598 599 213 1 0 0 3 235 true 276 236 237 238 239 605 213 606),
 (241,fA (hI 24) "_law_ends" .none "law_op0239_01" 549 240),
 (245,ml "_law_run" 608 "_law_run" 609 610 220 1 0 0 3 242 true 276 243 244 611 220 612),
 (246,fA (hI 25) "_law_run" .none "law_op0239_01" 549 245),
 (250,ml "_law_cut" 614 "_law_cut" 615 616 234 1 0 0 3 247 true 276 248 249 617 234 618),
 (251,fA (hI 26) "_law_cut" .none "law_op0239_01" 549 250),
 (255,ml "_law_order" 620 "_law_order" 621 622 242 2 0 0 3 252 true 276 253 254 623 242 624),
 (256,fA (hI 27) "_law_order" .none "law_op0239_01" 549 255),
 (260,ml "_law_least" 626 "_law_least" 627 628 246 3 0 0 3 257 true 276 258 259 629 246 630),
 (261,fA (hI 28) "_law_least" .none "law_op0239_01" 549 260),
 (265,ml "_law_lay" 632 "_law_lay" 633 634 258 2 0 0 3 262 true 276 263 264 635 258 636),
 (266,fA (hI 29) "_law_lay" .none "law_op0239_01" 549 265),
 (270,ml "law" 638 "law" 639 640 261 1 0 0 3 267 true 276 268 269 641 261 642),
 (271,fA (hI 30) "law" .none "law_op0239_01" 549 270)]
noncomputable abbrev UD:List Addr:=[2,3,37,38,42,43,49,50,56,57,63,64,65,66,72,73,77,78,92,93,96,97,98,99,100,103,123,129,130,136,137,143,144,148,149,155,156,162,163,169,170,176,177,183,184,190,191,193,194,202,203,209,210,214,215,221,222,228,229,233,234,240,241,245,246,250,251,255,256,260,261,265,266,270,271]
noncomputable abbrev mq:Program:={PySem.Challenge.pw_op0239_01 with main:={PySem.Challenge.pw_op0239_01.main with body:=[0,1,3,4,5,6,8,10,12,13,14,15,16,18,19,20,21,22,23,24,25,26,27,28,29,30].map hI}}
noncomputable abbrev loose:List Str:=["IPV4_RE","_initial_missing","reduce","_NodeInfo"]
noncomputable abbrev oj:Hook:=kmHook KK UD (λ_=>by kernel_rfl) [253,217]
theorem O2:LeftO PySem.Challenge.rw_op0239_01.row.toRowW.prog mq loose (λs=>xlAt mq [] s&&recOk (RowW.records PySem.Challenge.rw_op0239_01.row.toRowW) s) (Hook.obs oj) (Hook.val oj) 3492:=by
 intro w;kernel_rfl
theorem Of:PySem.Challenge.rw_op0239_01.wellSaid=true:=by kernel_rfl
theorem U9(h:∀d uH,defOf mq PySem.Challenge.rw_op0239_01.row.name=some (d,uH)->WalkO mq loose (XL mq []) (Hook.says oj) PySem.Challenge.rw_op0239_01.row.toRowW d uH λf vs=>PySem.call f vs):PySem.Challenge.rw_op0239_01.Holds:=by
 w_on
 refine holds_law Of λVd=>?_;refine holds_open (q:=mq) (loose:=loose) (Xt:=λs=>xlAt mq [] s&&recOk (RowW.records PySem.Challenge.rw_op0239_01.row.toRowW) s) (XP:=XL mq []) (Yf:=Hook.obs oj) (Ya:=Hook.val oj) (YP:=Hook.says oj) (N:=3492) O2 (Hook.of oj) (Hook.keeps oj) (λs e=>xl_of s (Bool.and_eq_true_iff.mp e).1) XL.keeps (by rfl) (by rfl) (by rfl) (λs e=>recFacts_of (Bool.and_eq_true_iff.mp e).2) (by rfl) (by first |assumption |decide+kernel) (by decide+kernel) ⟨rfl,rfl,rfl,rfl,rfl,by decide+kernel⟩ ?hw ?U
 case hw=>w_witness2
 case U=>exact h _ _ rfl
local macro_rules | `(tactic|walk_at"o")=> `(tactic|first
 |(with_reducible first
  |assumption
  |exact bH (a:=OfNat.ofNat _) (by assumption) rfl
  |exact od (a:=OfNat.ofNat _) (by assumption) rfl
  |exact GB (a:=OfNat.ofNat _) (by assumption) rfl
  |exact fW rfl
  |exact Nat.le_of_lt (by assumption))
 |((with_reducible repeat (first |(rename Exists _=>dr;clear dr) |(rename ∀_,_=>dr;clear dr) |(rename @Eq (_->_) _ _=>dr;clear dr)));lia) |lia |omega)
def cf(b:Addr):Prop:=b=217\/b=253
noncomputable abbrev KF(w:World):Frag:=KK w.params
inductive ak where
 |none
 |bool (b:Bool)
 |int (i:Int)
 |str (x:Str)
 |list (l:List ak)
 |tup (l:List ak)
 |dict (ks:List Str) (l:List ak)
 |val (v:Value)
 |bw (l:List ak)
 |eH (ks:List Str) (l:List ak)
 |obj (T:String)
 |gY (a b c:Int)
 |lam (P:FuncData->Prop)
def qu(cP:Obj)(q:Str):Prop:=cP.cls= .type "code"/\∃vs t,cP.data= .fields vs/\vs[1]? =some (.str q t)
def KeysAre(w:World):List Str->List DictEntry->Prop
 |[],es=>es=[]
 |k::ks,es=>∃e r,es=e::r/\(∃t,e.key= .str k t)/\e.hash=hashStr w k/\KeysAre w ks r
mutual
def a6(w:World)(h:Heap)(W:Addr->Prop):ak->Value->Prop
 | .none,v=>v= .none
 | .bool b,v=>v= .bool b
 | .int i,v=>∃t,v= .int i t
 | .str x,v=>∃t,v= .str x t
 | .list l,v=>∃a vs n,v= .ref a/\¬W a/\h.get? a=some {cls:= .type "list",data:= .seq ⟨vs⟩ n}/\bJ w h W l vs
 | .tup l,v=>∃a vs n,v= .ref a/\¬W a/\h.get? a=some {cls:= .type "tuple",data:= .seq ⟨vs⟩ n}/\bJ w h W l vs
 | .dict ks l,v=>∃a es n,v= .ref a/\¬W a/\h.get? a=some {cls:= .type "dict",data:= .dict ⟨es⟩ n}/\(KeysAre w ks es/\ks.Nodup/\(a==sysModules)=false)/\bJ w h W l (es.map (·.val))
 | .val u,v=>v=u
 | .bw l,v=>∃a vs n,v= .ref a/\W a/\h.get? a=some {cls:= .type "list",data:= .seq ⟨vs⟩ n}/\bJ w h W l vs
 | .eH ks l,v=>∃a es n,v= .ref a/\W a/\h.get? a=some {cls:= .type "dict",data:= .dict ⟨es⟩ n}/\(KeysAre w ks es/\ks.Nodup/\(a==sysModules)=false)/\bJ w h W l (es.map (·.val))
 | .obj T,v=>∃a o,v= .ref a/\¬W a/\h.get? a=some o/\o.cls= .type T
 | .gY i j k,v=>∃a t u x,v= .ref a/\¬W a/\h.get? a=some {cls:= .type "range",data:= .fields #[.int i t,.int j u,.int k x]}
 | .lam P,v=>∃a o fd c cP,v= .ref a/\(¬W a/\h.get? a=some o/\o.cls= .type "function")/\(¬W c/\h.get? c=some cP/\qu cP fd.qualname)/\o.data= .func fd/\fd.code= .ref c/\P fd
def bJ(w:World)(h:Heap)(W:Addr->Prop):List ak->List Value->Prop
 |[],vs=>vs=[]
 |p::ps,vs=>∃v r,vs=v::r/\a6 w h W p v/\bJ w h W ps r
end
def BM(h h':Heap):Prop:=∀b o,o.cls≠ .none->h.get? b=some o->h'.get? b=some o
theorem eG{t:String}:Value.type t≠Value.none:=λq=>by injection q
mutual
def cb:ak->Prop
 | .list l=>dA l
 | .tup l=>dA l
 | .dict _ l=>dA l
 | .bw _=>False
 | .eH _ _=>False
 |_=>True
def dA:List ak->Prop
 |[]=>True
 |p::ps=>cb p/\dA ps
end
mutual
theorem vR{w:World}{h h':Heap}{W W':Addr->Prop}{c:Prop}(k:∀b o,¬W b->o.cls≠ .none->h.get? b=some o->h'.get? b=some o/\¬W' b)(d:¬c->∀b o,W b->o.cls≠ .none->h.get? b=some o->h'.get? b=some o/\W' b):∀{p:ak} {v:Value},(c->cb p)->a6 w h W p v->a6 w h' W' p v
 | .none,_,_,x=>x
 | .bool _,_,_,x=>x
 | .int _,_,_,x=>x
 | .str _,_,_,x=>x
 | .val _,_,_,x=>x
 | .list _,_,f,x=>by
  refine cg x λa vs n e aA aj hs=>?_;exact⟨a,vs,n,e,(k _ _ aA eG aj).2,(k _ _ aA eG aj).1,oM k d f hs⟩
 | .tup _,_,f,x=>by
  refine cg x λa vs n e aA aj hs=>?_;exact⟨a,vs,n,e,(k _ _ aA eG aj).2,(k _ _ aA eG aj).1,oM k d f hs⟩
 | .dict _ _,_,f,x=>by
  refine iA x λa vs n e aA aj ar hs=>?_;exact⟨a,vs,n,e,(k _ _ aA eG aj).2,(k _ _ aA eG aj).1,ar,oM k d f hs⟩
 | .bw _,_,f,x=>by
  refine cg x λa vs n e aA aj hs=>?_;exact⟨a,vs,n,e,(d f _ _ aA eG aj).2,(d f _ _ aA eG aj).1,oM k d (λq=>(f q).elim) hs⟩
 | .eH _ _,_,f,x=>by
  refine iA x λa vs n e aA aj ar hs=>?_;exact⟨a,vs,n,e,(d f _ _ aA eG aj).2,(d f _ _ aA eG aj).1,ar,oM k d (λq=>(f q).elim) hs⟩
 | .obj _,_,_,x=>by
  refine h8 x λa o e aA aj U=>?_;exact⟨a,o,e,(k _ _ aA (U▸eG) aj).2,(k _ _ aA (U▸eG) aj).1,U⟩
 | .gY _ _ _,_,_,z=>by
  refine uo z λa t u x e aA aj=>?_;exact⟨a,t,u,x,e,(k _ _ aA eG aj).2,(k _ _ aA eG aj).1⟩
 | .lam _,_,_,x=>by
  refine wO x λa o fd c cP e x y r=>?_;have U:=k _ _ x.1 (x.2.2▸eG) x.2.1;have fq:=k _ _ y.1 (y.2.2.1▸eG) y.2.1;exact⟨a,o,fd,c,cP,e,⟨U.2,U.1,x.2.2⟩,⟨fq.2,fq.1,y.2.2⟩,r⟩
theorem oM{w:World}{h h':Heap}{W W':Addr->Prop}{c:Prop}(k:∀b o,¬W b->o.cls≠ .none->h.get? b=some o->h'.get? b=some o/\¬W' b)(d:¬c->∀b o,W b->o.cls≠ .none->h.get? b=some o->h'.get? b=some o/\W' b):∀{p:List ak} {v:List Value},(c->dA p)->bJ w h W p v->bJ w h' W' p v
 |[],_,_,x=>x
 |_::_,_,f,z=>by
  refine bj z λv r e x y=>?_;exact⟨v,r,e,vR k d (λq=>(f q).1) x,oM k d (λq=>(f q).2) y⟩
end
variable {w:World} {h h' h₀ h₁:Heap} {dM aJ V W W' W₀:Addr->Prop}
theorem a6.mono(k:BM h h'){p:ak}{v:Value}:a6 w h W p v->a6 w h' W p v:=
 vR (c:=False) (λb o n c e=>⟨k b o c e,n⟩) (λ_ b o n c e=>⟨k b o c e,n⟩) False.elim
theorem bJ.mono(k:BM h h'){p:List ak}{v:List Value}:bJ w h W p v->bJ w h' W p v:=
 oM (c:=False) (λb o n c e=>⟨k b o c e,n⟩) (λ_ b o n c e=>⟨k b o c e,n⟩) False.elim
theorem a6.upd(k:∀b o,¬W b->o.cls≠ .none->h.get? b=some o->h'.get? b=some o/\¬W' b){p:ak}{v:Value}(f:cb p):a6 w h W p v->a6 w h' W' p v:=
 vR (c:=True) k (λq=>(q trivial).elim) λ_=>f
theorem bJ.upd(k:∀b o,¬W b->o.cls≠ .none->h.get? b=some o->h'.get? b=some o/\¬W' b){p:List ak}{v:List Value}(f:dA p):bJ w h W p v->bJ w h' W' p v:=
 oM (c:=True) k (λq=>(q trivial).elim) λ_=>f
theorem a6.chg(k:∀b o,o.cls≠ .none->h.get? b=some o->h'.get? b=some o/\(W b↔W' b)){p:ak}{v:Value}:a6 w h W p v->a6 w h' W' p v:=
 vR (c:=False) (λb o n c e=>⟨(k b o c e).1,λq=>n ((k b o c e).2.mpr q)⟩) (λ_ b o n c e=>⟨(k b o c e).1,(k b o c e).2.mp n⟩) False.elim
theorem bJ.len:∀{l:List ak} {vs:List Value},bJ w h W l vs->l.length=vs.length:=by
 intro a9;induction a9 with
 |nil=>
  intro _ x;rw[show _=[] from x];rfl
 |cons _ _ aw=>
  intro _ ra;refine bj ra λv r e _ y=>?_;rw[e,dI,dI,aw y]
theorem bJ.at:∀{l:List ak} {vs:List Value},bJ w h W l vs->∀{i:Nat} {p:ak},l[i]? =some p->∃v,vs[i]? =some v/\a6 w h W p v:=by
 intro l;induction l with
 |nil=>intro vs _ i p e;injection e
 |cons xE l aw=>
  intro vs x i p q;refine bj x λv r e x y=>?_;rcases i with _ |i
  ·obtain rfl:=bT q;exact⟨v,by rw[e];rfl,x⟩
  ·refine ah (aw y (i:=i) (p:=p) (by exact q)) λhV ab ae=>?_;exact⟨hV,by rw[e];exact ab,ae⟩
theorem bJ.at':∀{l:List ak} {vs:List Value},bJ w h W l vs->∀{i:Nat} {v:Value},vs[i]? =some v->∃p,l[i]? =some p/\a6 w h W p v:=by
 intro l;induction l with
 |nil=>intro vs x i v e;rw[show _=[] from x] at e;injection e
 |cons p l aw=>
  intro vs x i u q;refine bj x λv r e x y=>?_;rw[e] at q;rcases i with _ |i
  ·obtain rfl:=bT q;exact⟨p,rfl,x⟩
  ·refine ah (aw y (i:=i) (v:=u) (by exact q)) λhV ab ae=>?_;exact⟨hV,by exact ab,ae⟩
theorem bJ.app:∀{l l':List ak} {vs eh:List Value},bJ w h W l vs->bJ w h W l' eh->bJ w h W (l++l') (vs++eh):=by
 intro a9;induction a9 with
 |nil=>
  intro _ _ _ x y;rw[show _=[] from x];exact y
 |cons _ _ aw=>
  intro _ _ _ R5 z;refine bj R5 λv r e x y=>?_;rw[e];exact⟨v,_,rfl,x,aw y z⟩
theorem bJ.one{p:ak}{v:Value}(x:a6 w h W p v):bJ w h W [p] [v]:=⟨v,[],rfl,x,rfl⟩
def gd(h h':Heap):Prop:=∀b o,¬cf b->h.get? b=some o->h'.get? b=some o
theorem gd.refl(h:Heap):gd h h:=λ_ _ _ e=>e
theorem gd.trans{hc:Heap}(x:gd h h')(y:gd h' hc):gd h hc:=λb o I e=>y b o I (x b o I e)
theorem gd.of(k:∀b o,h.get? b=some o->h'.get? b=some o):gd h h':=λb o _ e=>k b o e
structure Ext (s s':Shared):Prop where
 same:∃h tk,s'={s with heap:=h,toks:=tk}
 keep:gd s.heap s'.heap
theorem Ext.refl(s:Shared):Ext s s:=⟨⟨s.heap,s.toks,rfl⟩,.refl _⟩
theorem Ext.trans(x:Ext s s')(y:Ext s' b2):Ext s b2:=by
 refine cn x.same λh tk aU=>?_;subst aU;refine cn y.same λh' oc a7=>?_;subst a7;exact⟨⟨h',oc,rfl⟩,x.keep.trans y.keep⟩
theorem Ext.tok(s:Shared)(tk:Nat):Ext s {s with toks:=tk}:=⟨⟨s.heap,tk,rfl⟩,.refl _⟩
variable {firstLine i n tk:Nat}
theorem Ext.keeps(k:∀b o,s.heap.get? b=some o->h.get? b=some o):Ext s {s with heap:=h,toks:=tk}:=⟨⟨h,tk,rfl⟩,.of k⟩
theorem Ext.push(s:Shared)(o:Obj):Ext s {s with heap:=s.heap.push o}:=⟨⟨_,_,rfl⟩,.of λ_ _ e=>dV _ e⟩
def tQ(h:Heap)(c:Addr)(q:Str):Prop:=∃o vs t,h.get? c=some o/\o.cls= .type "code"/\o.data= .fields vs/\vs[1]? =some (.str q t)
def wg(h:Heap)(a:Addr)(ps:Array Value):Prop:=
 ps= #[]\/∃c,(a=217/\ps= #[rawInt 203,rawInt 18,.ref c]/\tQ h c "_law_climb.<locals>.<lambda>")\/(a=253/\ps= #[rawInt 245,rawInt 29,.ref c]/\tQ h c "_law_order.<locals>.<lambda>")
theorem wg.of{a:Addr}{ps:Array Value}(k:∀b o,o.cls= .type "code"->h.get? b=some o->h'.get? b=some o)(x:wg h a ps):wg h' a ps:=by
 rcases x with rfl |⟨c,⟨af,aa,o,vs,t,ab,ae,aD⟩ |⟨af,aa,o,vs,t,ab,ae,aD⟩⟩
 ·exact .inl rfl
 ·exact .inr ⟨c,.inl ⟨af,aa,o,vs,t,k _ _ ae ab,ae,aD⟩⟩
 ·exact .inr ⟨c,.inr ⟨af,aa,o,vs,t,k _ _ ae ab,ae,aD⟩⟩
structure G (w:World) (h:Heap):Prop where
 K:(KF w).In h
 B:∃lA,h.Ns builtinsNs lA/\∀x:Str,x≠"__name__"->lA x=bootBuiltins x
 T:∀a,cf a->∃ps,h.get? a=some (tabObj ps)/\wg h a ps
 M:∃o,h.get? 4=some o/\o.cls= .type "module"/\o.dict=some builtinsNs/\o.data= .plain
theorem G.keeps(g:G w h)(k:∀b o,h.get? b=some o->h'.get? b=some o):G w h' where
 K:=g.K.keeps k
 B:=ah (g.B) λlA x y=>⟨lA,x.keeps k,y⟩
 T:=λa af=>ah (g.T a af) λps ab ae=>⟨ps,k _ _ ab,ae.of λb o _ e=>k b o e⟩
 M:=ah (g.M) λo e r=>⟨o,k _ _ e,r⟩
theorem G.push(g:G w h)(o:Obj):G w (h.push o):=g.keeps λ_ _ e=>dV _ e
theorem G.fY(g:G w h){b:Addr}{o:Obj}(e:h.get? b=some o)(U:o.cls≠ .none):¬cf b:=λq=>by
 refine ah (g.T b q) λps ab _=>?_;rw[e] at ab;obtain rfl:=bT ab;exact U rfl
theorem G.mc(g:G w h)(x:gd h h'):BM h h':=λb o U e=>x b o (g.fY e U) e
theorem G.fu(g:G w h){b:Addr}(I:h.get? b=none):¬cf b:=λq=>by
 refine ah (g.T b q) λps ab _=>?_;rw[I] at ab;injection ab
theorem a6.ext{p:ak}{v:Value}(x:a6 w s.heap W p v)(g:G w s.heap)(e:Ext s s'):a6 w s'.heap W p v:=x.mono (g.mc e.keep)
theorem bJ.ext{p:List ak}{v:List Value}(x:bJ w s.heap W p v)(g:G w s.heap)(e:Ext s s'):bJ w s'.heap W p v:=x.mono (g.mc e.keep)
structure bK (n:Nat) (A:Around):Prop where
 depth:A.depth+n<=700
 units:A.units+10*n<=9000
 calm:A.handled=Option.none
theorem bK.le{m:Nat}(r:bK n A)(h:m<=n):bK m A:=⟨by have:=r.depth;walk_at"o",by have:=r.units;walk_at"o",r.calm⟩
theorem bK.lim(r:bK n A):A.depth < recursionLimit:=by have:=r.depth;show _ < 1000;walk_at"o"
theorem bK.line(r:bK n A):A.units < cLine:=by have:=r.units;show _ < 9900;walk_at"o"
variable {cenv env:Env}
theorem bK.in(r:bK (n+1) A):bK n (A.deeper env):=⟨by have:=r.depth;show A.depth+1+n<=700;walk_at"o",by have:=r.units;show A.units+3+10*n<=9000;walk_at"o",r.calm⟩
theorem bK.in1(r:bK (n+1) A):bK n A.in1:=⟨by have:=r.depth;show A.depth+n<=700;walk_at"o",by have:=r.units;show A.units+1+10*n<=9000;walk_at"o",r.calm⟩
def hb(env:Env)(h:Heap)(x:Str)(v:Value):Prop:=
 (env.kindOf x=some .local/\∃m,h.Ns env.locals m/\m x=some v)\/
 ((env.kindOf x=some .cell\/(env.kindOf x=some .free/\(x==("__classdict__":Str))=false))/\∃c,env.cells.lookup x=some c/\h.IsCell c (some v))
noncomputable abbrev Loc:=List (Str×ak)
def cx(o:Obj):Prop:=o.cls≠ .type "code"\/∀vs,o.data≠ .fields vs
abbrev eB(W:Addr->Prop)(h:Heap):Prop:=∀a,W a->(∃o,h.get? a=some o/\cx o)/\¬cf a
theorem eB.kt(x:eB W h)(k:gd h h'):eB W h':=λa af=>aE (x a af) λR0 I=>ah R0 λo e cF=>⟨⟨o,k _ _ I e,cF⟩,I⟩
theorem eB.not(x:eB W h){a:Addr}(e:h.get? a=none):¬W a:=λq=>by
 refine aE (x _ q) λbz _=>?_;refine ah bz λo aO cF=>?_;rw[e] at aO;injection aO
theorem er(h:Heap):h.get? h.objs.size=none:=by
 induction e:h.get? h.objs.size with
 |none=>rfl
 |some o=>exact absurd (lt_size e) (Nat.lt_irrefl _)
theorem eB.fresh(x:eB W h):¬W h.objs.size:=x.not (er h)
structure St (w:World) (env:Env) (W:Addr->Prop) (m:Loc) (h:Heap):Prop where
 fn:env.scope.kind= .function
 gl:env.globals=3
 bi:env.builtins=0
 g:G w h
 low:eB W h
 nl:¬cf env.locals
 cY:∀n c,env.cells.lookup n=some c->¬cf c
 has:∀x p,m.lookup x=some p->∃v,hb env h x v/\a6 w h W p v
theorem hb.kt{x:Str}{v:Value}(k:gd h h')(nl:¬cf env.locals)(cY:∀n c,env.cells.lookup n=some c->¬cf c)(q:hb env h x v):hb env h' x v:=by
 rcases q with⟨bP,m,aA,aq⟩ |⟨bP,c,U,o,aj,hd⟩
 ·exact .inl ⟨bP,m,aA.at' λo e=>k _ _ nl e,aq⟩
 ·exact .inr ⟨bP,c,U,o,k _ _ (cY _ _ U) aj,hd⟩
variable {m m' mf m₁:Loc}
theorem St.kt(x:St w env W m h)(k:gd h h')(g:G w h'):St w env W m h' where
 fn:=x.fn
 gl:=x.gl
 bi:=x.bi
 g:=g
 low:=x.low.kt k
 nl:=x.nl
 cY:=x.cY
 has:=λy p aa=>ah (x.has y p aa) λv ab ae=>⟨v,ab.kt k x.nl x.cY,ae.mono (x.g.mc k)⟩
theorem St.ext(x:St w env W m s.heap)(e:Ext s s')(g:G w s'.heap):St w env W m s'.heap:=x.kt e.keep g
def Ev(prog:Program)(w:World)(n:Nat)(env:Env)(m:Loc)(e:Expr)(p:ak):Prop:=
 ∀(W:Addr->Prop) (A:Around) (s:Shared) (Q:Value->Shared->Prop) (E:Value->Shared->Prop),bK n A->St w env W m s.heap->
  (∀v s',a6 w s'.heap W p v->Ext s s'->G w s'.heap->Q v s')->wpAny (model prog w) A (eval e env) Q E s
variable {apos zV pU bW cc fN fy ib mr pV tc s6 pos px py dy bN hq sp fQ lB:Pos} {q q':ak} {op:CmpOp}
theorem Ev.int{i:Int}{k:Nat} :Ev prog w n env m (.Constant (.int i) k pos) (.int i):=λW A s Q E r x h=>
 wpAny_Constant_int (h _ _ ⟨_,rfl⟩ (.tok s _) x.g)
theorem Ev.str{y:Str}{k:Nat} :Ev prog w n env m (.Constant (.str y) k pos) (.str y):=λW A s Q E r x h=>
 Calls.Constant_str (h _ _ ⟨_,rfl⟩ (.tok s _) x.g)
theorem Ev.bool{b:Bool}{k:Nat} :Ev prog w n env m (.Constant (.bool b) k pos) (.bool b):=λW A s Q E r x h=>
 bu (h _ _ rfl (.refl s) x.g)
theorem Ev.none{k:Nat} :Ev prog w n env m (.Constant .none k pos) .none:=λW A s Q E r x h=>
 bu (h _ _ rfl (.refl s) x.g)
theorem hb.load{y:Str}{v:Value}{M:Model}(fn:env.scope.kind= .function)(x:hb env s.heap y v)(h:Q v s):wpAny M A (loadName env y) Q E s:=by
 rcases x with⟨bP,m,aA,aq⟩ |⟨bP |⟨bP,cJ⟩,c,U,aq⟩
 ·exact wpAny_loadName_local fn bP aA aq h
 ·exact wpAny_loadName_cell fn bP U aq h
 ·exact wpAny_loadName_free fn bP U aq h cJ
theorem Ev.name{y:Str}{p:ak}(ao:m.lookup y=some p)(hd:(y==("__debug__":Str))=false):Ev prog w n env m (.Name y pos) p:=λW A s Q E r x h=>by
 refine ah (x.has y p ao) λv ab ae=>?_;exact wpAny_Name (ab.load x.fn (h _ _ ae (.refl s) x.g)) hd
theorem fC{y:Str}{v:Value}(ar:env.kindOf y=some .globalImplicit)(aq:nsIn (KF w) 3 y=some (some v))(hd:(y==("__debug__":Str))=false):Ev prog w n env m (.Name y pos) (.val v):=λW A s Q E r x h=>by
 refine Calls.Name_function_global x.fn ar ?_ hd;unfold loadGlobal;refine aH ?_;rw[x.gl];refine looks_nsIn x.g.K aq A _ E s (λ_ _ e=>e) ?_;exact bu (h _ _ rfl (.refl s) x.g)
theorem yo{y:Str}{i:Int}{t:Tok}(ar:env.kindOf y=some .globalImplicit)(aq:nsIn (KF w) 3 y=some (some (.int i t)))(hd:(y==("__debug__":Str))=false):Ev prog w n env m (.Name y pos) (.int i):=λW A s Q E r x h=>
 fC ar aq hd W A s Q E r x λv s' jr=>h v s' ⟨t,jr⟩
theorem ft{y:Str}{v:Value}(ar:env.kindOf y=some .globalImplicit)(aq:nsIn (KF w) 3 y=some none)(I:bootBuiltins y=some v)(av:y≠"__name__")(hd:(y==("__debug__":Str))=false):Ev prog w n env m (.Name y pos) (.val v):=λW A s Q E r x h=>by
 refine Calls.Name_function_global x.fn ar ?_ hd;unfold loadGlobal;refine aH ?_;rw[x.gl,x.bi];refine looks_nsIn x.g.K aq A _ E s (λ_ _ e=>e) ?_;refine ah x.g.B λlA ab ae=>?_;refine aH (wpAny_nsGet ab ?_);rw[ae y av,I];exact bu (h _ _ rfl (.refl s) x.g)
def cA(prog:Program)(w:World)(op:Value->Value->Sem Value)(p q r:ak):Prop:=
 ∀(W:Addr->Prop) (A:Around) (s:Shared) (a b:Value) (Q:Value->Shared->Prop) (E:Value->Shared->Prop),bK 0 A->G w s.heap->eB W s.heap->a6 w s.heap W p a->a6 w s.heap W q b->
  (∀v s',a6 w s'.heap W r v->Ext s s'->G w s'.heap->Q v s')->wpAny (model prog w) A (op a b) Q E s
theorem d6{l r:Expr}{op:Operator}{p z:ak}(ao:Ev prog w n env m l p)(bf:Ev prog w n env m r q)(aj:cA prog w (binaryOp op) p q z):Ev prog w n env m (.BinOp l op r pos) z:=λW A s Q E ai x h=>by
 refine wpAny_BinOp (ao W A s _ E ai x λa au af az aF=>bf W A au _ E ai (x.ext az aF) λb aL I aR aY=>?_);exact aj W A aL a b Q E (ai.le (c0 _)) aY ((x.ext az aF).ext aR aY).low (af.ext aF aR) I λv s' aq e g=>h v s' aq ((az.trans aR).trans e) g
theorem Ev.cmp{l r:Expr}{p z:ak}(ao:Ev prog w n env m l p)(bf:Ev prog w n env m r q)(aj:cA prog w (compareOp op) p q z)(hm:behindInMarks op r=false):Ev prog w n env m (.Compare l [op] [r] pos) z:=λW A s Q E ai x h=>by
 refine wpAny_Compare1 (ao W A s _ E ai x λa au af az aF=>bf W A au _ E ai (x.ext az aF) λb aL I aR aY=>?_) hm;exact aj W A aL a b Q E (ai.le (c0 _)) aY ((x.ext az aF).ext aR aY).low (af.ext aF aR) I λv s' aq e g=>h v s' aq ((az.trans aR).trans e) g
theorem p6{a b:Int}:cA prog w (binaryOp .Add) (.int a) (.int b) (.int (a+b)):=λW A s _ _ Q E r g _ fm hH h=>by
 refine aP fm λt e=>?_;refine aP hH λu aO=>?_;subst e aO;exact PyProof.Rows.add_int (h _ _ ⟨_,rfl⟩ (.tok s _) g)
theorem rN{a b:Int}:cA prog w (binaryOp .Sub) (.int a) (.int b) (.int (a - b)):=λW A s _ _ Q E r g _ jW l5 h=>by
 refine aP jW λt e=>?_;refine aP l5 λu aO=>?_;subst e aO;exact PyProof.Rows.sub_int (h _ _ ⟨_,rfl⟩ (.tok s _) g)
theorem p5{a b:Int}(I:b≠0):cA prog w (binaryOp .Mod) (.int a) (.int b) (.int (a.fmod b)):=λW A s _ _ Q E r g _ nU n1 h=>by
 refine aP nU λt e=>?_;refine aP n1 λu aO=>?_;subst e aO;exact PyProof.Rows.mod_int I (h _ _ ⟨_,rfl⟩ (.tok s _) g)
theorem vL{a b:Int}(I:b≠0)(hs:b.natAbs < 1073741824):cA prog w (binaryOp .FloorDiv) (.int a) (.int b) (.int (a.fdiv b)):=λW A s _ _ Q E r g _ n4 oh h=>by
 refine aP n4 λt e=>?_;refine aP oh λu aO=>?_;subst e aO;exact PyProof.Rows.floordiv_int I (h _ _ ⟨_,rfl⟩ (.tok s _) g) (.inl (PyProof.noPylong_small hs))
theorem JC{a b:Int}(h0:0<=b)(ab:b<=1000000)(af:a.natAbs < 2 ^ 64):cA prog w (binaryOp .Pow) (.int a) (.int b) (.int (a ^ b.toNat)):=λW A s _ _ Q E r g _ n6 uv h=>by
 refine aP n6 λt e=>?_;refine aP uv λu aO=>?_;subst e aO;exact PyProof.Rows.pow_int_small h0 ab af (h _ _ ⟨_,rfl⟩ (.tok s _) g)
theorem kZ{a b:Str}(hz:a.length+b.length<=sizeLine):cA prog w (binaryOp .Add) (.str a) (.str b) (.str (a++b)):=λW A s _ _ Q E r g _ ux zQ h=>by
 refine aP ux λt e=>?_;refine aP zQ λu aO=>?_;subst e aO;exact PyProof.Rows.add_str (λeV tk=>h _ _ ⟨_,rfl⟩ (.tok s _) g) hz
theorem rP{a b:Int}:cA prog w (compareOp .Eq) (.int a) (.int b) (.bool (a==b)):=λW A s _ _ Q E r g _ QK P0 h=>by
 refine aP QK λt e=>?_;refine aP P0 λu aO=>?_;subst e aO;exact PyProof.Rows.eq_int (h _ _ rfl (.refl s) g)
theorem yF{a b:Int}:cA prog w (compareOp .NotEq) (.int a) (.int b) (.bool (a != b)):=λW A s _ _ Q E r g _ Rt Rp h=>by
 refine aP Rt λt e=>?_;refine aP Rp λu aO=>?_;subst e aO;exact PyProof.Rows.ne_int (h _ _ rfl (.refl s) g)
theorem yB{a b:Int}:cA prog w (compareOp .Lt) (.int a) (.int b) (.bool (decide (a < b))):=λW A s _ _ Q E r g _ QD QG h=>by
 refine aP QD λt e=>?_;refine aP QG λu aO=>?_;subst e aO;exact PyProof.Rows.lt_int (h _ _ rfl (.refl s) g)
theorem J7{a b:Int}:cA prog w (compareOp .GtE) (.int a) (.int b) (.bool (decide (b<=a))):=λW A s _ _ Q E r g _ Rq QS h=>by
 refine aP Rq λt e=>?_;refine aP QS λu aO=>?_;subst e aO;exact PyProof.Rows.ge_int (h _ _ rfl (.refl s) g)
theorem tC{a b:Str}:cA prog w (compareOp .Eq) (.str a) (.str b) (.bool (a==b)):=λW A s _ _ Q E r g _ Rc Qz h=>by
 refine aP Rc λt e=>?_;refine aP Qz λu aO=>?_;subst e aO;exact PyProof.Rows.eq_str (h _ _ rfl (.refl s) g)
theorem Dp{a b:Str}:cA prog w (compareOp .NotEq) (.str a) (.str b) (.bool (a != b)):=λW A s _ _ Q E r g _ PE Rb h=>by
 refine aP PE λt e=>?_;refine aP Rb λu aO=>?_;subst e aO;exact PyProof.Rows.ne_str (h _ _ rfl (.refl s) g)
theorem tw{a b:Bool}:cA prog w (compareOp .Is) (.bool a) (.bool b) (.bool (a==b)):=λW A s _ _ Q E r g _ e aO h=>by
 subst e aO;exact wpAny_is_plain rfl (h _ _ (by show _=Value.bool _;(induction a)<;>(induction b)<;>rfl) (.refl s) g)
theorem Cs{a b:Bool}:cA prog w (compareOp .IsNot) (.bool a) (.bool b) (.bool (!(a==b))):=λW A s _ _ Q E r g _ e aO h=>by
 subst e aO;exact wpAny_isNot_plain rfl (h _ _ (by show _=Value.bool _;(induction a)<;>(induction b)<;>rfl) (.refl s) g)
def gR(prog:Program)(w:World)(p:ak)(b:Bool):Prop:=
 ∀(W:Addr->Prop) (A:Around) (s:Shared) (a:Value) (Q:Bool->Shared->Prop) (E:Value->Shared->Prop),bK 0 A->G w s.heap->a6 w s.heap W p a->
  (∀s',Ext s s'->G w s'.heap->Q b s')->wpAny (model prog w) A (truthy a) Q E s
theorem gR.bool{b:Bool}:gR prog w (.bool b) b:=λW A s _ Q E r g e h=>by subst e;exact wpAny_truthy_bool (h _ (.refl s) g)
theorem gR.none:gR prog w .none false:=λW A s _ Q E r g e h=>by subst e;exact PyProof.Rows.truthy_none (h _ (.refl s) g)
def bV(prog:Program)(w:World)(n:Nat)(env:Env)(m:Loc)(e:Expr)(b:Bool):Prop:=
 ∀(W:Addr->Prop) (A:Around) (s:Shared) (Q:Bool->Shared->Prop) (E:Value->Shared->Prop),bK n A->St w env W m s.heap->
  (∀s',Ext s s'->G w s'.heap->Q b s')->wpAny (model prog w) A (isTrue e env (eval e env)) Q E s
theorem bV.plain{e:Expr}{p:ak}{b:Bool}(he:Ev prog w n env m e p)(aM:gR prog w p b)
  (hs:∀whole,isTrue e env whole=(do let v<-whole;standAt e.pos;holding [v] (truthy v))):bV prog w n env m e b:=λW A s Q E ai x h=>by
 rw[hs];refine aH (he W A s _ E ai x λv au aq az aF=>aH (wpAny_standAt (wpAny_holding ?_)));exact aM W A au v Q E (ai.le (c0 _)) aF aq λs' e g=>h s' (az.trans e) g
theorem bV.cmp{l r:Expr}{p:ak}{b:Bool}(ao:Ev prog w n env m l p)(bf:Ev prog w n env m r q)(aj:cA prog w (compareOp op) p q (.bool b))(hm:behindInMarks op r=false):bV prog w n env m (.Compare l [op] [r] pos) b:=λW A s Q E ai x h=>by
 refine wpAny_isTrue_Compare1 (ao W A s _ E ai x λa au af az aF=>bf W A au _ E ai (x.ext az aF) λc aL I aR aY=>?_) hm;refine aj W A aL a c _ E (ai.le (c0 _)) aY ((x.ext az aF).ext aR aY).low (af.ext aF aR) I λv s' aq e g=>?_;rw[show v= .bool b from aq];exact wpAny_truthy_bool (h s' ((az.trans aR).trans e) g)
theorem bV.not{e:Expr}{b:Bool}(he:bV prog w n env m e b):bV prog w n env m (.UnaryOp .Not e pos) (!b):=λW A s Q E ai x h=>by
 show wpAny _ _ (do return !(<-isTrue e env (eval e env))) _ _ _;exact aH (he W A s _ E ai x λs' e g=>bu (h s' e g))
theorem rY{a b:Expr}{x y:Bool}(af:bV prog w n env m a x)(I:x=false->bV prog w n env m b y):bV prog w n env m (.BoolOp .Or [a,b] pos) (x||y):=λW A s Q E ai st h=>by
 show wpAny _ _ (allTrue .Or [a,b] env) _ _ _;refine aH (af W A s _ E ai st λau az aF=>?_);induction x with
 |true=>exact bu (by simpa using h au az aF)
 |false=>
  refine aH (I rfl W A au _ E ai (st.ext az aF) λaL aR aY=>?_);have z:=h aL (az.trans aR) aY
  (induction y)<;>exact bu z
theorem bV.and{a b:Expr}{x y:Bool}(af:bV prog w n env m a x)(I:x=true->bV prog w n env m b y):bV prog w n env m (.BoolOp .And [a,b] pos) (x&&y):=λW A s Q E ai st h=>by
 show wpAny _ _ (allTrue .And [a,b] env) _ _ _;refine aH (af W A s _ E ai st λau az aF=>?_);induction x with
 |false=>exact bu (by simpa using h au az aF)
 |true=>
  refine aH (I rfl W A au _ E ai (st.ext az aF) λaL aR aY=>?_);have z:=h aL (az.trans aR) aY
  (induction y)<;>exact bu z
theorem CQ{t a b:Expr}{c:Bool}{p:ak}(aM:bV prog w n env m t c)(af:c=true->Ev prog w n env m a p)(I:c=false->Ev prog w n env m b p):Ev prog w n env m (.IfExp t a b pos) p:=λW A s Q E ai st h=>by
 show wpAny _ _ (do if<-isTrue t env (eval t env) then eval a env else eval b env) _ _ _;refine aH (aM W A s _ E ai st λau az aF=>?_);induction c with
 |true=>exact af rfl W A au Q E ai (st.ext az aF) λv s' aq e g=>h v s' aq (az.trans e) g
 |false=>exact I rfl W A au Q E ai (st.ext az aF) λv s' aq e g=>h v s' aq (az.trans e) g
def dm(m:Loc)(x:Str):Prop:=(∃l,m.lookup x=some (.bw l))\/∃ks l,m.lookup x=some (.eH ks l)
def oX:ak->Prop
 | .bw l=>dA l
 | .eH _ l=>dA l
 |p=>cb p
def bU(W₀:Addr->Prop)(env:Env)(m:Loc)(ad:Str->Addr)(J:Addr->Prop)(a:Addr):Prop:=
 W₀ a\/a=env.locals\/(∃n,env.cells.lookup n=some a)\/(∃x,dm m x/\ad x=a)\/J a
structure b1 (w:World) (s₀:Shared) (env:Env) (W₀:Addr->Prop) (ad:Str->Addr) (J:Addr->Prop) (m:Loc) (s:Shared):Prop where
 same:∃h tk,s={s₀ with heap:=h,toks:=tk}
 keep:gd s₀.heap s.heap
 dJ:G w s₀.heap
 st:St w env (bU W₀ env m ad J) m s.heap
 inj:∀x y,dm m x->dm m y->ad x=ad y->x=y
 own:∀x,dm m x->hb env s.heap x (.ref (ad x))/\s₀.heap.get? (ad x)=Option.none/\ad x≠env.locals/\∀n c,env.cells.lookup n=some c->ad x≠c
 ec:∀a,J a->s₀.heap.get? a=Option.none/\a≠env.locals/\(∀n c,env.cells.lookup n=some c->a≠c)/\∀x,dm m x->ad x≠a
 new:s₀.heap.get? env.locals=Option.none
 iB:∀n c,env.cells.lookup n=some c->s₀.heap.get? c=Option.none/\c≠env.locals
 apart:∀n hZ c,env.cells.lookup n=some c->env.cells.lookup hZ=some c->n=hZ
 e8:eB W₀ s₀.heap
 ns:∃cH,s.heap.Ns env.locals cH
 cl:∀n c,env.cells.lookup n=some c->∃v,s.heap.IsCell c v
 gT:∀x p,m.lookup x=some p->oX p
theorem O7(w:World):(KF w).lookup 217=none:=by kernel_rfl
theorem OM(w:World):(KF w).lookup 253=none:=by kernel_rfl
theorem Fv{a:Addr}{o:Obj}(e:(KF w).lookup a=some o):¬cf a:=by
 rintro(rfl |rfl)
 ·rw[O7] at e;injection e
 ·rw[OM] at e;injection e
theorem G.chg{X:Addr->Prop}(dJ:G w h₀)(g:G w h)(vh:∀a,X a->h₀.get? a=none/\∃o,h.get? a=some o/\cx o)(k:∀b o,¬X b->h.get? b=some o->h'.get? b=some o):G w h' where
 K:=λb ob e=>by
  have I:¬X b:=λq=>by have:=(vh b q).1;rw[dJ.K b ob e] at this;injection this
  exact k b ob I (g.K b ob e)
 B:=by
  refine ah g.B λlA x y=>?_;refine ah dJ.B λ_ aU _=>?_;refine t9 aU λbZ _ _ aO _=>?_;have I:¬X builtinsNs:=λq=>by have:=(vh _ q).1;rw[this] at aO;injection aO
  exact⟨lA,x.at' λo e=>k _ _ I e,y⟩
 M:=by
  refine ah g.M λo e r=>?_;refine ah dJ.M λbZ aO _=>?_;have I:¬X 4:=λq=>by have:=(vh _ q).1;rw[this] at aO;injection aO
  exact⟨o,k _ _ I e,r⟩
 T:=λb I=>by
  refine ah (g.T b I) λps ab ae=>?_;refine ah (dJ.T b I) λ_ aO _=>?_;have Sj:¬X b:=λq=>by rw[(vh _ q).1] at aO;injection aO
  refine⟨ps,k _ _ Sj ab,?_⟩;have cr:∀c q,tQ h c q->tQ h' c q:=λc q x=>by
   refine cg x λcP vs t ax aC a8 bX=>?_;refine⟨cP,vs,t,k _ _ (λq=>?_) ax,aC,a8,bX⟩;refine ah ((vh _ q).2) λo aj aA=>?_;rw[ax] at aj;obtain rfl:=bT aj;rcases aA with aA |aA
   ·exact aA aC
   ·exact aA _ a8
  rcases ae with rfl |⟨c,⟨af,aa,U⟩ |⟨af,aa,U⟩⟩
  ·exact .inl rfl
  ·exact .inr ⟨c,.inl ⟨af,aa,cr _ _ U⟩⟩
  ·exact .inr ⟨c,.inr ⟨af,aa,cr _ _ U⟩⟩
theorem G.set{a:Addr}{o:Obj}(dJ:G w h₀)(g:G w h)(aA:h₀.get? a=none)(aj:h.get? a=some o)(hd:∀vs,o.data≠ .fields vs)(hs:SameBut a h h'):G w h':=
 dJ.chg (X:=λb=>b=a) g (λb I=>by subst I;exact⟨aA,o,aj,.inr hd⟩) λb ob I e=>hs.extBut b ob I e
theorem Ns.fun{a:Addr}{m m':Str->Option Value}(x:h.Ns a m)(y:h.Ns a m')(n:Str):m n=m' n:=by
 refine cg x λo es ep ab ae _ bc=>?_;refine cg y λbZ jx Vy g1 g2 _ td=>?_;rw[ab] at g1;obtain rfl:=bT g1;rw[ae] at g2;(injection g2 with bB;subst bB);rw[<-bc, <-td]
theorem hb.fun{x:Str}{v hV:Value}(a:hb env h x v)(b:hb env h x hV):v=hV:=by
 rcases a with⟨bP,m,aA,aq⟩ |⟨bP,c,U,o,aj,hd⟩
 ·rcases b with⟨m5,m',gF,jr⟩ |⟨m5 |⟨m5,_⟩,c',fq,bZ,cS,hD⟩
  ·rw[Ns.fun aA gF,jr] at aq;obtain rfl:=bT aq;rfl
  ·rw[bP] at m5;exact absurd m5 (by decide)
  ·rw[bP] at m5;exact absurd m5 (by decide)
 ·rcases b with⟨m5,m',gF,jr⟩ |⟨m5,c',fq,bZ,cS,hD⟩
  ·rcases bP with bP |⟨bP,_⟩<;>(rw[bP] at m5;exact absurd m5 (by decide))
  ·rw[U] at fq;obtain rfl:=bT fq;rw[aj] at cS;obtain rfl:=bT cS;rw[hd] at hD;cases hD;rfl
variable {bZ m9 cP hX:Obj} {prog:Program}
section
variable {w:World} {s₀ s:Shared} {env:Env} {W₀ J:Addr->Prop} {ad:Str->Addr} {m:Loc}
theorem b1.ext(x:b1 w s₀ env W₀ ad J m s)(e:Ext s s')(g:G w s'.heap):b1 w s₀ env W₀ ad J m s' where
 same:=by
  refine cn x.same λh tk a7=>?_;subst a7;refine cn e.same λh' oc bk=>?_;subst bk;exact⟨h',oc,rfl⟩
 keep:=x.keep.trans e.keep
 dJ:=x.dJ
 st:=x.st.ext e g
 inj:=x.inj
 own:=λy av=>aE (x.own y av) λa b=>⟨a.kt e.keep x.st.nl x.st.cY,b⟩
 ec:=x.ec
 new:=x.new
 iB:=x.iB
 apart:=x.apart
 e8:=x.e8
 ns:=aP (x.ns) λcH h=>⟨cH,h.at' λo q=>e.keep _ _ x.st.nl q⟩
 cl:=λn c h=>dO (x.cl n c h) λv o aj hd=>⟨v,o,e.keep _ _ (x.st.cY n c h) aj,hd⟩
 gT:=x.gT
theorem b1.r8(x:b1 w s₀ env W₀ ad J m s):Ext s₀ s:=⟨x.same,x.keep⟩
theorem a5{x:Str}{p:ak} :List.lookup x ((x,p)::m)=some p:=by simp[List.lookup]
theorem j4{x y:Str}{p:ak}(h:y≠x):List.lookup y ((x,p)::m)=m.lookup y:=by
 rw[di,ey.mpr h]
theorem cb.o{p:ak}(h:cb p):oX p:=by cases p<;>first |exact h |exact h.elim
theorem rJ{x y:Str}{p:ak}(h:dm ((x,p)::m) y)(aa:cb p):y≠x/\dm m y:=by
 by_cases e:y=x
 ·subst e;rcases h with⟨l,h⟩ |⟨ks,l,h⟩
  ·rw[a5] at h;obtain rfl:=bT h;exact aa.elim
  ·rw[a5] at h;obtain rfl:=bT h;exact aa.elim
 ·refine⟨e,?_⟩;unfold dm at h ⊢
  rwa [j4 e] at h
theorem CW{x y:Str}{p:ak}(h:dm m y)(e:y≠x):dm ((x,p)::m) y:=by
 unfold dm at h ⊢
 rwa [j4 e]
theorem b1.turn{x:Str}{p:ak}{v:Value}{a:Addr}(F:b1 w s₀ env W₀ ad J m s)(aq:a6 w s.heap (bU W₀ env m ad J) p v)(aa:cb p)
  (af:a=env.locals\/env.cells.lookup x=some a) (hR:s.heap.get? a=some m9) (dv:∀vs,m9.data≠ .fields vs) (hs:SameBut a s.heap h') (ag:hb env h' x v) (av:∀y u,y≠x->hb env s.heap y u->hb env h' y u) (pD:∃cH,h'.Ns env.locals cH)
  (et:∀n c,env.cells.lookup n=some c->∃v,h'.IsCell c v) (hex:∃o,h'.get? a=some o/\cx o):b1 w s₀ env W₀ ad J ((x,p)::m) {s with heap:=h',toks:=tk}:=by
 have aW:bU W₀ env m ad J a:=af.elim (λe=> .inr (.inl e)) λe=> .inr (.inr (.inl ⟨_,e⟩));have kg:s₀.heap.get? a=none:=af.elim (λe=>e▸F.new) λe=>(F.iB _ _ e).1;have up:∀b o,b≠a->s.heap.get? b=some o->h'.get? b=some o:=λb o I e=>hs.extBut b o I e;have kc:∀b,bU W₀ env ((x,p)::m) ad J b->bU W₀ env m ad J b:=λb I=>by
  rcases I with I |I |I |⟨y,hC,I⟩ |I
  ·exact .inl I
  ·exact .inr (.inl I)
  ·exact .inr (.inr (.inl I))
  ·exact .inr (.inr (.inr (.inl ⟨y,(rJ hC aa).2,I⟩)))
  ·exact .inr (.inr (.inr (.inr I)))
 have gh:G w h':=F.dJ.set F.st.g kg hR dv hs;have gi:∀b o,¬bU W₀ env m ad J b->o.cls≠ .none->s.heap.get? b=some o->h'.get? b=some o/\¬bU W₀ env ((x,p)::m) ad J b:=λb o I _ e=>⟨up b o (λq=>I (q▸aW)) e,λq=>I (kc b q)⟩
 have Su:∀y,dm m y->ad y≠a:=λy h=>by
  refine eK (F.own y h) λ_ _ aD bc=>?_;exact af.elim (λe=>e▸aD) λe=>bc _ _ e
 refine cn F.same λh₁ sa jh=>?_;refine⟨⟨h',tk,by rw[jh]⟩,λb o I e=>up b o (λq=>by subst q;rw[kg] at e;injection e) (F.keep b o I e),F.dJ,?_,λy z sF hz=>F.inj y z (rJ sF aa).2 (rJ hz aa).2,λy sF=>?_,
  λb I=>eK (F.ec b I) λab ae aD bc=>⟨ab,ae,aD,λy av=>bc y (rJ av aa).2⟩,F.new,F.iB,F.apart,F.e8,pD,et,λy q aG=>?_⟩
 ·refine⟨F.st.fn,F.st.gl,F.st.bi,gh,λb I=>?_,F.st.nl,F.st.cY,λy q aG=>?_⟩
  ·refine aE (F.st.low b (kc b I)) λbz o9=>?_;refine ah bz λo e cF=>?_;refine⟨?_,o9⟩;by_cases q:b=a
   ·exact q▸hex
   ·exact⟨o,up b o q e,cF⟩
  ·by_cases e:y=x
   ·subst e;rw[a5] at aG;obtain rfl:=bT aG;exact⟨v,ag,aq.upd gi aa⟩
   ·rw[j4 e] at aG;replace aG:=aG;refine ah (F.st.has y q aG) λu bD eS=>?_;refine⟨u,av y u e bD,?_⟩;have ek:=F.gT y q aG;have hW:∀dD:dm m y,u= .ref (ad y)/\ad y≠a/\bU W₀ env ((x,p)::m) ad J (ad y):=λdD=>⟨bD.fun (F.own y dD).1,Su y dD,.inr (.inr (.inr (.inl ⟨y,CW dD e,rfl⟩)))⟩
    cases q with
    |bw l=>
     refine cg eS λb vs n ax aC a8 bX=>?_;refine cB (hW (.inl ⟨l,aG⟩)) λei oo ve=>?_;rw[ax] at ei;(injection ei with bB;subst bB);exact⟨_,vs,n,ax,ve,up _ _ oo a8,bX.upd gi ek⟩
    |eH ks l=>
     refine iA eS λb vs n ax aC a8 bX d4=>?_;refine cB (hW (.inr ⟨ks,l,aG⟩)) λei oo ve=>?_;rw[ax] at ei;(injection ei with bB;subst bB);exact⟨_,vs,n,ax,ve,up _ _ oo a8,bX,d4.upd gi ek⟩
    |_=>exact eS.upd gi ek
 ·refine aE (rJ sF aa) λe dD=>?_;refine aE (F.own y dD) λab ae=>?_;exact⟨av y _ e ab,ae⟩
 ·by_cases e:y=x
  ·subst e;rw[a5] at aG;obtain rfl:=bT aG;exact aa.o
  ·rw[j4 e] at aG;exact F.gT y q aG
theorem tm{c:Addr}{v:Option Value}(x:h.IsCell c v):∃o,h.get? c=some o/\∀vs,o.data≠ .fields vs:=by
 refine ah x λo aj hd=>?_;exact⟨o,aj,λvs q=>by rw[hd] at q;injection q⟩
theorem my{a:Addr}{m:Str->Option Value}(x:h.Ns a m):∃o,h.get? a=some o/\∀vs,o.data≠ .fields vs:=by
 refine gm x λo es ep aj hd _=>?_;exact⟨o,aj,λvs q=>by rw[hd] at q;injection q⟩
theorem b1.ze{x:Str}{p:ak}{v:Value}{Q:Unit->Shared->Prop}(F:b1 w s₀ env W₀ ad J m s)(aq:a6 w s.heap (bU W₀ env m ad J) p v)(aa:cb p)
  (ar:env.kindOf x=some .local\/(env.kindOf x=some .cell/\(env.cells.lookup x).isSome=true)) (h:∀s',b1 w s₀ env W₀ ad J ((x,p)::m) s'->(∀b o,b≠env.locals->(∀n c,env.cells.lookup n=some c->b≠c)->s.heap.get? b=some o->s'.heap.get? b=some o)->Q () s'):wpAny (model prog w) A (storeName env x v) Q E s:=by
 rcases ar with ar |⟨ar,U⟩
 ·refine aP F.ns λcH aA=>?_;refine wpAny_storeName_local ar aA (λh' gF eC=>?_) (by rw[F.st.fn];rfl);refine ah (my aA) λm9 hR dv=>?_;refine h _ (F.turn aq aa (.inl rfl) hR dv eC (.inl ⟨ar,_,gF,by simp⟩) (λy u av bD=>?_) ⟨_,gF⟩ (λn c U=>?_) (ah (my gF) λo aj hd=>⟨o,aj,.inr hd⟩)) λb o I _ e=>eC.extBut b o I e
  ·rcases bD with⟨bP,mi,rd,uV⟩ |⟨bP,c,U,o,aj,hd⟩
   ·refine .inl ⟨bP,_,gF,?_⟩;rw[aI av,Ns.fun aA rd,uV]
   ·exact .inr ⟨bP,c,U,o,eC.extBut _ _ (F.iB _ _ U).2 aj,hd⟩
  ·refine dO (F.cl n c U) λv o aj hd=>?_;exact⟨v,o,eC.extBut _ _ (F.iB _ _ U).2 aj,hd⟩
 ·refine aP (Option.isSome_iff_exists.mp U) λc U=>?_;refine aP (F.cl x c U) λPS r6=>?_;refine wpAny_storeName_cell F.st.fn ar U r6 λh' fq eC=>?_;refine ah (tm r6) λm9 hR dv=>?_;have et:=(F.iB _ _ U).2;have t:=F.turn (tk:=s.toks) aq aa (.inr U) hR dv eC (.inr ⟨.inl ar,c,U,fq⟩) (λy u av bD=>?_) (let⟨cH,aA⟩:=F.ns;⟨cH,aA.sameBut eC et.symm⟩) (λn c' sv=>?_) (ah (tm fq) λo aj hd=>⟨o,aj,.inr hd⟩)
  ·exact h _ t λb o _ I e=>eC.extBut b o (I _ _ U) e
  ·rcases bD with⟨bP,mi,rd,uV⟩ |⟨bP,c',sv,o,aj,hd⟩
   ·exact .inl ⟨bP,mi,rd.sameBut eC et.symm,uV⟩
   ·refine .inr ⟨bP,c',sv,o,eC.extBut _ _ (λq=>av ?_) aj,hd⟩;subst q;exact F.apart _ _ _ sv U
  ·by_cases q:c'=c
   ·subst q;exact⟨_,fq⟩
   ·refine dO (F.cl n c' sv) λv o aj hd=>?_;exact⟨v,o,eC.extBut _ _ q aj,hd⟩
theorem b1.nL(F:b1 w s₀ env W₀ ad J m s)(e:Ext s s')(g:G w s'.heap)(a0:∀a,J a->dM a)(aA:∀a,dM a->¬J a->s.heap.get? a=none/\(∃o,s'.heap.get? a=some o/\cx o)/\¬cf a):b1 w s₀ env W₀ ad dM m s':=by
 have aS:=F.ext e g;have fresh:∀a,dM a->¬J a->∀b o,s.heap.get? b=some o->b≠a:=λa ab ae b o e q=>by
  subst q;rw[(aA _ ab ae).1] at e;injection e
 have h0:∀a,s.heap.get? a=none->s₀.heap.get? a=none\/cf a:=λa q=>by
  induction dN:s₀.heap.get? a with
  |none=>exact .inl rfl
  |some o=>
   by_cases aM:cf a
   ·exact .inr aM
   ·rw[F.keep _ _ aM dN] at q;injection q
 have PU:∀y,dm m y->∃o,s.heap.get? (ad y)=some o:=λy av=>by
  refine aE (F.st.low (ad y) (.inr (.inr (.inr (.inl ⟨y,av,rfl⟩))))) λb7 _=>?_;refine ah b7 λo q cF=>?_;exact⟨o,q⟩
 refine⟨aS.same,aS.keep,F.dJ,⟨F.st.fn,F.st.gl,F.st.bi,g,λb I=>?_,F.st.nl,F.st.cY,λy q aG=>?_⟩,F.inj,aS.own,λa af=>?_,F.new,F.iB,F.apart,F.e8,aS.ns,aS.cl,F.gT⟩
 ·rcases I with I |I |I |I |I
  ·exact aS.st.low b (.inl I)
  ·exact aS.st.low b (.inr (.inl I))
  ·exact aS.st.low b (.inr (.inr (.inl I)))
  ·exact aS.st.low b (.inr (.inr (.inr (.inl I))))
  ·by_cases aN:J b
   ·exact aS.st.low b (.inr (.inr (.inr (.inr aN))))
   ·exact(aA b I aN).2
 ·refine ah (F.st.has y q aG) λu bD eS=>?_;refine⟨u,bD.kt e.keep F.st.nl F.st.cY,eS.chg λb o U ct=>⟨F.st.g.mc e.keep b o U ct,⟨λI=>?_,λI=>?_⟩⟩⟩
  ·rcases I with I |I |I |I |I
   ·exact .inl I
   ·exact .inr (.inl I)
   ·exact .inr (.inr (.inl I))
   ·exact .inr (.inr (.inr (.inl I)))
   ·exact .inr (.inr (.inr (.inr (a0 b I))))
  ·rcases I with I |I |I |I |I
   ·exact .inl I
   ·exact .inr (.inl I)
   ·exact .inr (.inr (.inl I))
   ·exact .inr (.inr (.inr (.inl I)))
   ·by_cases aN:J b
    ·exact .inr (.inr (.inr (.inr aN)))
    ·exact absurd rfl (fresh b I aN b o ct)
 ·by_cases aN:J a
  ·exact F.ec a aN
  ·refine cB (aA a af aN) λab ae aD=>?_;refine⟨(h0 a ab).resolve_right aD,λq=>?_,λnm c U q=>?_,λy av q=>?_⟩
   ·refine wR F.ns λcH o _ _ aj _=>?_;rw[<-q,ab] at aj;injection aj
   ·refine dO (F.cl nm c U) λv o aj _=>?_;rw[<-q,ab] at aj;injection aj
   ·refine aP (PU y av) λo aj=>?_;rw[q,ab] at aj;injection aj
theorem b1.qx(F:b1 w s₀ env W₀ ad J m s)(Gq:∀a,dM a->J a)(jh:∃h tk,s'={s with heap:=h,toks:=tk})(k:∀b o,¬J b->¬cf b->s.heap.get? b=some o->s'.heap.get? b=some o)(g:G w s'.heap)(a0:∀a,dM a->∃o,s'.heap.get? a=some o/\cx o):b1 w s₀ env W₀ ad dM m s':=by
 have s9:∀b o,s₀.heap.get? b=some o->¬J b:=λb o e q=>by rw[(F.ec b q).1] at e;injection e
 have nl:¬J env.locals:=λq=>(F.ec _ q).2.1 rfl;have cY:∀nm c,env.cells.lookup nm=some c->¬J c:=λnm c U q=>(F.ec _ q).2.2.1 nm c U rfl;have no:∀y,dm m y->¬J (ad y):=λy av q=>(F.ec _ q).2.2.2 y av rfl;have dr:∀y v,hb env s.heap y v->hb env s'.heap y v:=λy v q=>by
  rcases q with⟨bP,cH,aA,aq⟩ |⟨bP,c,U,o,aj,hd⟩
  ·exact .inl ⟨bP,cH,aA.at' λo e=>k _ _ nl F.st.nl e,aq⟩
  ·exact .inr ⟨bP,c,U,o,k _ _ (cY _ _ U) (F.st.cY _ _ U) aj,hd⟩
 refine cn F.same λh₁ sa az=>?_;refine cn jh λcX zz aR=>?_;have kc:∀b,bU W₀ env m ad dM b->bU W₀ env m ad J b:=λb I=>by
  rcases I with I |I |I |I |I
  ·exact .inl I
  ·exact .inr (.inl I)
  ·exact .inr (.inr (.inl I))
  ·exact .inr (.inr (.inr (.inl I)))
  ·exact .inr (.inr (.inr (.inr (Gq b I))))
 have gi:∀b o,¬bU W₀ env m ad J b->o.cls≠ .none->s.heap.get? b=some o->s'.heap.get? b=some o/\¬bU W₀ env m ad dM b:=λb o I U e=>⟨k b o (λq=>I (.inr (.inr (.inr (.inr q))))) (F.st.g.fY e U) e,λq=>I (kc b q)⟩
 refine⟨⟨cX,zz,by rw[aR,az]⟩,λb o I e=>k b o (s9 b o e) I (F.keep b o I e),F.dJ,⟨F.st.fn,F.st.gl,F.st.bi,g,λb I=>?_,F.st.nl,F.st.cY,λy q aG=>?_⟩,F.inj,λy av=>⟨dr _ _ (F.own y av).1,(F.own y av).2⟩,λa af=>F.ec a (Gq a af),F.new,F.iB,F.apart,F.e8,
  let⟨cH,aA⟩:=F.ns;⟨cH,aA.at' λo e=>k _ _ nl F.st.nl e⟩,λnm c U=>dO (F.cl nm c U) λv o aj hd=>⟨v,o,k _ _ (cY nm c U) (F.st.cY nm c U) aj,hd⟩,F.gT⟩
 ·refine aE (F.st.low b (kc b I)) λcC aM=>?_;refine ah cC λo e cF=>?_;refine⟨?_,aM⟩;rcases I with I |rfl |⟨nm,I⟩ |⟨y,av,rfl⟩ |I
  ·exact⟨o,k b o (λq=>by refine aE (F.e8 b I) λc2 _=>?_;refine ah c2 λbZ aO _=>?_;exact s9 b bZ aO q) aM e,cF⟩
  ·exact⟨o,k _ o nl aM e,cF⟩
  ·exact⟨o,k b o (cY nm b I) aM e,cF⟩
  ·exact⟨o,k _ o (no y av) aM e,cF⟩
  ·exact a0 b I
 ·refine ah (F.st.has y q aG) λu bD eS=>?_;refine⟨u,dr _ _ bD,?_⟩;have ek:=F.gT y q aG;cases q with
  |bw l=>
   refine cg eS λb vs n ax aC a8 bX=>?_;have dD:dm m y:= .inl ⟨l,aG⟩;have ei:=bD.fun (F.own y dD).1;rw[ax] at ei;(injection ei with bB;subst bB);exact⟨_,vs,n,ax,.inr (.inr (.inr (.inl ⟨y,dD,rfl⟩))),k _ _ (no y dD) (F.st.g.fY a8 eG) a8,bX.upd gi ek⟩
  |eH ks l=>
   refine iA eS λb vs n ax aC a8 bX d4=>?_;have dD:dm m y:= .inr ⟨ks,l,aG⟩;have ei:=bD.fun (F.own y dD).1;rw[ax] at ei;(injection ei with bB;subst bB);exact⟨_,vs,n,ax,.inr (.inr (.inr (.inl ⟨y,dD,rfl⟩))),k _ _ (no y dD) (F.st.g.fY a8 eG) a8,bX,d4.upd gi ek⟩
  |_=>exact eS.upd gi ek
theorem b1.tP(F:b1 w s₀ env W₀ ad J m s)(a0:∀a,dM a->J a):b1 w s₀ env W₀ ad dM m s:=by
 have kc:∀b,bU W₀ env m ad dM b->bU W₀ env m ad J b:=λb I=>by
  rcases I with I |I |I |I |I
  ·exact .inl I
  ·exact .inr (.inl I)
  ·exact .inr (.inr (.inl I))
  ·exact .inr (.inr (.inr (.inl I)))
  ·exact .inr (.inr (.inr (.inr (a0 b I))))
 have gi:∀b o,¬bU W₀ env m ad J b->o.cls≠ .none->s.heap.get? b=some o->s.heap.get? b=some o/\¬bU W₀ env m ad dM b:=λb o I _ e=>⟨e,λq=>I (kc b q)⟩
 refine⟨F.same,F.keep,F.dJ,⟨F.st.fn,F.st.gl,F.st.bi,F.st.g,λb I=>F.st.low b (kc b I),F.st.nl,F.st.cY,λy q aG=>?_⟩,F.inj,F.own,λa af=>F.ec a (a0 a af),F.new,F.iB,F.apart,F.e8,F.ns,F.cl,F.gT⟩;refine ah (F.st.has y q aG) λu bD eS=>?_;refine⟨u,bD,?_⟩;have ek:=F.gT y q aG;cases q with
 |bw l=>
  refine cg eS λb vs n ax aC a8 bX=>?_;have dD:dm m y:= .inl ⟨l,aG⟩;have ei:=bD.fun (F.own y dD).1;rw[ax] at ei;(injection ei with bB;subst bB);exact⟨_,vs,n,ax,.inr (.inr (.inr (.inl ⟨y,dD,rfl⟩))),a8,bX.upd gi ek⟩
 |eH ks l=>
  refine iA eS λb vs n ax aC a8 bX d4=>?_;have dD:dm m y:= .inr ⟨ks,l,aG⟩;have ei:=bD.fun (F.own y dD).1;rw[ax] at ei;(injection ei with bB;subst bB);exact⟨_,vs,n,ax,.inr (.inr (.inr (.inl ⟨y,dD,rfl⟩))),a8,bX,d4.upd gi ek⟩
 |_=>exact eS.upd gi ek
theorem b1.sub(F:b1 w s₀ env W₀ ad J m s)(h:∀x p,m'.lookup x=some p->m.lookup x=some p):b1 w s₀ env W₀ ad J m' s:=by
 have hW:∀x,dm m' x->dm m x:=λx q=>by
  rcases q with⟨l,q⟩ |⟨ks,l,q⟩
  ·exact .inl ⟨l,h _ _ q⟩
  ·exact .inr ⟨ks,l,h _ _ q⟩
 have kc:∀b,bU W₀ env m' ad J b->bU W₀ env m ad J b:=λb I=>by
  rcases I with I |I |I |⟨y,hC,I⟩ |I
  ·exact .inl I
  ·exact .inr (.inl I)
  ·exact .inr (.inr (.inl I))
  ·exact .inr (.inr (.inr (.inl ⟨y,hW y hC,I⟩)))
  ·exact .inr (.inr (.inr (.inr I)))
 have gi:∀b o,¬bU W₀ env m ad J b->o.cls≠ .none->s.heap.get? b=some o->s.heap.get? b=some o/\¬bU W₀ env m' ad J b:=λb o I _ e=>⟨e,λq=>I (kc b q)⟩
 refine⟨F.same,F.keep,F.dJ,⟨F.st.fn,F.st.gl,F.st.bi,F.st.g,λb I=>F.st.low b (kc b I),F.st.nl,F.st.cY,λy q aG=>?_⟩,λy z av hz=>F.inj y z (hW y av) (hW z hz),λy av=>F.own y (hW y av),λb I=>eK (F.ec b I) λab ae aD bc=>⟨ab,ae,aD,λy av=>bc y (hW y av)⟩,F.new,F.iB,F.apart,F.e8,F.ns,F.cl,λy q aG=>F.gT y q (h y q aG)⟩;refine ah (F.st.has y q (h y q aG)) λu bD eS=>?_;refine⟨u,bD,?_⟩;have ek:=F.gT y q (h y q aG);cases q with
 |bw l=>
  refine cg eS λb vs n ax aC a8 bX=>?_;have dD:dm m' y:= .inl ⟨l,aG⟩;have ei:=bD.fun (F.own y (hW y dD)).1;rw[ax] at ei;(injection ei with bB;subst bB);exact⟨_,vs,n,ax,.inr (.inr (.inr (.inl ⟨y,dD,rfl⟩))),a8,bX.upd gi ek⟩
 |eH ks l=>
  refine iA eS λb vs n ax aC a8 bX d4=>?_;have dD:dm m' y:= .inr ⟨ks,l,aG⟩;have ei:=bD.fun (F.own y (hW y dD)).1;rw[ax] at ei;(injection ei with bB;subst bB);exact⟨_,vs,n,ax,.inr (.inr (.inr (.inl ⟨y,dD,rfl⟩))),a8,bX,d4.upd gi ek⟩
 |_=>exact eS.upd gi ek
end
inductive dn where
 |next |brk |cont
 |ret (p:ak)
def bC(W W':Addr->Prop)(s s':Shared):Prop:=∀b o,¬W b->¬cf b->s.heap.get? b=some o->s'.heap.get? b=some o/\¬W' b
theorem bC.refl(W:Addr->Prop)(s:Shared):bC W W s s:=λb o I _ e=>⟨e,I⟩
theorem bC.trans{Gz:Addr->Prop}(x:bC W W' s s')(y:bC W' Gz s' b2):bC W Gz s b2:=λb o I aM e=>y b o (x b o I aM e).2 aM (x b o I aM e).1
theorem bC.ext(e:Ext s s'):bC W W s s':=λb o I aM ct=>⟨e.keep b o aM ct,I⟩
theorem CE(x:bC V W' s s')(h:∀b,V b->W b):bC W W' s s':=λb o I aM e=>x b o (λq=>I (h b q)) aM e
def b4(env:Env)(m:Loc)(ad:Str->Addr)(a:Addr):Prop:=a=env.locals\/(∃n,env.cells.lookup n=some a)\/∃x,dm m x/\ad x=a
theorem b4.j2{ad:Str->Addr}{J:Addr->Prop}{a:Addr}(h:b4 env m ad a):bU W₀ env m ad J a:=by
 rcases h with h |h |h
 ·exact .inr (.inl h)
 ·exact .inr (.inr (.inl h))
 ·exact .inr (.inr (.inr (.inl h)))
theorem bU.split{ad:Str->Addr}{J:Addr->Prop}{a:Addr}(h:bU W₀ env m ad J a):W₀ a\/J a\/b4 env m ad a:=by
 rcases h with h |h |h |h |h
 ·exact .inl h
 ·exact .inr (.inr (.inl h))
 ·exact .inr (.inr (.inr (.inl h)))
 ·exact .inr (.inr (.inr (.inr h)))
 ·exact .inr (.inl h)
theorem bU.m1{ad:Str->Addr}{J:Addr->Prop}{a:Addr}(h:W₀ a):bU W₀ env m ad J a:= .inl h
theorem bU.dw{ad:Str->Addr}{J:Addr->Prop}{a:Addr}(h:J a):bU W₀ env m ad J a:= .inr (.inr (.inr (.inr h)))
variable {a3 je:Str->Addr}
theorem bC.j2{ad:Str->Addr}{J:Addr->Prop}(k:bC (b4 env m ad) (b4 env m' a3) s s'):bC (bU W₀ env m ad J) (bU W₀ env m' a3 J) s s':=λb o I aM e=>⟨(k b o (λq=>I q.j2) aM e).1,λq=>by
 rcases q.split with q |q |q
 ·exact I (.m1 q)
 ·exact I (.dw q)
 ·exact(k b o (λq=>I q.j2) aM e).2 q⟩
theorem a6.Fc{ad:Str->Addr}{J:Addr->Prop}{p:ak}{v:Value}(x:a6 w s.heap (bU W₀ env m ad J) p v)(g:G w s.heap)(k:bC (b4 env m ad) (b4 env m' a3) s s')(aa:cb p):a6 w s'.heap (bU W₀ env m' a3 J) p v:=x.upd (λb o I U e=>k.j2 b o I (g.fY e U) e) aa
def Out(w:World)(s₀:Shared)(env:Env)(W₀ J:Addr->Prop)(Φ:dn->Loc->Prop)(W:Addr->Prop)(s:Shared)(f:Flow)(s':Shared):Prop:=match f with
 | .next=>∃a3 m',b1 w s₀ env W₀ a3 J m' s'/\bC W (b4 env m' a3) s s'/\Φ .next m'
 | .brk=>∃a3 m',b1 w s₀ env W₀ a3 J m' s'/\bC W (b4 env m' a3) s s'/\Φ .brk m'
 | .cont=>∃a3 m',b1 w s₀ env W₀ a3 J m' s'/\bC W (b4 env m' a3) s s'/\Φ .cont m'
 | .ret v=>∃p,a6 w s'.heap W₀ p v/\cb p/\Ext s₀ s'/\G w s'.heap/\Φ (.ret p) []
def bg(prog:Program)(w:World)(n:Nat)(env:Env)(m:Loc)(ss:List Stmt)(Φ:dn->Loc->Prop):Prop:=
 ∀(s₀:Shared) (W₀ J:Addr->Prop) (ad:Str->Addr) (A:Around) (s:Shared) (E:Value->Shared->Prop),bK n A->b1 w s₀ env W₀ ad J m s->wpAny (model prog w) A (execs ss env) (Out w s₀ env W₀ J Φ (b4 env m ad) s) E s
def df(prog:Program)(w:World)(n:Nat)(env:Env)(m:Loc)(st:Stmt)(Φ:dn->Loc->Prop):Prop:=
 ∀(s₀:Shared) (W₀ J:Addr->Prop) (ad:Str->Addr) (A:Around) (s:Shared) (E:Value->Shared->Prop),bK n A->b1 w s₀ env W₀ ad J m s->wpAny (model prog w) A (exec st env) (Out w s₀ env W₀ J Φ (b4 env m ad) s) E s
abbrev T7(prog:Program)(w:World)(n:Nat)(env:Env)(rest:List Stmt)(Φ:dn->Loc->Prop):dn->Loc->Prop:=λf m'=>match f with | .next=>bg prog w n env m' rest Φ |f=>Φ f m'
abbrev AF(bh:Loc->Prop)(Φ:dn->Loc->Prop):dn->Loc->Prop:=λej dE=>match ej with | .next=>bh dE | .cont=>bh dE | .brk=>Φ .next dE | .ret r=>Φ (.ret r) dE
abbrev Hk(p:ak):dn->Loc->Prop:=λej _=>match ej with | .ret q=>q=p | .next=>p= .none |_=>False
variable {body orelse rest ss:List Stmt}
section
variable {prog:Program} {w:World} {n:Nat} {env:Env} {m:Loc} {Φ:dn->Loc->Prop}
theorem Out.pre{J:Addr->Prop}{f:Flow}(k:bC W W' s au)(x:Out w s₀ env W₀ J Φ W' au f s'):Out w s₀ env W₀ J Φ W s f s':=by
 induction f with
 |next=>refine bj x λad m' a k' b=>?_;exact⟨ad,m',a,k.trans k',b⟩
 |brk=>refine bj x λad m' a k' b=>?_;exact⟨ad,m',a,k.trans k',b⟩
 |cont=>refine bj x λad m' a k' b=>?_;exact⟨ad,m',a,k.trans k',b⟩
 |ret v=>exact x
theorem bg.nil(h:Φ .next m):bg prog w n env m [] Φ:=λs₀ W₀ J ad A s E ai F=>wpAny_execs_nil ⟨ad,m,F,.refl _ s,h⟩
theorem bg.cons{st:Stmt}(h:df prog w n env m st (T7 prog w n env rest Φ)):bg prog w n env m (st::rest) Φ:=λs₀ W₀ J ad A s E ai F=>by
 refine wpAny_execs_cons (wpAny_mono (h s₀ W₀ J ad A s E ai F) (λf s' o=>?_) λ_ _ e=>e);induction f with
 |next=>refine bj o λa3 m' a k b=>?_;exact wpAny_mono (b s₀ W₀ J a3 A s' E ai a) (λf b2 o=>o.pre k) λ_ _ e=>e
 |brk=>exact o
 |cont=>exact o
 |ret v=>exact o
theorem b4.sub{ad:Str->Addr}(hs:∀x p,m'.lookup x=some p->m.lookup x=some p):∀b,b4 env m' ad b->b4 env m ad b:=λb I=>by
 rcases I with I |I |⟨y,hC,I⟩
 ·exact .inl I
 ·exact .inr (.inl I)
 ·refine .inr (.inr ⟨y,?_,I⟩);rcases hC with⟨l,q⟩ |⟨ks,l,q⟩
  ·exact .inl ⟨l,hs _ _ q⟩
  ·exact .inr ⟨ks,l,hs _ _ q⟩
theorem b4.cons{ad:Str->Addr}{x:Str}{p:ak}(aa:cb p):∀b,b4 env ((x,p)::m) ad b->b4 env m ad b:=λb I=>by
 rcases I with I |I |⟨y,hC,I⟩
 ·exact .inl I
 ·exact .inr (.inl I)
 ·exact .inr (.inr ⟨y,(rJ hC aa).2,I⟩)
theorem bg.sub(h:bg prog w n env m' ss Φ)(hs:∀x p,m'.lookup x=some p->m.lookup x=some p):bg prog w n env m ss Φ:=λs₀ W₀ J ad A s E ai F=>
 wpAny_mono (h s₀ W₀ J ad A s E ai (F.sub hs)) (λf s' o=>o.pre (CE (.refl _ s) (b4.sub hs))) λ_ _ e=>e
theorem b1.put{J:Addr->Prop}{ad:Str->Addr}{x:Str}{p:ak}{v:Value}{Q:Unit->Shared->Prop}(F:b1 w s₀ env W₀ ad J m s)(aq:a6 w s.heap (bU W₀ env m ad J) p v)(aa:cb p)
  (ar:env.kindOf x=some .local\/(env.kindOf x=some .cell/\(env.cells.lookup x).isSome=true)) (h:∀s',b1 w s₀ env W₀ ad J ((x,p)::m) s'->bC (b4 env m ad) (b4 env ((x,p)::m) ad) s s'->Q () s'):wpAny (model prog w) A (storeName env x v) Q E s:=
 F.ze aq aa ar λs' aS keep=>h s' aS λb o I _ e=>⟨keep b o (λq=>I (.inl q)) (λnm c U q=>I (.inr (.inl ⟨nm,q▸U⟩))) e,λq=>I (b4.cons aa b q)⟩
theorem jb{x:Str}{e:Expr}{p:ak}(he:Ev prog w n env m e p)(aa:cb p)(ar:env.kindOf x=some .local\/(env.kindOf x=some .cell/\(env.cells.lookup x).isSome=true))(h:Φ .next ((x,p)::m))
  (hs:swapsWith e (some (.Name x px)) pos.line env=pure false):df prog w n env m (.Assign [.Name x px] e pos) Φ:=λs₀ W₀ J ad A s E ai F=>by
 refine wpAny_Assign_Name (he _ A s _ E ai F.st λv au aq az aF=>?_) hs;exact(F.ext az aF).put aq aa ar λs' aS k=>⟨ad,_,aS,(bC.ext az).trans k,h⟩
theorem j7{t:Expr}{a b:List Stmt}{c:Bool}(aM:bV prog w n env m t c)(af:c=true->bg prog w n env m a Φ)(I:c=false->bg prog w n env m b Φ):df prog w n env m (.If t a b pos) Φ:=λs₀ W₀ J ad A s E ai F=>by
 refine wpAny_If (aM _ A s _ E ai F.st λau az aF=>?_);induction c with
 |true=>exact wpAny_mono (af rfl s₀ W₀ J ad A au E ai (F.ext az aF)) (λf s' o=>o.pre (.ext az)) λ_ _ e=>e
 |false=>exact wpAny_mono (I rfl s₀ W₀ J ad A au E ai (F.ext az aF)) (λf s' o=>o.pre (.ext az)) λ_ _ e=>e
theorem df.ret{e:Expr}{p:ak}(he:Ev prog w n env m e p)(aa:cb p)(h:Φ (.ret p) []):df prog w n env m (.Return (some e) pos) Φ:=λs₀ W₀ J ad A s E ai F=>by
 refine wpAny_Return_some (he _ A s _ E ai F.st λv au aq az aF=>⟨p,?_,aa,F.r8.trans az,aF,h⟩);exact aq.upd (λb o I _ e=>⟨e,λq=>I (.inl q)⟩) aa
end
def dY(prog:Program)(w:World)(n:Nat)(f:Addr)(args:List ak)(p:ak):Prop:=
 ∀(W:Addr->Prop) (A:Around) (s:Shared) (vs:List Value) (Q:Value->Shared->Prop) (E:Value->Shared->Prop),bK n A->G w s.heap->eB W s.heap->bJ w s.heap W args vs->
  (∀v s',a6 w s'.heap W p v->Ext s s'->G w s'.heap->Q v s')->wpAny (model prog w) A (call (.ref f) vs) Q E s
theorem C8(w:World):nsOkIn (KF w) cStatics=true:=by kernel_rfl
theorem Nk(w:World):nsIn (KF w) cStatics "sys.recursionlimit"=some none:=by kernel_rfl
theorem G.lim(g:G w h):h.NoLimit:=⟨h.nsMap cStatics,.of_isNs (isNs_of_in g.K (C8 w)),nsMap_none_of_in g.K (C8 w) (Nk w)⟩
theorem Jm{k:Str->Option NameKind}{x:Str}:∀(binds:List (Str×Value)) (m:Str->Option Value),x∉binds.map (·.1)->bindL k binds m x=m x:=by
 intro a9;induction a9 with
 |nil=>
  intro _ _;exact rfl
 |cons hJ r aw=>
  obtain⟨y,v⟩:=hJ;intro m h;unfold bindL;have ag:x≠y:=λq=>h (by simp[q]);rw[aw _ (λq=>h (by simp at q ⊢;exact .inr q))];split
  ·simp[ag]
  ·rfl
theorem Jg{k:Str->Option NameKind}{x:Str}:∀(binds:List (Str×Value)) (m:Str->Option Value),x∉binds.map (·.1)->bindC k binds m x=m x:=by
 intro a9;induction a9 with
 |nil=>
  intro _ _;exact rfl
 |cons hJ r aw=>
  obtain⟨y,v⟩:=hJ;intro m h;unfold bindC;have ag:x≠y:=λq=>h (by simp[q]);rw[aw _ (λq=>h (by simp at q ⊢;exact .inr q))];split
  ·rfl
  ·simp[ag]
theorem Kc{k:Str->Option NameKind}{x:Str}{v:Value}(ar:k x=some .local):∀(binds:List (Str×Value)) (m:Str->Option Value),(binds.map (·.1)).Nodup->(x,v)∈binds->bindL k binds m x=some v:=by
 intro a9;induction a9 with
 |nil=>
  intro _ _ h;exact absurd h b8
 |cons hJ r aw=>
  obtain⟨y,u⟩:=hJ;intro m aA h;unfold bindL;simp only[map_cons,nodup_cons] at aA;replace aA:=aA;rcases bI.mp h with e |h
  ·cases e
   rw[Jm r _ aA.1,aQ ar];simp
  ·exact aw _ aA.2 h
theorem KI{k:Str->Option NameKind}{x:Str}{v:Value}(ar:k x≠some .local):∀(binds:List (Str×Value)) (m:Str->Option Value),(binds.map (·.1)).Nodup->(x,v)∈binds->bindC k binds m x=some v:=by
 intro a9;induction a9 with
 |nil=>
  intro _ _ h;exact absurd h b8
 |cons hJ r aw=>
  obtain⟨y,u⟩:=hJ;intro m aA h;unfold bindC;simp only[map_cons,nodup_cons] at aA;replace aA:=aA;rcases bI.mp h with e |h
  ·cases e
   rw[Jg r _ aA.1,aI ar];simp
  ·exact aw _ aA.2 h
theorem CT:∀{names:List Str} {args:List ak} {vs:List Value},bJ w h W args vs->∀{x:Str} {p:ak},(names.zip args).lookup x=some p->∃v,(x,v)∈names.zip vs/\a6 w h W p v:=by
 intro names;induction names with
 |nil=>intro _ _ _ x p e;injection e
 |cons y ns aw=>
  intro args vs h x p e;rcases args with _ |⟨q,ps⟩
  ·injection e
  refine bj h λv r z aq bf=>?_;subst z;rw[zip_cons_cons,di] at e;replace e:=e;induction lW:x==y with
  |true=>
   rw[lW] at e;obtain rfl:=bT e;exact⟨v,by rw[zip_cons_cons,eq_of_beq lW];exact cM ..,aq⟩
  |false=>
   rw[lW] at e;refine ah (aw bf e) λu bD jr=>?_;exact⟨u,by rw[zip_cons_cons];exact en _ bD,jr⟩
theorem p4:∀{names:List Str} {args:List ak} {x:Str} {p:ak},(names.zip args).lookup x=some p->p∈args:=by
 intro names;induction names with
 |nil=>intro _ x p e;injection e
 |cons y ns aw=>
  intro args x p e;rcases args with _ |⟨q,ps⟩
  ·injection e
  rw[zip_cons_cons,di] at e;replace e:=e;induction lW:x==y with
  |true=>rw[lW] at e;obtain rfl:=bT e;exact cM ..
  |false=>rw[lW] at e;exact en _ (aw e)
theorem nt:∀{l:List ak} {p:ak},dA l->p∈l->cb p:=by
 intro a9;induction a9 with
 |nil=>
  intro _ _ h;exact absurd h b8
 |cons q r aw=>
  intro p f h;rcases bI.mp h with rfl |h
  ·exact f.1
  ·exact aw f.2 h
theorem j9{l:List ak}(h:∀p∈l,cb p):dA l:=by
 induction l with
 |nil=>trivial
 |cons p r aw=>exact⟨h p (cM ..),aw λq aG=>h q (en _ aG)⟩
theorem vG:∀{names:List Str} {vs:List Value},vs.length=names.length->(names.zip vs).map (·.1)=names:=by
 intro names;induction names with
 |nil=>exact λ_=>rfl
 |cons y ns aw=>
  intro vs e;rcases vs with _ |⟨v,vs⟩
  ·injection e
  rw[zip_cons_cons,map_cons,aw (by simpa using e)]
theorem cellsFrom_some{x:Str}:∀{names:List (Str×NameKind)} {n:Nat} {acc:List (Str×Addr)},((acc.lookup x).isSome=true\/names.lookup x=some .cell)->((cellsFrom n names acc).lookup x).isSome=true:=by
 intro a9;induction a9 with
 |nil=>
  intro n acc h;rcases h with h |h
  ·exact h
  ·injection h
 |cons hJ r aw=>
  obtain⟨y,k⟩:=hJ;intro n acc h;unfold cellsFrom;split
  ·rename_i ar;refine aw ?_;rw[di];induction lW:x==y with
   |true=>exact .inl rfl
   |false=>
    rcases h with h |h
    ·exact .inl h
    ·rw[di,lW] at h;exact .inr h
  ·rename_i ar;refine aw ?_;rcases h with h |h
   ·exact .inl h
   ·rw[di] at h;replace h:=h;induction lW:x==y with
    |true=>
     rw[lW] at h;obtain rfl:=bT h;exact absurd rfl ar
    |false=>rw[lW] at h;exact .inr h
structure c6 (env:Env) (sc:Scope):Prop where
 kind:∀y k,k≠ .free->sc.names.lookup y=some k->env.kindOf y=some k
 free:∀y,sc.names.lookup y=some .free->env.kindOf y=some .free\/env.kindOf y=some .cell
 cell:∀y,(sc.names.lookup y=some .cell\/sc.names.lookup y=some .free)->(env.cells.lookup y).isSome=true
 fn:env.scope.kind= .function
abbrev sA(w:World)(f c:Addr)(names:List Str)(o cP:Obj)(fd:FuncData)(body:List Stmt)(il:Array Value)(kX:Tok)(sc:Scope)(kq:Str):Prop:=
 ((KF w).lookup f=some o)/\(o.data= .func fd)/\(fd.code= .ref c)/\((KF w).lookup c=some cP)/\(cP.data= .fields il)/\(il[1]? =some (.str fd.qualname kX))/\(fd.body= .stmts body)/\(names.Nodup)/\(fd.closure=[])/\(fd.globals=3)/\(fd.builtins=0)/\(∀L,∀x∈names,fd.scope.names.lookup x=some .local\/(fd.scope.names.lookup x=some .cell/\((cellsFrom (L+1) fd.scope.names []).lookup x).isSome=true))/\(fd.scope.kind= .function)/\(fd.scope.isCoroutine=false)/\(fd.scope.isGenerator=false)/\(fd.scope=sc)/\(fd.qualname=kq)/\((sc.names.all λx=>x.2 != .free)=true)
def Cl(prog:Program)(w:World)(n:Nat)(f:Value)(args:List ak)(p:ak):Prop:=
 ∀(W:Addr->Prop) (A:Around) (s:Shared) (vs:List Value) (Q:Value->Shared->Prop) (E:Value->Shared->Prop),bK n A->G w s.heap->eB W s.heap->bJ w s.heap W args vs->
  (∀v s',a6 w s'.heap W p v->Ext s s'->G w s'.heap->Q v s')->wpAny (model prog w) A (call f vs) Q E s
variable {args rX l' ry ps:List ak}
theorem dY.cl{f:Addr}{p:ak}(h:dY prog w n f args p):Cl prog w n (.ref f) args p:=h
theorem Cl.le{k:Nat}{f:Value}{p:ak}(h:Cl prog w n f args p)(ar:n<=k):Cl prog w k f args p:=λW A s vs Q E ai=>h W A s vs Q E (ai.le ar)
def aK(prog:Program)(w:World)(n:Nat)(env:Env)(m:Loc)(pos:Pos)(es:List Expr)(ps:List ak):Prop:=
 ∀(W:Addr->Prop) (A:Around) (s:Shared) (Q:List Value->Shared->Prop) (E:Value->Shared->Prop),bK n A->St w env W m s.heap->
  (∀vs s',bJ w s'.heap W ps vs->Ext s s'->G w s'.heap->Q vs s')->wpAny (model prog w) A (spliced (backTo pos (starEach es env))) Q E s
def Callee(w:World)(f:Value):Prop:=(∃id,f= .builtin id)\/(∃T,f= .type T)\/∃a o fd,f= .ref a/\(KF w).lookup a=some o/\o.data= .func fd
variable {es ifs:List Expr} {elt eE me test vj:Expr} {hi:Option Expr} {vs:List Value}
theorem aK.nil:aK prog w n env m pos [] []:=λW A s Q E ai x h=>Calls.spliced_nil (h [] s rfl (.refl s) x.g)
theorem aK.cons{e:Expr}{p:ak}(he:Ev prog w n env m e p)(bf:aK prog w n env m pos es ps)(hs:starEach (e::es) env=(false,eval e env)::starEach es env):aK prog w n env m pos (e::es) (p::ps):=λW A s Q E ai x h=>by
 rw[hs];show wpAny _ _ (spliced ((false,eval e env)::backTo pos (starEach es env))) _ _ _;refine Calls.spliced_cons (he W A s _ E ai x λv au aq az aF=>bf W A au _ E ai (x.ext az aF) λvs aL bb aR aY=>?_);exact h _ _ ⟨v,vs,rfl,aq.ext aF aR,bb⟩ (az.trans aR) aY
theorem g8{M:Model}{f:Value}{l:List (Bool×Sem Value)}{Q:Args->Shared->Prop}(ao:∀x∈l,x.1=false)(h:wpAny M A (spliced l) (λvs s'=>Q ⟨vs,[]⟩ s') E s):wpAny M A (evalArgs f true l []) Q E s:=by
 induction l with
 |nil=>
  unfold evalArgs;show wpAny M A (spliced [] >>=_) Q E s;refine aH (wpAny_mono h (λvs s' h'=>?_) λ_ _ x=>x);refine aH (bu ?_);refine wpAny_holding ?_;exact aH (bu (aH (bu (bu h'))))
 |cons x r=>
  obtain⟨b,t⟩:=x;obtain rfl:b=false:=ao _ (cM ..);exact Calls.evalArgs_plain h
theorem ja{l:List (Bool×Sem Value)}(h:l.any (·.1)=false):∀x∈backTo pos l,x.1=false:=by
 intro x ag;unfold backTo at ag;refine ah (bA.mp ag) λy av aU=>?_;subst aU;have:=List.any_eq_false.mp h y av;exact Bool.eq_false_iff.mpr this
theorem j5{l:List (Bool×Sem Value)}(h:∀x∈l,x.1=false):l.any (·.1)=false:=List.any_eq_false.mpr λx ag=>by rw[h x ag];decide
theorem callWith_of{f:Value}{first:List Value}{fp:List ak}{p:ak}(hf:Callee w f)(ai:bK n A)(x:St w env W m s.heap)
  (Nx:bJ w s.heap W fp first) (af:aK prog w n env m pos es ps) (U:Cl prog w n f (fp++ps) p) (cv:(starEach es env).any (·.1)=false)
  (h:∀v s',a6 w s'.heap W p v->Ext s s'->G w s'.heap->Q v s'):wpAny (model prog w) A (callWith pos f first (backTo pos (starEach es env)) []) Q E s:=by
 have I:=ja (pos:=pos) cv;have key:∀R:Shared->Prop,(∀s',Ext s s'->R s')->wpAny (model prog w) A (evalArgs f true (backTo pos (starEach es env)) []) (λa au=>R au/\wpAny (model prog w) A (call f (first++a.pos) a.kw) Q E au) E s:=λR lC=>by
  refine g8 I (af W A s _ E ai x λvs au bb az aF=>⟨lC au az,?_⟩);exact U W A au (first++vs) Q E ai aF (x.ext az aF).low ((Nx.ext x.g az).app bb) λv s' aq e g=>h v s' aq (az.trans e) g
 rcases hf with⟨id,rfl⟩ |⟨T,rfl⟩ |⟨a,o,fd,rfl,ar,hd⟩
 ·exact Calls.callWith_builtin (j5 I) (wpAny_mono (key (λ_=>True) λ_ _=>trivial) (λ_ _ h=>h.2) λ_ _ e=>e)
 ·exact PySem.callWith_type (j5 I) (wpAny_mono (key (λ_=>True) λ_ _=>trivial) (λ_ _ h=>h.2) λ_ _ e=>e)
 ·refine Calls.callWith_function (o:=o) (fd:=fd) (wpAny_mono (key (λs'=>s'.heap.get? a=some o) λs' e=>?_) (λ_ _ h=>⟨⟨h.1,hd⟩,h.2⟩) λ_ _ e=>e);exact e.keep _ _ (Fv ar) (x.g.K _ _ ar)
theorem Ev.call{f:Value}{p:ak}(iD:Ev prog w n env m eE (.val f))(hf:Callee w f)(af:aK prog w n env m pos es ps)(U:Cl prog w n f ps p)(cv:(starEach es env).any (·.1)=false)
  (fo:eval (.Call eE es [] pos) env=(do callWith pos (<-eval eE env) [] (backTo pos (starEach es env)) (backToKw pos (keywordEach [] env)))):Ev prog w n env m (.Call eE es [] pos) p:=λW A s Q E ai x h=>by
 rw[fo];refine aH (iD W A s _ E ai x λv au aq az aF=>?_);rw[show v=f from aq];exact callWith_of (fp:=[]) hf ai (x.ext az aF) rfl af U cv λv s' aq e g=>h v s' aq (az.trans e) g
structure Meth (T:String) (name:Str) (id:String):Prop where
 ho:PlainAttrs T
 slot:Slot T name id
 ty:typeOf (.builtin id)=pure (.type "method_descriptor")
def Typed(w:World)(p:ak)(T:String):Prop:=∀(W:Addr->Prop) (s:Shared) (v:Value),G w s.heap->a6 w s.heap W p v->s.TypeIs v T/\∀a,v= .ref a->∃ob,s.heap.get? a=some ob/\ob.dict=none
theorem Typed.str{x:Str}:Typed w (.str x) "str":=λW s v _ P6=>aP P6 λt e=>by subst e;exact⟨typeIs_str _ _ _,λa q=>by injection q⟩
theorem Typed.list{l:List ak}:Typed w (.list l) "list":=λW s v _ P9=>cg P9 λa vs n e _ aj _=>by subst e;exact⟨⟨_,aj,rfl⟩,λa q=>by(injection q with bB;subst bB);exact⟨_,aj,rfl⟩⟩
theorem Typed.bw{l:List ak}:Typed w (.bw l) "list":=λW s v _ QP=>cg QP λa vs n e _ aj _=>by subst e;exact⟨⟨_,aj,rfl⟩,λa q=>by(injection q with bB;subst bB);exact⟨_,aj,rfl⟩⟩
theorem Typed.tup{l:List ak}:Typed w (.tup l) "tuple":=λW s v _ Q2=>cg Q2 λa vs n e _ aj _=>by subst e;exact⟨⟨_,aj,rfl⟩,λa q=>by(injection q with bB;subst bB);exact⟨_,aj,rfl⟩⟩
theorem Typed.dict{ks:List Str}{l:List ak}:Typed w (.dict ks l) "dict":=λW s v _ Py=>cg Py λa vs n e _ aj _=>by subst e;exact⟨⟨_,aj,rfl⟩,λa q=>by(injection q with bB;subst bB);exact⟨_,aj,rfl⟩⟩
theorem Typed.eH{ks:List Str}{l:List ak}:Typed w (.eH ks l) "dict":=λW s v _ Qt=>cg Qt λa vs n e _ aj _=>by subst e;exact⟨⟨_,aj,rfl⟩,λa q=>by(injection q with bB;subst bB);exact⟨_,aj,rfl⟩⟩
theorem jF{o:Expr}{name:Str}{T id:String}{p:ak}(mt:Meth T name id)(aj:Ev prog w n env m o q)(bE:Typed w q T)(af:aK prog w n env m pos es ps)(U:Cl prog w n (.builtin id) (q::ps) p)
  (cv:(starEach es env).any (·.1)=false) (gS:attributeBase o name env (eval o env)=eval o env)
  (iS:((backTo pos (starEach es env)).all (λx=> !x.1)&&(backToKw pos (keywordEach [] env)).all (λx=>x.1.isSome)&&decide (es.length+([]:List Keyword).length+(if([]:List Keyword).isEmpty then 0 else 1) < 30))=true)
  (gA:(apos.endLine==pos.line)=true):Ev prog w n env m (.Call (.Attribute o name apos) es [] pos) p:=λW A s Q E ai x h=>by
 refine wpAny_Call_method gS iS gA mt.ho mt.slot mt.ty (aj W A s _ E ai x λv au aq az aF=>?_);refine aE (bE W au v aF aq) λab ae=>?_;refine⟨ab,ae,?_⟩;exact callWith_of (fp:=[q]) (.inl ⟨id,rfl⟩) ai (x.ext az aF) (.one aq) af U cv λv s' aq e g=>h v s' aq (az.trans e) g
theorem Ev.item{v i:Expr}{k p:ak}{T id:String}(aq:Ev prog w n env m v q)(hi:Ev prog w n env m i k)(bE:Typed w q T)(ao:typeLookup (.type T) "__getitem__"=pure (some (.builtin id)))(dj:cA prog w getItem q k p)
  (hs:∀o j,subscripted i false o j=operate [o,j] (getItem o j)):Ev prog w n env m (.Subscript v i pos) p:=λW A s Q E ai x h=>by
 refine PyProof.Rows.Subscript_ (aq W A s _ E ai x λa au af az aF=>hi W A au _ E ai (x.ext az aF) λb aL I aR aY=>?_);have Gn:=af.ext aF aR;refine PyProof.Rows.tail_any (bE W aL a aY Gn).1 ao (dj W A aL a b Q E (ai.le (c0 _)) aY ((x.ext az aF).ext aR aY).low Gn I λv s' aq e g=>h v s' aq ((az.trans aR).trans e) g) (hs a b)
theorem En{k:Int}(h0:0<=k)(h:k < n):seqIndex? k n=some k.toNat:=by
 unfold seqIndex?;have ab:¬k < 0:=by walk_at"o"
 simp only[ab,if_false];rw[aQ (by simp only[Bool.and_eq_true,decide_eq_true_eq];walk_at"o")]
theorem iL{α:Type}{l:List α}{p:α}(h:l[i]? =some p):i < l.length:=by
 rcases Nat.lt_or_ge i l.length with q |q
 ·exact q
 ·rw[getElem?_eq_none q] at h;injection h
theorem yV{k:Int}(ar:k < n)(aA:n<=sizeLine):k < 2 ^ 63:=by
 have:sizeLine=2 ^ 24:=rfl;walk_at"o"
theorem cA.item{l:List ak}{k:Int}{p:ak}(h0:0<=k)(aa:l[k.toNat]? =some p)(hz:l.length<=sizeLine):cA prog w getItem (.list l) (.int k) p:=λW A s _ _ Q E r g _ fm hH h=>by
 refine cg fm λa vs n e aW aj hs=>?_;refine aP hH λu aO=>?_;subst e aO;refine ah (hs.at aa) λv ab ae=>?_;exact wpAny_getItem_list ⟨_,aj,rfl,n,rfl⟩ h0 (yV (n:=l.length) (by have:=iL aa;walk_at"o") hz) (by simpa using ab) (h _ _ ae (.refl s) g)
theorem CD{l:List ak}{k:Int}{p:ak}(h0:0<=k)(aa:l[k.toNat]? =some p)(hz:l.length<=sizeLine):cA prog w getItem (.bw l) (.int k) p:=λW A s _ _ Q E r g _ jW l5 h=>by
 refine cg jW λa vs n e aW aj hs=>?_;refine aP l5 λu aO=>?_;subst e aO;refine ah (hs.at aa) λv ab ae=>?_;exact wpAny_getItem_list ⟨_,aj,rfl,n,rfl⟩ h0 (yV (n:=l.length) (by have:=iL aa;walk_at"o") hz) (by simpa using ab) (h _ _ ae (.refl s) g)
theorem I6{l:List ak}{k:Int}{p:ak}(h0:0<=k)(aa:l[k.toNat]? =some p)(hz:l.length<=sizeLine):cA prog w getItem (.tup l) (.int k) p:=λW A s _ _ Q E r g _ nU n1 h=>by
 refine cg nU λa vs n e aW aj hs=>?_;refine aP n1 λu aO=>?_;subst e aO;refine ah (hs.at aa) λv ab ae=>?_;have cu:=iL aa;exact PyProof.Rows.getItem_tuple ⟨_,aj,rfl,n,rfl⟩ (by walk_at"o") (yV (n:=l.length) (by walk_at"o") hz) (j:=k.toNat) (by rw[show(⟨vs⟩:Array Value).size=vs.length from rfl];exact En h0 (by rw[<-hs.len];walk_at"o")) (by simpa using ab) (h _ _ ae (.refl s) g)
theorem Cm{l:List ak}{k:Int}{p:ak}(h0:k < 0)(ab: -(l.length:Int)<=k)(aa:l[(k+l.length).toNat]? =some p)(hz:l.length<=sizeLine):cA prog w getItem (.list l) (.int k) p:=λW A s _ _ Q E r g _ n4 oh h=>by
 refine cg n4 λa vs n e aW aj hs=>?_;refine aP oh λu aO=>?_;subst e aO;refine ah (hs.at aa) λv ae aD=>?_;have ao:=hs.len;have:sizeLine=2 ^ 24:=rfl;exact wpAny_getItem_list_neg (items:=⟨vs⟩) ⟨_,aj,rfl,n,rfl⟩ h0 (by show -((vs.length:Nat):Int)<=k;walk_at"o") (by walk_at"o") (by show(⟨vs⟩:Array Value)[(k+(vs.length:Nat)).toNat]? =some v;rw[<-ao];simpa using ae) (h _ _ aD (.refl s) g)
theorem Cg{l:List ak}{k:Int}{p:ak}(h0:k < 0)(ab: -(l.length:Int)<=k)(aa:l[(k+l.length).toNat]? =some p)(hz:l.length<=sizeLine):cA prog w getItem (.bw l) (.int k) p:=λW A s _ _ Q E r g _ n6 uv h=>by
 refine cg n6 λa vs n e aW aj hs=>?_;refine aP uv λu aO=>?_;subst e aO;refine ah (hs.at aa) λv ae aD=>?_;have ao:=hs.len;have:sizeLine=2 ^ 24:=rfl;exact wpAny_getItem_list_neg (items:=⟨vs⟩) ⟨_,aj,rfl,n,rfl⟩ h0 (by show -((vs.length:Nat):Int)<=k;walk_at"o") (by walk_at"o") (by show(⟨vs⟩:Array Value)[(k+(vs.length:Nat)).toNat]? =some v;rw[<-ao];simpa using ae) (h _ _ aD (.refl s) g)
theorem vH{x:Str}{i:Int}(ab: -(x.length:Int)<=i)(ae:i < x.length)(hz:x.length<=sizeLine):cA prog w getItem (.str x) (.int i) (.str (Txt.item x i)):=λW A s _ _ Q E r g _ ux zQ h=>by
 refine aP ux λt e=>?_;refine aP zQ λu aO=>?_;subst e aO;have:sizeLine=2 ^ 24:=rfl;refine bj (SB.item (prog:=prog) (w:=w) (A:=A) (E:=E) (s:=s) (x:=x) (t:=t) (u:=u) (Q:=Q) (i:=i) (by unfold fitsSsize;simp only[Bool.not_eq_true',decide_eq_false_iff_not,Bool.or_eq_false_iff];walk_at"o") (PyProof.Rows.charAt_isSome ab ae) (h _ _ ⟨_,rfl⟩ (.tok s _) g)) λT id a1 a2 dF=>?_;exact dF
def jt(prog:Program)(w:World)(n:Nat)(env:Env)(m:Loc):Option Expr->Option Int->Prop
 |none,none=>True
 |some e,some i=>Ev prog w n env m e (.int i)
 |_,_=>False
theorem ny{e:Option Expr}{i:Option Int}(he:jt prog w n env m e i)(ai:bK n A)(x:St w env W m s.heap)(h:∀v s',IsPart v i->Ext s s'->G w s'.heap->Q v s'):
  wpAny (model prog w) A (valueOrNone (evalOpt e env)) Q E s:=by
 induction e with
 |none=>
  induction i with
  |none=>exact bu (h _ _ .none (.refl s) x.g)
  |some i=>exact he.elim
 |some e=>
  induction i with
  |none=>exact he.elim
  |some i=>exact he W A s Q E ai x λv s' aq e g=>by refine aP aq λt a7=>?_;subst a7;exact h _ _ (.int i t) e g
theorem yd{v:Expr}{lo st:Option Expr}{p:ak}{T id:String}{a b c:Option Int}(aq:Ev prog w n env m v q)(hF:jt prog w n env m lo a)(iU:jt prog w n env m hi b)(cv:jt prog w n env m st c)
  (bE:Typed w q T) (ao:typeLookup (.type T) "__getitem__"=pure (some (.builtin id)))
  (dj:∀(W:Addr->Prop) (A:Around) (s:Shared) (o:Value) (bQ:Addr) (gO gN vs:Value) (Q:Value->Shared->Prop) (E:Value->Shared->Prop),bK 0 A->G w s.heap->eB W s.heap->a6 w s.heap W q o->s.heap.IsSliceOf bQ gO gN vs->IsPart gO a->IsPart gN b->IsPart vs c->
   (∀v s',a6 w s'.heap W p v->Ext s s'->G w s'.heap->Q v s')->wpAny (model prog w) A (getItem o (.ref bQ)) Q E s):Ev prog w n env m (.Subscript v (.Slice lo hi st sp) pos) p:=λW A s Q E ai x h=>by
 refine PyProof.Rows.Subscript_ (aq W A s _ E ai x λo au aj az aF=>?_);show wpAny _ _ (do
  let l<-valueOrNone (evalOpt lo env)
  let u<-holding [l] (valueOrNone (evalOpt hi env))
  let t<-holding [l,u] (valueOrNone (evalOpt st env))
  newFields "slice" [l,u,t]) _ _ _
 have c4:=x.ext az aF;refine aH (ny hF ai c4 λgO aL eU aR aY=>aH (wpAny_holding (ny iU ai (c4.ext aR aY) λgN eb pu d9 eY=>aH (wpAny_holding (ny cv ai ((c4.ext aR aY).ext d9 eY) λiG c9 pt jo mL=>?_)))));refine wpAny_newObj_type ?_ (by show(3:Nat)<=_;decide);have PM:=((c4.ext aR aY).ext d9 eY).ext jo mL;have jO:Ext c9 {c9 with heap:=c9.heap.push {cls:= .type "slice",data:= .fields [gO,gN,iG].toArray}}:= .push ..;have ji:=mL.push {cls:= .type "slice",data:= .fields [gO,gN,iG].toArray};have qT:=(((aj.ext aF aR).ext aY d9).ext eY jo).ext mL jO;have de:(c9.heap.push {cls:= .type "slice",data:= .fields [gO,gN,iG].toArray}).IsSliceOf c9.heap.objs.size gO gN iG:= .new ..;have fin:wpAny (model prog w) A (getItem o (.ref c9.heap.objs.size)) Q E {c9 with heap:=c9.heap.push {cls:= .type "slice",data:= .fields [gO,gN,iG].toArray}}:=
  dj W A _ o _ gO gN iG Q E (ai.le (c0 _)) ji (PM.ext jO ji).low qT de eU pu pt λv s' aq e g=>h v s' aq (((((az.trans aR).trans d9).trans jo).trans jO).trans e) g
 induction st with
 |none=>exact PyProof.Rows.tail_any (bE W _ o ji qT).1 ao fin rfl
 |some st=>exact PyProof.Rows.tail_any (bE W _ o ji qT).1 ao fin rfl
theorem x9{l:List ak}(x:bJ w h W l vs)(rE:List Nat):bJ w h W (rE.filterMap (l[·]?)) (rE.filterMap (vs[·]?)):=by
 induction rE with
 |nil=>exact rfl
 |cons j r aw=>
  rw[filterMap_cons,filterMap_cons];induction aN:l[j]? with
  |some p=>
   refine ah (x.at aN) λv ab ae=>?_;rw[ab];exact⟨v,_,rfl,ae,aw⟩
  |none=>
   have:vs[j]? =none:=by
    have q:l.length<=j:=by simpa using aN
    exact getElem?_eq_none (by rw[<-x.len];exact q)
   rw[this];exact aw
noncomputable def pick(l:List ak)(a b c:Option Int):List ak:=let t:=sliceBounds a b c l.length;(sliceRange t.1 t.2.1 t.2.2).filterMap (l[·]?)
theorem tr{v:Expr}{lo st:Option Expr}{l:List ak}{a b c:Option Int}(aq:Ev prog w n env m v (.list l))(hF:jt prog w n env m lo a)(iU:jt prog w n env m hi b)(cv:jt prog w n env m st c)(h0:c≠some 0)(hz:l.length<=sizeLine):
  Ev prog w n env m (.Subscript v (.Slice lo hi st sp) pos) (.list (pick l a b c)):=by
 refine yd aq hF iU cv Typed.list fD.lookup ?_;intro W A s o bQ gO gN vs Q E ai g low aj de eU pu pt h;refine cg aj λad us n bk aW iw hs=>?_;subst bk;refine wpAny_getItem_list_slice (items:=⟨us⟩) ⟨_,iw,rfl,n,rfl⟩ de eU pu pt h0 ?_ (by show us.length<=_;rw[<-hs.len];exact hz);refine h _ _ ⟨_,(slicePick ⟨us⟩ a b c).toList,0,rfl,low.fresh,dc _ rfl,?_⟩ (.push ..) (g.push _);have e:(slicePick (⟨us⟩:Array Value) a b c).toList=(let t:=sliceBounds a b c us.length;(sliceRange t.1 t.2.1 t.2.2).filterMap (us[·]?)):=by
  unfold slicePick;simp
 rw[e];unfold pick;rw[hs.len];exact(x9 hs _).mono λb o U e=>dV _ e
theorem CS{x:Str}(ag:x.length<=5592405):Cl prog w n (.builtin "str.lower") [.str x] (.str (Txt.lower x)):=λW A s vs Q E ai g low fm h=>by
 refine bj fm λ_ _ ax aU a8=>?_;refine aP aU λt aC=>?_;subst ax aC;rw[show _=[] from a8];exact PyProof.Rows.SCL.lower ag λ_=>h _ _ ⟨_,rfl⟩ (.tok s _) g
theorem CU{x:Str}(ag:x.length<=5592405):Cl prog w n (.builtin "str.upper") [.str x] (.str (Txt.upper x)):=λW A s vs Q E ai g low hH h=>by
 refine bj hH λ_ _ ax a7 a8=>?_;refine aP a7 λt aC=>?_;subst ax aC;rw[show _=[] from a8];exact PyProof.Rows.SCL.upper ag λ_=>h _ _ ⟨_,rfl⟩ (.tok s _) g
theorem Cl.find{x y:Str}:Cl prog w n (.builtin "str.find") [.str x,.str y] (.int (Txt.find x y)):=λW A s vs Q E ai g low jW h=>by
 refine bj jW λ_ _ ax bk b7=>?_;refine bj b7 λ_ _ a8 bz d4=>?_;refine aP bk λt aC=>?_;refine aP bz λu bX=>?_;subst ax aC a8 bX;rw[show _=[] from d4];exact SC.find (h _ _ ⟨_,rfl⟩ (.tok s _) g)
theorem JL{x y:Str}:Cl prog w n (.builtin "str.rfind") [.str x,.str y] (.int (Txt.rfind x y)):=λW A s vs Q E ai g low l5 h=>by
 refine bj l5 λ_ _ ax cC c1=>?_;refine bj c1 λ_ _ a8 c2 d4=>?_;refine aP cC λt aC=>?_;refine aP c2 λu bX=>?_;subst ax aC a8 bX;rw[show _=[] from d4];exact SC.rfind (h _ _ ⟨_,rfl⟩ (.tok s _) g)
theorem JJ{x y:Str}:Cl prog w n (.builtin "str.count") [.str x,.str y] (.int (Txt.count x y)):=λW A s vs Q E ai g low nU h=>by
 refine bj nU λ_ _ ax eM fi=>?_;refine bj fi λ_ _ a8 eJ d4=>?_;refine aP eM λt aC=>?_;refine aP eJ λu bX=>?_;subst ax aC a8 bX;rw[show _=[] from d4];exact SC.count (h _ _ ⟨_,rfl⟩ (.tok s _) g)
theorem HY{x y:Str}:Cl prog w n (.builtin "str.startswith") [.str x,.str y] (.bool (Txt.startswith x y)):=λW A s vs Q E ai g low n1 h=>by
 refine bj n1 λ_ _ ax fJ h3=>?_;refine bj h3 λ_ _ a8 f5 d4=>?_;refine aP fJ λt aC=>?_;refine aP f5 λu bX=>?_;subst ax aC a8 bX;rw[show _=[] from d4];exact SC.startswith (h _ _ rfl (.refl s) g)
theorem Cj{x y:Str}:Cl prog w n (.builtin "str.endswith") [.str x,.str y] (.bool (Txt.endswith x y)):=λW A s vs Q E ai g low n4 h=>by
 refine bj n4 λ_ _ ax h4 nI=>?_;refine bj nI λ_ _ a8 kG d4=>?_;refine aP h4 λt aC=>?_;refine aP kG λu bX=>?_;subst ax aC a8 bX;rw[show _=[] from d4];exact SC.endswith (h _ _ rfl (.refl s) g)
theorem Ew:Meth "str" "lower" "str.lower":=⟨F.plainAttrs_str,F.slot_str_lower,F.type_str_lower⟩
theorem Ex:Meth "str" "upper" "str.upper":=⟨F.plainAttrs_str,F.slot_str_upper,F.type_str_upper⟩
theorem ER:Meth "str" "find" "str.find":=⟨F.plainAttrs_str,F.slot_str_find,F.type_str_find⟩
theorem NL:Meth "str" "rfind" "str.rfind":=⟨F.plainAttrs_str,F.slot_str_rfind,F.type_str_rfind⟩
theorem NF:Meth "str" "count" "str.count":=⟨F.plainAttrs_str,F.slot_str_count,F.type_str_count⟩
theorem I5:Meth "str" "startswith" "str.startswith":=⟨F.plainAttrs_str,F.slot_str_startswith,F.type_str_startswith⟩
theorem Dq:Meth "str" "endswith" "str.endswith":=⟨F.plainAttrs_str,F.slot_str_endswith,F.type_str_endswith⟩
theorem yk{v lo:Expr}{x:Str}{i:Int}(aq:Ev prog w n env m v (.str x))(hF:Ev prog w n env m lo (.int i))(hz:x.length<=sizeLine):
  Ev prog w n env m (.Subscript v (.Slice (some lo) none none sp) pos) (.str (Txt.slice x (some i) none)):=by
 refine yd (a:=some i) (b:=none) (c:=none) aq hF trivial trivial Typed.str F.slot_str_getitem.lookup ?_;intro W A s _ bQ gO gN vs Q E ai g low dg de eU pu pt h;refine aP dg λt dq=>?_;subst dq;cases eU with
 |int i u=>
  cases pu
  cases pt
  exact wpAny_getItem_str_slice (l:=some (i,u)) (u:=none) (st:=none) de rfl (post_val_or_str ⟨Nat.le_trans (Txt.slice_le x _ _) hz,λeV k=>h _ _ ⟨_,rfl⟩ (.tok s _) g⟩)
noncomputable def gQ:Array Nat:= #[14,8,1,2,4294967295,1,1,46,0,16,46,24,9,1,4294967295,13,4,8,0,0,1,6,5,1]
noncomputable def n0(x:Str):Sre.M:=Sre.forSearch gQ x.cps 0 0 x.cps.size false
noncomputable def kj(x:Str):Option Bool:=match((n0 x).runFor 4000).outcome with
 |some .matched=>some true
 |some .failed=>some false
 |_=>none
theorem CC(m:Sre.M)(h:m.outcome.isSome=true):∀k,m.runFor k=m:=by
 intro a9;induction a9 with
 |zero=>
  exact rfl
 |succ k aw=>
  show(if m.outcome.isSome then m else _)=m;rw[aQ h]
theorem CM(a b:Nat):∀m:Sre.M,m.runFor (a+b)=(m.runFor a).runFor b:=by
 induction a with
 |zero=>intro m;rw[Nat.zero_add];rfl
 |succ a aw=>
  intro m;rw[Nat.add_right_comm];show(if m.outcome.isSome then m else(m.step).runFor (a+b))=(if m.outcome.isSome then m else(m.step).runFor a).runFor b;split
  ·rename_i h;rw[CC m h]
  ·exact aw _
theorem Cu{m:Sre.M}{a:Nat}(h:(m.runFor a).outcome.isSome=true)(b:Nat):m.runFor (a+b)=m.runFor a:=by
 rw[CM,CC _ h]
theorem Lu{M:Model}{Q:Sre.M->Shared->Prop} :∀(k turns:Nat) (m:Sre.M),k < turns->(m.runFor (4*k+4)).outcome.isSome=true->Q (m.runFor (4*k+4)) s->wpAny M A (Builtin.Re.reDrive turns m) Q E s:=by
 intro k t;induction t generalizing k with
 |zero=>exact λ_ h=>absurd h (Nat.not_lt_zero _)
 |succ t aw=>
  intro m h aj aG;rw[Builtin.Re.reDrive];show wpAny M A (if(m.runFor 4).outcome.isSome then pure (m.runFor 4) else do rule "sre.turn";Builtin.Re.reDrive t (m.runFor 4)) Q E s;split
  ·rename_i bc;have:m.runFor (4*k+4)=m.runFor 4:=by rw[Nat.add_comm];exact Cu bc _
   rw[this] at aG;exact bu aG
  ·rename_i bc;induction k with
   |zero=>exact absurd aj bc
   |succ k=>
    have e:m.runFor (4*(k+1)+4)=(m.runFor 4).runFor (4*k+4):=by rw[<-CM];congr 1;walk_at"o"
    rw[e] at aj aG;exact aH (wpAny_rule (aw k (m.runFor 4) (by walk_at"o") aj aG))
theorem Lv{M:Model}{α:Type}{f:α->PUnit->Sem (ForInStep PUnit)}(hf:∀(a:α) (u:PUnit) (R:ForInStep PUnit->Shared->Prop),(∀BX,R (.yield BX) s)->wpAny M A (f a u) R E s):
  ∀(l:List α) (u:PUnit) (Q:PUnit->Shared->Prop),(∀u,Q u s)->wpAny M A (forIn l u f) Q E s:=by
 intro l;induction l with
 |nil=>intro u Q h;rw[forIn_nil];exact bu (h u)
 |cons a l aw=>
  intro u Q h;rw[forIn_cons];exact aH (hf a u _ λBX=>aw BX Q h)
theorem NT{M:Model}{Q:Option Sre.M->Shared->Prop}{x:Str}{b:Bool}(I:kj x=some b)(h:∀m:Sre.M,Q (if b then some m else none) s):wpAny M A (Builtin.Re.reRunToEnd (n0 x)) Q E s:=by
 unfold Builtin.Re.reRunToEnd;have aj:((n0 x).runFor (4*999+4)).outcome.isSome=true:=by
  unfold kj at I;induction e:((n0 x).runFor 4000).outcome with
  |none=>rw[e] at I;injection I
  |some o=>rfl
 refine aH (Lu 999 (2 ^ 64) (n0 x) (by decide) aj ?_);refine aH (Lv (λi u R lC=>?_) _ _ _ λu=>?_)
 ·split
  ·exact aH (wpAny_rule (bu (lC _)))
  ·exact bu (lC _)
 ·show wpAny M A (match((n0 x).runFor 4000).outcome with |some .matched=>pure (some _) |some .failed=>pure none |some (.stuck why)=>unsupported _ |none=>unsupported _) Q E s;unfold kj at I;induction e:((n0 x).runFor 4000).outcome with
  |none=>rw[e] at I;injection I
  |some o=>
   rw[e] at I;replace I:=I;induction o with
   |matched=>obtain rfl:=bT I;exact bu (h _)
   |failed=>obtain rfl:=bT I;exact bu (h J9)
   |stuck=>injection I
where
 J9:Sre.M:=Sre.forSearch #[] #[] 0 0 0 false
theorem Cv:Slot "re.Pattern" "search" "re.Pattern.search":=
 .of (owner:="re.Pattern") (n:="search") (by rw[typeLookup_type,builtinLookup_eq_fast];kernel_rfl) (by kernel_rfl) (by kernel_rfl) (by kernel_rfl)
  (by first |exact .inl (by decide+kernel) |exact .inr (by decide+kernel)) (by rw[isSubtype_type];kernel_rfl)
theorem Jl:typeOf (.builtin "re.Pattern.search")=pure (.type "method_descriptor"):=by show builtinType _=_;rw[builtinType_eq_fast];kernel_rfl
theorem IU:entryFor table "re.Pattern.search"=some Builtin.«re.Pattern.search»:=entryFor_of_tree (by kernel_rfl)
theorem HO:PlainAttrs "re.Pattern":=⟨⟨"object.__getattribute__",by rw[typeLookup_type,builtinLookup_eq_fast];kernel_rfl,by kernel_rfl⟩,by rw[typeLookup_type,builtinLookup_eq_fast];kernel_rfl⟩
theorem IZ(a b:Value):argsOk "re.Pattern.search" ⟨[a,b],[]⟩:=by unfold argsOk;kernel_rfl
theorem wU(w:World):(KF w).lookup 43=some {cls:= .type "re.Pattern",data:= .fields #[.str "\\.\\d+$" 292,.int 256 319,.int 0 0,.none,.none,.ref 42,.int 0 0]}:=by kernel_rfl
theorem P7(w:World):(KF w).lookup 42=some {cls:= .type "tuple",data:= .seq (gQ.map λc=> .int (c:Nat) 0)}:=by kernel_rfl
theorem HW:Typed w (.val (.ref 43)) "re.Pattern":=λW s v g e=>by
 rw[show v= .ref 43 from e];exact⟨⟨_,g.K _ _ (wU w),rfl⟩,λa q=>by(injection q with bB;subst bB);exact⟨_,g.K _ _ (wU w),rfl⟩⟩
theorem I2{x:Str}{b:Bool}(I:kj x=some b)(ag:x.length<=sizeLine):Cl prog w n (.builtin "re.Pattern.search") [.val (.ref 43),.str x] (if b then .obj "re.Match" else .none):=λW A s vs Q E ai g low oh h=>by
 refine bj oh λ_ _ ax aC qE=>?_;refine bj qE λ_ _ a8 nO d4=>?_;refine aP nO λu bX=>?_;subst ax a8 bX;rw[show _=[] from d4,show _=Value.ref 43 from aC];refine wpAny_call_entry Cv ⟨_,g.K _ _ (wU w),rfl⟩ IU ?_ (IZ _ _);have pM:Builtin.Re.reNamed "re.Pattern.search" "search" ["string","pos","endpos"] 1 [.str x u] []=pure [some (.str x u),none,none]:=by kernel_rfl
 have key:wpAny (model prog w) A.in1 (Builtin.Re.reTarget "re.Pattern.search" "search" ⟨[.ref 43,.str x u],[]⟩) (λt s'=>t={pattern:= .ref 43,string:= .str x u,code:=gQ,text:=x.cps,kind:=0,groups:=0,pos:=0,lim:=x.cps.size}/\s'=s) E s:=by
  unfold Builtin.Re.reTarget;refine aH (wpAny_of_eq pM ?_);refine aH (bu (aH (bu ?_)));refine aH (wpAny_fieldsOf (g.K _ _ (wU w)) rfl ?_);refine aH (show wpAny _ _ (Builtin.Re.reTextOf (.str x u)) _ _ _ from aH (bu (bu ?_)));refine aH (show wpAny _ _ (Builtin.Re.reNoCollectionInside (.str x u) 0) _ _ _ from bu ?_);refine aH (show wpAny _ _ (do return ((<-seqItems? (.ref 42)).getD #[]).map Builtin.Re.reRawOf) _ _ _ from aH (wpAny_seqItems (g.K _ _ (P7 w)) rfl (bu ?_)));refine bu ⟨?_,rfl⟩;have ab:(Array.map (λz=>z.toNat) (Array.map Builtin.Re.reRawOf (Option.getD (some (gQ.map λc=>Value.int (c:Nat) 0)) #[])))=gQ:=by kernel_rfl
  have ae:min (Int.toNat 0) x.cps.size=0:=by exact rfl
  have aD:min (Int.toNat (2 ^ 63 - 1)) x.cps.size=x.cps.size:=by
   have:x.cps.size<=sizeLine:=ag;have hs:sizeLine=2 ^ 24:=rfl;walk_at"o"
  simp only[ab,ae,aD];rfl
 refine aH (m:=Builtin.Re.reTarget "re.Pattern.search" "search" ⟨[.ref 43,.str x u],[]⟩) (wpAny_mono key (λt s' q=>?_) λ_ _ e=>e);refine aE q λqP uh=>?_;subst qP;subst uh;show wpAny _ _ (do
  match<-Builtin.Re.reRunToEnd (n0 x) with
  |some m=>ret (<-Builtin.Re.reNewMatch (.ref 43) (.str x u) 0 0 x.cps.size m)
  |none=>ret .none) _ _ _
 refine aH (NT I λm=>?_);induction b with
 |false=>exact bu ⟨_,rfl,h _ _ rfl (.refl _) g⟩
 |true=>
  show wpAny _ _ (do ret (<-Builtin.Re.reNewMatch (.ref 43) (.str x u) 0 0 x.cps.size m)) _ _ _;refine aH ?_;unfold Builtin.Re.reNewMatch;show wpAny _ _ (do newFields "re.Match" [.str x u,.ref 43,rawInt ((0:Nat):Int),rawInt ((x.cps.size:Nat):Int),rawInt m.lastindex, <-newTuple (rawInt (m.start:Nat)::rawInt (m.handed:Nat)::[])]) _ _ _;refine aH (wpAny_newObj_type ?_ (by show(2:Nat)<=_;decide));refine wpAny_newObj_type (bu ⟨_,rfl,?_⟩) (by show(6:Nat)<=_;decide);refine h _ _ ⟨_,_,rfl,?_,dc _ rfl,rfl⟩ ((Ext.push ..).trans (.push ..)) ((g.push _).push _);exact(low.kt (.of λ_ _ e=>dV _ e)).fresh
theorem M5:Meth "re.Pattern" "search" "re.Pattern.search":=⟨HO,Cv,Jl⟩
theorem IF:gR prog w (.obj "re.Match") true:=λW A s _ Q E r g n6 h=>by
 refine h8 n6 λa o e _ aj U=>?_;subst e;have bE:s.TypeIs (.ref a) "re.Match":=⟨o,aj,U⟩
 unfold truthy callSpecial?;refine aH (aH (wpAny_specialOf bE (show typeLookup (.type "re.Match") "__bool__"=pure none by rw[typeLookup_type,builtinLookup_eq_fast];kernel_rfl) (bu ?_)));refine aH (wpAny_specialOf bE (show typeLookup (.type "re.Match") "__len__"=pure none by rw[typeLookup_type,builtinLookup_eq_fast];kernel_rfl) ?_);exact bu (h _ (.refl s) g)
theorem bS{x y:Str}{p:ak}(h:(y==x)=false)(e:m.lookup y=some q):List.lookup y ((x,p)::m)=some q:=by
 rw[di,h];exact e
theorem qc{sc:Scope}{x:Str}{k:NameKind}(h:c6 env sc)(ar:k≠ .free)(e:sc.names.lookup x=some k):env.kindOf x=some k:=h.kind x k ar e
theorem ML{sc:Scope}{x:Str}(h:c6 env sc)(e:sc.names.lookup x=some .cell):(env.cells.lookup x).isSome=true:=h.cell x (.inl e)
variable {O heads names order out gB:List Str}
theorem kinds_of{sc:Scope}(h:(names.all λx=>sc.names.lookup x==some .local||sc.names.lookup x==some .cell)=true):
  ∀L,∀x∈names,sc.names.lookup x=some .local\/(sc.names.lookup x=some .cell/\((cellsFrom (L+1) sc.names []).lookup x).isSome=true):=by
 intro L x ag;have:=List.all_eq_true.mp h x ag;rcases Bool.or_eq_true_iff.mp this with q |q
 ·exact .inl (beq_iff_eq.mp q)
 ·exact .inr ⟨beq_iff_eq.mp q,cellsFrom_some (.inr (beq_iff_eq.mp q))⟩
theorem qt{α:Type}{l:List α}{G:Prop}(h:l.length=n+1)(k:∀x r,l=x::r->r.length=n->G):G:=by
 rcases l with _ |⟨x,r⟩
 ·injection h
 ·exact k x r rfl (Nat.succ.inj h)
variable {fd:FuncData}
theorem bind1{a:Str}(h:∀x,bindArgs fd ⟨[x],[]⟩=pure [(a,x)])(vs:List Value)(l:vs.length=[a].length):bindArgs fd ⟨vs,[]⟩=pure ([a].zip vs):=
 qt l λx r e l=>by rw[e,List.length_eq_zero_iff.mp l];exact h x
theorem r7{a b:Str}(h:∀x y,bindArgs fd ⟨[x,y],[]⟩=pure [(a,x),(b,y)])(vs:List Value)(l:vs.length=[a,b].length):bindArgs fd ⟨vs,[]⟩=pure ([a,b].zip vs):=
 qt l λx r e l=>qt l λy r' aO l=>by rw[e,aO,List.length_eq_zero_iff.mp l];exact h x y
theorem OF{a b c:Str}(h:∀x y z,bindArgs fd ⟨[x,y,z],[]⟩=pure [(a,x),(b,y),(c,z)])(vs:List Value)(l:vs.length=[a,b,c].length):bindArgs fd ⟨vs,[]⟩=pure ([a,b,c].zip vs):=
 qt l λx r e l=>qt l λy r' aO l=>qt l λz eR Ak l=>by rw[e,aO,Ak,List.length_eq_zero_iff.mp l];exact h x y z
theorem Mc:nsIn (KF w) 3 "IPV4_RE"=some (some (.ref 43)):=by kernel_rfl
theorem yZ:nsIn (KF w) 3 "is_HDN"=some (some (.ref 50)):=by kernel_rfl
theorem tS:nsIn (KF w) 3 "domain_match"=some (some (.ref 57)):=by kernel_rfl
theorem Ke:nsIn (KF w) 3 "reach"=some (some (.ref 64)):=by kernel_rfl
theorem k1{e:Expr}{i:Int}(he:Ev prog w n env m e (.int i)):Ev prog w n env m (.UnaryOp .USub e pos) (.int (-i)):=λW A s Q E ai x h=>by
 show wpAny _ _ (do let v<-eval e env;standAt pos;holding [v] (unaryOp .USub v)) _ _ _;refine aH (he W A s _ E ai x λv au aq az aF=>aH (wpAny_standAt (wpAny_holding ?_)));refine aP aq λt aU=>?_;subst aU;exact PyProof.Rows.neg_int (h _ _ ⟨_,rfl⟩ (az.trans (.tok au _)) aF)
theorem Jf{e:Expr}{x:Str}{b:Bool}(ar:env.kindOf "IPV4_RE"=some .globalImplicit)(he:Ev prog w n env m e (.str x))(I:kj x=some b)(ag:x.length<=sizeLine)(hs:starEach [e] env=[(false,eval e env)])(gA:(apos.endLine==pos.line)=true):
  bV prog w n env m (.Call (.Attribute (.Name "IPV4_RE" bW) "search" apos) [e] [] pos) b:=by
 refine bV.plain (jF M5 (fC ar Mc (by kernel_rfl)) HW (aK.cons he aK.nil hs) (I2 I ag) (by rw[hs];rfl) rfl (by rw[hs];rfl) gA) ?_ (λ_=>rfl);cases b
 ·exact gR.none
 ·exact IF
def cw(prog:Program)(w:World)(p:ak)(ps:List ak):Prop:=
 ∀(W:Addr->Prop) (A:Around) (s:Shared) (v:Value) (Q:Value->Shared->Prop) (E:Value->Shared->Prop),bK 0 A->G w s.heap->eB W s.heap->a6 w s.heap W p v->
  (∀(bh:Addr) (fp wr:List Addr) (P:Nat->Value->Prop) (T:Nat->Heap->Prop) (aL:Shared),Ext s aL->G w aL.heap->Walks prog w A bh fp wr ps.length P T->T 0 aL.heap->(∀b∈wr,s.heap.get? b=none)->(∀b∈fp,(∃o,aL.heap.get? b=some o)/\¬cf b)->(∀i h,T i h->∀b∈wr,∃o,h.get? b=some o/\cx o)->(∀b∈fp,b∈wr\/((∃o,s.heap.get? b=some o)/\(cb p->¬W b)))->
   (∀i u,P i u->∃q,ps[i]? =some q/\a6 w s.heap W q u)->Q (.ref bh) aL)->wpAny (model prog w) A (pyIter v) Q E s
variable {vl:Prop}
theorem Dn{a:Addr}(ai:bK 0 A)(g:G w s.heap)(low:eB W s.heap)
  (aj:s.heap.get? a=some {cls:= .type "list",data:= .seq ⟨vs⟩ n}) (hs:bJ w s.heap W ps vs) (A4:vl->¬W a)
  (h:∀(bh:Addr) (fp wr:List Addr) (P:Nat->Value->Prop) (T:Nat->Heap->Prop) (aL:Shared),Ext s aL->G w aL.heap->Walks prog w A bh fp wr ps.length P T->T 0 aL.heap->(∀b∈wr,s.heap.get? b=none)->(∀b∈fp,(∃o,aL.heap.get? b=some o)/\¬cf b)->(∀i h,T i h->∀b∈wr,∃o,h.get? b=some o/\cx o)->(∀b∈fp,b∈wr\/((∃o,s.heap.get? b=some o)/\(vl->¬W b)))->
   (∀i u,P i u->∃q,ps[i]? =some q/\a6 w s.heap W q u)->Q (.ref bh) aL):wpAny (model prog w) A (pyIter (.ref a)) Q E s:=by
 have ao:s.heap.IsList a ⟨vs⟩:=⟨_,aj,rfl,n,rfl⟩
 refine wpAny_pyIter_list ao ?_;have bY:a≠s.heap.objs.size:=Nat.ne_of_lt (lt_size aj);have aW:=Walks.list (prog:=prog) (w:=w) ai.calm s.heap.objs.size a bY ⟨vs⟩;have e:(⟨vs⟩:Array Value).size=ps.length:=hs.len.symm;rw[e] at aW;refine h _ _ _ _ _ _ (.push ..) (g.push _) aW ⟨⟨_,dc _ rfl,rfl,rfl⟩,ao.push _⟩ (λb I=>?_) (λb I=>?_) (λi h bE b I=>?_) (λb I=>?_) λi u bD=>?_
 ·simp at I;subst I;exact er _
 ·simp at I;rcases I with rfl |rfl
  ·exact⟨⟨_,dc _ rfl⟩,g.fu (er _)⟩
  ·exact⟨⟨_,dV _ aj⟩,g.fY aj eG⟩
 ·simp at I;subst I;refine aE bE λaU _=>?_;refine dK aU λo ax aC _=>?_;exact⟨o,ax,.inl (by rw[aC];decide)⟩
 ·simp at I;rcases I with rfl |rfl
  ·exact .inl (by exact .head _)
  ·exact .inr ⟨⟨_,aj⟩,A4⟩
 ·exact hs.at' (by simpa using bD)
theorem cw.list:cw prog w (.list ps) ps:=λW A s v Q E ai g low Qn h=>cg Qn λa vs n e aW aj hs=>by subst e;exact Dn ai g low aj hs (λ_=>aW) h
theorem cw.bw:cw prog w (.bw ps) ps:=λW A s v Q E ai g low Qs h=>cg Qs λa vs n e aW aj hs=>by subst e;exact Dn ai g low aj hs (λq=>q.elim) h
theorem cw.tup:cw prog w (.tup ps) ps:=λW A s v Q E ai g low fm h=>by
 refine cg fm λa vs n e ll aj hs=>?_;subst e;have ao:s.heap.IsTuple a ⟨vs⟩:=⟨_,aj,rfl,n,rfl⟩
 refine wpAny_pyIter_tuple ao ?_;have bY:a≠s.heap.objs.size:=Nat.ne_of_lt (lt_size aj);have aW:=Walks.tuple (prog:=prog) (w:=w) ai.calm s.heap.objs.size a bY ⟨vs⟩;have e:(⟨vs⟩:Array Value).size=ps.length:=hs.len.symm;rw[e] at aW;refine h _ _ _ _ _ _ (.push ..) (g.push _) aW ⟨⟨_,dc _ rfl,rfl,rfl⟩,⟨_,dV _ aj,rfl,n,rfl⟩⟩ (λb I=>?_) (λb I=>?_) (λi h bE b I=>?_) (λb I=>?_) λi u bD=>?_
 ·simp at I;subst I;exact er _
 ·simp at I;rcases I with rfl |rfl
  ·exact⟨⟨_,dc _ rfl⟩,g.fu (er _)⟩
  ·exact⟨⟨_,dV _ aj⟩,g.fY aj eG⟩
 ·simp at I;subst I;refine aE bE λa7 _=>?_;refine dK a7 λo ax aC _=>?_;exact⟨o,ax,.inl (by rw[aC];decide)⟩
 ·simp at I;rcases I with rfl |rfl
  ·exact .inl (by exact .head _)
  ·exact .inr ⟨⟨_,aj⟩,λ_=>ll⟩
 ·exact hs.at' (by simpa using bD)
noncomputable def fH(cells:List (Str×Addr)):List (Str×NameKind)->List (Str×Addr)->List (Str×Addr)
 |[],acc=>acc
 |(n,k)::r,acc=>if k== .free then fH cells r ((n,(cells.lookup n).getD 0)::acc) else fH cells r acc
theorem Jr{cells:List (Str×Addr)}{y:Str}:∀{names:List (Str×NameKind)} {acc:List (Str×Addr)},y∉names.map (·.1)->(fH cells names acc).lookup y=acc.lookup y:=by
 intro a9;induction a9 with
 |nil=>
  intro _ _;exact rfl
 |cons hJ r aw=>
  obtain⟨n,k⟩:=hJ;intro acc h;have av:y≠n:=λq=>h (by simp[q]);have bf:y∉r.map (·.1):=λq=>h (by simp at q ⊢;exact .inr q);unfold fH;split
  ·rw[aw bf,di,ey.mpr av]
  ·exact aw bf
theorem vQ{cells:List (Str×Addr)}{y:Str}:∀{names:List (Str×NameKind)} {acc:List (Str×Addr)},(names.map (·.1)).Nodup->names.lookup y=some .free->(fH cells names acc).lookup y=some ((cells.lookup y).getD 0):=by
 intro a9;induction a9 with
 |nil=>
  intro _ _ h;injection h
 |cons hJ r aw=>
  obtain⟨n,k⟩:=hJ;intro acc aA h;simp only[map_cons,nodup_cons] at aA;replace aA:=aA;rw[di] at h;replace h:=h;unfold fH;induction av:y==n with
  |true=>
   rw[av] at h;obtain rfl:=bT h;have e:=eq_of_beq av;subst e;rw[aQ (by decide),Jr aA.1,di,av]
  |false=>
   rw[av] at h;replace h:=h;split
   ·exact aw aA.2 h
   ·exact aw aA.2 h
theorem CZ{cells:List (Str×Addr)}{y:Str}{c:Addr}:∀{names:List (Str×NameKind)} {acc:List (Str×Addr)},(fH cells names acc).lookup y=some c->(∀z∈names,z.2= .free->(cells.lookup z.1).isSome=true)->acc.lookup y=some c\/cells.lookup y=some c:=by
 intro a9;induction a9 with
 |nil=>
  intro _ h _;exact .inl h
 |cons hJ r aw=>
  obtain⟨n,k⟩:=hJ;intro acc h hf;have bf:∀z∈r,z.2= .free->(cells.lookup z.1).isSome=true:=λz hz=>hf z (en _ hz);unfold fH at h;split at h
  ·rename_i ar;rcases aw h bf with q |q
   ·rw[di] at q;replace q:=q;induction av:y==n with
    |true=>
     rw[av] at q;replace q:=q;have e:=eq_of_beq av;subst e;refine aP (Option.isSome_iff_exists.mp (hf _ (cM ..) (eq_of_beq ar))) λc' fq=>?_;rw[fq] at q;obtain rfl:=bT q;exact .inr fq
    |false=>rw[av] at q;exact .inl q
   ·exact .inr q
  ·exact aw h bf
theorem Lh(f:Str×NameKind->List (Str×Addr)->Sem (ForInStep (List (Str×Addr))))(hf:∀n k r,f (n,k) r=if(k==NameKind.free)=true then(do let a<-cellOf env n;pure (ForInStep.yield ((n,a)::r))) else pure (ForInStep.yield r)):
  ∀(names:List (Str×NameKind)) (acc:List (Str×Addr)),(∀z∈names,z.2= .free->(env.cells.lookup z.1).isSome=true)->forIn names acc f=pure (fH env.cells names acc):=by
 intro names;induction names with
 |nil=>intro acc _;rw[forIn_nil];rfl
 |cons z r aw=>
  obtain⟨n,k⟩:=z;intro acc hz;have bf:∀z∈r,z.2= .free->(env.cells.lookup z.1).isSome=true:=λz eD=>hz z (en _ eD);rw[forIn_cons,hf];unfold fH;induction ar:k==NameKind.free with
  |true=>
   refine aP (Option.isSome_iff_exists.mp (hz _ (cM ..) (eq_of_beq ar))) λc U=>?_;have:cellOf env n=pure c:=by unfold cellOf;rw[U]
   rw[aQ rfl,this,aQ rfl,U];simp only[pure_bind,getD_some];exact aw _ bf
  |false=>
   rw[aI (by decide),aI (by decide)];simp only[pure_bind];exact aw _ bf
variable {scope:Scope}
theorem yA(h:∀z∈scope.names,z.2= .free->(env.cells.lookup z.1).isSome=true):closureFor scope env=pure (fH env.cells scope.names []):=by
 unfold closureFor;show(forIn scope.names [] _ >>=λr=>pure r)=_;rw[Lh (env:=env) _ ?hf scope.names [] h]
 ·rfl
 ·intro n k r;rfl
variable {hl hK host kq qual z:Str}
theorem I7{M:Model}{globals:Addr}{cl:List (Str×Addr)}{Q:Env->Shared->Prop} 
  (a4:Q {scope:=scope,locals:=s.heap.objs.size,globals:=globals,cells:=cellsFrom (s.heap.objs.size+1) scope.names cl,qual:=qual,func:=none,code:=env.code,frame:=env.frame,builtins:=env.builtins}
   {s with heap:=pushCells (s.heap.push {cls:= .type "dict",data:= .dict #[]}) scope.names}):wpAny M A (newFunctionEnv scope globals cl [] qual none .none (some env)) Q E s:=by
 simp only[newFunctionEnv,isSome_some,if_true];refine aH (wpAny_alloc ?_);refine aH (wpAny_layCells _ (λname kind cells=>by cases A1:kind==NameKind.cell<;>exact rfl) _ _ _ _ ?_);rw[show({s with heap:=s.heap.push {cls:= .type "dict",data:= .dict #[]}}:Shared).heap.objs.size=s.heap.objs.size+1 from size_push ..];refine aH ?_;rw[forIn_nil];exact bu (bu a4)
theorem vz{α:Type}:∀{l:List (Str×α)} {y:Str×α},(l.map (·.1)).Nodup->y∈l->l.lookup y.1=some y.2:=by
 intro a9;induction a9 with
 |nil=>
  intro _ _ h;exact absurd h b8
 |cons z r aw=>
  intro y aA h;obtain⟨zn,Wh⟩:=z;simp only[map_cons,nodup_cons] at aA;replace aA:=aA;rw[di];rcases bI.mp h with rfl |h
  ·walk_at"o"
  ·have:(y.1==zn)=false:=ey.mpr λq=>aA.1 (q▸fO (f:=(·.1)) h);rw[this];exact aw aA.2 h
theorem H5{φ:Str->NameKind->NameKind}{g:Str×NameKind->Str×NameKind}(dj:∀n k,g (n,k)=(n,φ n k)){y:Str}:∀{l:List (Str×NameKind)},(l.map g).lookup y=(l.lookup y).map (φ y):=by
 intro a9;induction a9 with
 |nil=>
  exact rfl
 |cons hJ r aw=>
  obtain⟨n,k⟩:=hJ;rw[map_cons,dj,di,di];induction av:y==n with
  |true=>simp[eq_of_beq av]
  |false=>exact aw
theorem Cd{y:Str}:(relabel scope env).names.lookup y=(scope.names.lookup y).map λk=>if(k== .free&&env.scope.kind== .function&&env.kindOf y==some .cell) then NameKind.cell else k:=by
 unfold relabel;exact H5 (φ:=λn k=>if(k== .free&&env.scope.kind== .function&&env.kindOf n==some .cell) then NameKind.cell else k) λn k=>by
  dsimp only;split<;>rfl
def fX(prog:Program)(w:World)(n:Nat)(env:Env)(m:Loc)(ifs:List Expr)(b:Bool):Prop:=
 ∀(W:Addr->Prop) (A:Around) (s:Shared) (Q:Bool->Shared->Prop) (E:Value->Shared->Prop),bK n A->St w env W m s.heap->(∀s',Ext s s'->G w s'.heap->Q b s')->
  wpAny (model prog w) A (forIn ifs true λc r=>if r=true then do let ok<-isTrue c env (eval c env);pure (ForInStep.yield ok) else pure (ForInStep.yield r)) Q E s
variable {C D bh c' eo:Addr} {fp wr ws:List Addr} {use:Option (Value->Sem Unit)} {t:ak->Bool} {hr:Heap->Prop}
theorem fX.nil:fX prog w n env m [] true:=λW A s Q E ai x h=>wpAny_tests_nil (h s (.refl s) x.g)
theorem fX.one{e:Expr}{b:Bool}(he:bV prog w n env m e b):fX prog w n env m [e] b:=λW A s Q E ai x h=>wpAny_tests_one (he W A s Q E ai x h)
structure tM (env:Env) (scope:Scope) (x:Str) (c:Bool) (C:Addr) (cenv:Env):Prop where
 sc:cenv.scope=relabel scope env
 lo:cenv.locals=C
 gl:cenv.globals=env.globals
 bi:cenv.builtins=env.builtins
 ce:cenv.cells=(if c then [(x,C+1)] else [])++fH env.cells scope.names []
structure iK (scope sc:Scope) (x:Str) (c:Bool):Prop where
 xV:∀k cl,cellsFrom k scope.names cl=(if c then [(x,k)] else [])++cl
 pc:∀h,pushCells h scope.names=if c then h.push {cls:= .type "cell",data:= .cell Option.none} else h
 ag:scope.names.lookup x=some (if c then .cell else .local)
 free:(scope.names.all λy=>y.2 != .free||((sc.names.lookup y.1==some .cell||sc.names.lookup y.1==some .free)&&y.1 != "__classdict__"))=true
 nd:(scope.names.map (·.1)).Nodup
 fn:scope.kind= .function
theorem iK.frees{sc:Scope}{x:Str}{c:Bool}(S:iK scope sc x c)(ba:c6 env sc):∀z∈scope.names,z.2= .free->(env.cells.lookup z.1).isSome=true/\(env.kindOf z.1=some .cell\/env.kindOf z.1=some .free)/\(z.1==("__classdict__":Str))=false:=λz hz ar=>by
 have:=List.all_eq_true.mp S.free z hz;rw[ar] at this;simp only[bne_self_eq_false,Bool.false_or,Bool.and_eq_true,Bool.or_eq_true,beq_iff_eq] at this;refine aE this λab ae=>?_;refine⟨ba.cell _ ab,?_,by simpa using ae⟩;rcases ab with ab |ab
 ·exact .inl (ba.kind _ _ (by decide) ab)
 ·exact(ba.free _ ab).symm
theorem Cq{sc:Scope}{x:Str}{c:Bool}(S:iK scope sc x c)(ba:c6 env sc)(V:tM env scope x c C cenv):c6 cenv scope where
 kind:=λy k ar e=>by
  show cenv.scope.names.lookup y=some k;rw[V.sc,Cd,e];rw[map_some,show(k==NameKind.free)=false by exact decide_eq_false ar];rfl
 free:=λy e=>by
  show cenv.scope.names.lookup y=_\/cenv.scope.names.lookup y=_;rw[V.sc,Cd,e];simp only[map_some];split
  ·exact .inr rfl
  ·exact .inl rfl
 cell:=λy q=>by
  rw[V.ce, <-S.xV];refine cellsFrom_some ?_;rcases q with q |q
  ·exact .inr q
  ·left
   rw[vQ S.nd q];rfl
 fn:=by rw[V.sc];exact S.fn
theorem tM.st{sc:Scope}{x:Str}{c:Bool}(S:iK scope sc x c)(ba:c6 env sc)(V:tM env scope x c C cenv){p:ak}{v:Value}(c4:St w env W m h₁)
  (f7:∀y p,mf.lookup y=some p->m.lookup y=some p/\scope.names.lookup y=some .free) (keep:gd h₁ h) (g:G w h) (low:eB W' h) (gk:¬cf C) (Bi:c=true->¬cf (C+1)) (sL:∀b o,o.cls≠ .none->h₁.get? b=some o->(W b↔W' b)) (ag:hb cenv h x v) (aa:a6 w h W' p v):
  St w cenv W' ((x,p)::mf) h:=by
 have fr:=S.frees ba;refine⟨by rw[V.sc];exact S.fn,V.gl.trans c4.gl,V.bi.trans c4.bi,g,low,by rw[V.lo];exact gk,λnm a af=>?_,λy q aG=>?_⟩
 ·rw[V.ce] at af;replace af:=af;have:(if c then [(x,C+1)] else([]:List (Str×Addr))).lookup nm=some a\/(fH env.cells scope.names []).lookup nm=some a:=by
   induction c with
   |false=>exact .inr af
   |true=>
    have af:List.lookup nm ((x,C+1)::fH env.cells scope.names [])=some a:=af;rw[di] at af;replace af:=af;induction av:nm==x with
    |true=>rw[av] at af;left;show List.lookup nm [(x,C+1)]=some a;rw[di,av];exact af
    |false=>rw[av] at af;exact .inr af
  rcases this with q |q
  ·induction c with
   |false=>injection q
   |true=>
    have q:List.lookup nm [(x,C+1)]=some a:=q;rw[di] at q;replace q:=q;induction av:nm==x with
    |true=>rw[av] at q;obtain rfl:=bT q;exact Bi rfl
    |false=>rw[av] at q;injection q
  ·rcases CZ q (λz hz ar=>(fr z hz ar).1) with q |q
   ·injection q
   ·exact c4.cY _ _ q
 ·by_cases e:y=x
  ·subst e;rw[a5] at aG;obtain rfl:=bT aG;exact⟨v,ag,aa⟩
  ·rw[j4 e] at aG;refine aE (f7 y q aG) λab ae=>?_;refine ah (c4.has y q ab) λu bD eS=>?_;refine cB (fr (y,.free) (mem_of_lookup ae) rfl) λf1 f2 sZ=>?_;refine⟨u,?_,eS.chg λb o U ct=>⟨c4.g.mc keep b o U ct,sL b o U ct⟩⟩;have dR:=(Cq S ba V).free y ae;rcases bD with⟨bP,_⟩ |⟨_,c',fq,o,aj,hd⟩
   ·rcases f2 with f2 |f2<;>(rw[bP] at f2;exact absurd f2 (by decide))
   ·refine .inr ⟨dR.symm.imp id λk=>⟨k,sZ⟩,c',?_,o,keep _ _ (c4.cY _ _ fq) aj,hd⟩;rw[V.ce];have:(fH env.cells scope.names []).lookup y=some c':=by rw[vQ S.nd ae,fq];rfl
    induction c with
    |false=>exact this
    |true=>
     show List.lookup y ((x,C+1)::fH env.cells scope.names [])=some c';rw[di,ey.mpr e];exact this
theorem Ou(w:World):((KF w).lookup 271).isSome=true:=by kernel_rfl
theorem G.big(g:G w h):271 < h.objs.size:=by
 refine aP (Option.isSome_iff_exists.mp (Ou w)) λo e=>?_;exact lt_size (g.K _ _ e)
theorem G.noSys(g:G w h){a:Addr}(af:h.objs.size<=a):(a==sysModules)=false:=by
 have:=g.big;refine ey.mpr λq=>?_;rw[q] at af;have ab:h.objs.size<=1:=af;walk_at"o"
structure zU (D:Addr) (W':Addr->Prop) (K:Heap->Prop):Prop where
 own:∀h,K h->∃o,h.get? D=some o/\cx o
 up:∀h h',K h->(∀o,h.get? D=some o->h'.get? D=some o)->(∀b o,¬W' b->o.cls≠ .none->h.get? b=some o->h'.get? b=some o)->K h'
structure jJ (w:World) (K:Nat->Heap->Prop) (wr:List Addr) (s au:Shared) (T:Nat->Heap->Prop) (C:Addr) (c:Bool) (j i:Nat) (s':Shared):Prop where
 same:∃h tk,s'={s with heap:=h,toks:=tk}
 keep:gd au.heap s'.heap
 g:G w s'.heap
 Gy:∀a∈wr,∃o,s'.heap.get? a=some o/\cx o
 tt:T j s'.heap
 acc:K i s'.heap
 ns:∃cH,s'.heap.Ns C cH
 cl:c=true->∃v,s'.heap.IsCell (C+1) v
def oy(wr:List Addr)(D C:Addr)(c:Bool)(a:Addr):Prop:=a∈wr\/a=D\/a=C\/(c=true/\a=C+1)
theorem jJ.own{K:Nat->Heap->Prop}{T:Nat->Heap->Prop}{c:Bool}{j:Nat}(P:∀i,zU D W' (K i))(H:jJ w K wr s au T C c j i s'):∀a,oy wr D C c a->∃o,s'.heap.get? a=some o/\cx o:=λa af=>by
 rcases af with af |rfl |rfl |⟨U,rfl⟩
 ·exact H.Gy a af
 ·exact(P i).own _ H.acc
 ·refine aP H.ns λcH aA=>?_;refine ah (my aA) λo e hd=>?_;exact⟨o,e,.inr hd⟩
 ·refine aP (H.cl U) λv aq=>?_;refine ah (tm aq) λo e hd=>?_;exact⟨o,e,.inr hd⟩
theorem jJ.step{K:Nat->Heap->Prop}{T:Nat->Heap->Prop}{c:Bool}{j hN dG:Nat}(P:∀i,zU D W' (K i))(H:jJ w K wr s au T C c j i s')(aF:G w au.heap)(xu:∀a,oy wr D C c a->au.heap.get? a=none)
  (jh:∃h tk,b2={s' with heap:=h,toks:=tk}) (k:∀b o,¬oy wr D C c b->s'.heap.get? b=some o->b2.heap.get? b=some o) (bE:T hN b2.heap) (dC:∀i h,T i h->∀b∈wr,∃o,h.get? b=some o/\cx o)
  (FK:K dG b2.heap) (pD:∃cH,b2.heap.Ns C cH) (et:c=true->∃v,b2.heap.IsCell (C+1) v):
  jJ w K wr s au T C c hN dG b2:=by
 refine⟨?_,λb o I e=>k b o (λq=>by rw[xu b q] at e;injection e) (H.keep b o I e),aF.chg H.g (λa af=>⟨xu a af,H.own P a af⟩) k,dC _ _ bE,bE,FK,pD,et⟩;refine cn H.same λh tk aU=>?_;subst aU;refine cn jh λh' oc a7=>?_;subst a7;exact⟨h',oc,rfl⟩
def nA(prog:Program)(w:World)(n:Nat)(env:Env)(m:Loc)(V:Addr->Prop)(hr:Heap->Prop)(ifs:List Expr)(b:Bool):Prop:=
 ∀(W:Addr->Prop) (A:Around) (s:Shared) (Q:Bool->Shared->Prop) (E:Value->Shared->Prop),bK n A->St w env W m s.heap->(∀a,V a->W a)->hr s.heap->(∀s',Ext s s'->G w s'.heap->Q b s')->
  wpAny (model prog w) A (forIn ifs true λc r=>if r=true then do let ok<-isTrue c env (eval c env);pure (ForInStep.yield ok) else pure (ForInStep.yield r)) Q E s
def A5(prog:Program)(w:World)(n:Nat)(env:Env)(m:Loc)(V:Addr->Prop)(hr:Heap->Prop)(e:Expr)(p:ak):Prop:=
 ∀(W:Addr->Prop) (A:Around) (s:Shared) (Q:Value->Shared->Prop) (E:Value->Shared->Prop),bK n A->St w env W m s.heap->(∀a,V a->W a)->hr s.heap->(∀v s',a6 w s'.heap W p v->Ext s s'->G w s'.heap->Q v s')->wpAny (model prog w) A (eval e env) Q E s
def lL(prog:Program)(w:World)(W:Addr->Prop)(A:Around)(s:Shared)(e:Sem Value)(ps:List ak):Prop:=
 ∀(R:Value->Shared->Prop) (E:Value->Shared->Prop),(∀(au:Shared) (bh:Addr) (fp wr:List Addr) (P:Nat->Value->Prop) (T:Nat->Heap->Prop) (aL:Shared),Ext s au->G w au.heap->Ext au aL->G w aL.heap->Walks prog w A bh fp wr ps.length P T->T 0 aL.heap->(∀b∈wr,au.heap.get? b=none)->(∀b∈fp,(∃o,aL.heap.get? b=some o)/\¬cf b)->(∀i h,T i h->∀b∈wr,∃o,h.get? b=some o/\cx o)->
   (∀i u,P i u->∃q,ps[i]? =some q/\a6 w au.heap W q u)->R (.ref bh) aL)->wpAny (model prog w) A e (λi9 au=>wpAny (model prog w) A (pyIter i9) R E au) E s
theorem lL.of{iter:Expr}(ai:bK n A)(hy:St w env W m s.heap)(hit:Ev prog w n env m iter q)(f9:cw prog w q ps):lL prog w W A s (eval iter env) ps:=λR E h=>by
 refine hit W A s _ E ai hy λi9 au aq az aF=>?_;exact f9 W A au i9 _ E (ai.le (c0 _)) aF (hy.ext az aF).low aq λbh fp wr P T aL aR aY aW bE fb dP dC _ b5=>h au bh fp wr P T aL az aF aR aY aW bE fb dP dC b5
theorem Dv{ce iter:Expr}{x:Str}{c:Bool}{sc:Scope}{mk:Sem Value}{ob:Obj}{pv:ak}(K:Addr->(Addr->Prop)->Nat->Heap->Prop){xW:Env->Addr->(Shared->Prop)->(Value->Shared->Prop)->Shared->Prop}
  (ai:bK n A) (hy:St w env W m s.heap) (ba:c6 env sc) (src:lL prog w W A s (eval iter env) ps) (hs:∀v,foldedSetIterable iter env v=pure v) (S:iK scope sc x c)
  (f7:∀y p,mf.lookup y=some p->m.lookup y=some p/\scope.names.lookup y=some .free)
  (b5:∀D W' i,zU D W' (K D W' i)) (S4:∀D W' h,h.get? D=some ob->K D W' 0 h)
  (T3:∀it D cenv R (bh:Nat->Shared->Prop),(∀n s,bh n s->wpAny (model prog w) A (pyNext it) (λr au=>match r with
   |none=>R (.ok .next) au
   |some v=>wpAny (model prog w) A (assign (.Name x px) cenv v) (λ_ aL=>xW cenv D (λs=>∃m,m < n/\bh m s) (notedBy (model prog w) A cenv λe s'=>R (.error e) s') aL) (notedBy (model prog w) A cenv λe s'=>R (.error e) s') au) (notedBy (model prog w) A cenv λe s'=>R (.error e) s') s)->∀n s,bh n s->codeAny (model prog w) A (.compLoop ce 0 it (.ref D) cenv) R s)
  (body:∀D cenv (W':Addr->Prop) j p s' F c5,c6 cenv scope->ps[j]? =some p->St w cenv W' ((x,p)::mf) s'.heap->(∀a,W a->W' a)->W' D->gd s.heap s'.heap->(∀b2,Ext s' b2->G w b2.heap->K D W' j b2.heap)->(∀b2 h tk,Ext s' b2->G w b2.heap->SameBut D b2.heap h->K D W' (j+1) h->F {b2 with heap:=h,toks:=tk})->xW cenv D F c5 s')
  (wQ:∀D (W' V:Addr->Prop) h,(∀a,V a->W' a)->¬V D->(D==sysModules)=false->K D W' ps.length h->a6 w h V pv (.ref D))
  (cv:∀it acc cenv R s,codeAny (model prog w) A (.compLoop ce 0 it acc cenv) R s->wpAny (model prog w) A (pyIter it) (λR3 s'=>codeAny (model prog w) A (.compLoop ce 0 R3 acc cenv) R s') (notedBy (model prog w) A cenv λx s'=>R (.error x) s') s->codeAny (model prog w) A (.compStart ce 0 it acc cenv) R s)
  (fin:∀(D C:Addr) (s':Shared),Ext s s'->G w s'.heap->s.heap.get? C=none->¬cf C->a6 w s'.heap (λa=>W a\/a=C) pv (.ref D)->(∃cH,s'.heap.Ns C cH)->compPost (model prog w) A E use Q (.ref D) C (.ok .next) s')
  (wY:∀(s:Shared) (Q:Value->Shared->Prop),Q (.ref s.heap.objs.size) {s with heap:=s.heap.push ob}->wpAny (model prog w) A mk Q E s) (gq:ob.isFreed=false)
  (pq:clausesOf ce=[⟨.Name x px,iter,ifs,0⟩]):
  wpAny (model prog w) A (comprehension ce scope env zV mk false (eval iter env) use) Q E s:=by
 have Nt:∀y∈scope.names,y.2= .local->scope.names.lookup y.1=some .local:=λy av ar=>by rw[vz S.nd av,ar]
 refine wpAny_comprehension_free (g:=⟨.Name x px,iter,ifs,0⟩) (gs:=[]) pq hs (yA λz hz ar=>(S.frees ba z hz ar).1) S.fn Nt ?_;refine src _ E λau bh fp wr Ve T aL az aF aR aY aW bE fb dP dC lz=>?_;have c4:=hy.ext az aF;refine wY _ _ ?_;refine I7 ?_;generalize gg:aL.heap.objs.size=D;induction D using jf;rename_i D
 generalize AH:aL.heap.push ob=rG;induction rG using jf;rename_i rG
 have VC:rG.objs.size=D+1:=by rw[<-AH,size_push,gg]
 dsimp only;generalize gk:rG.objs.size=C;induction C using jf;rename_i C
 generalize xw:pushCells (rG.push {cls:= .type "dict",data:= .dict #[]}) scope.names=p1;induction p1 using jf;rename_i p1
 have fresh:∀a,aL.heap.objs.size<=a->aL.heap.get? a=none:=λa af=>by
  induction e:aL.heap.get? a with
  |none=>rfl
  |some o=>exact absurd (lt_size e) (Nat.not_lt.mpr af)
 have y6:∀a,aL.heap.get? a=none->¬cf a->au.heap.get? a=none:=λa af I=>by
  induction e:au.heap.get? a with
  |none=>rfl
  |some o=>rw[aR.keep _ _ I e] at af;injection af
 have w9:∀b o,aL.heap.get? b=some o->p1.get? b=some o:=λb o e=>by
  rw[<-xw];refine pushCells_keeps _ _ _ _ (dV _ ?_);rw[<-AH];exact dV _ e
 have Bo:aL.heap.get? D=none:=fresh D (by walk_at"o");have AW:aL.heap.get? C=none:=fresh C (by walk_at"o");have Ac:aL.heap.get? (C+1)=none:=fresh (C+1) (by walk_at"o");have G5:=aY.fu Bo;have u2:=aY.fu AW;have zL:=aY.fu Ac;have An:p1.get? D=some ob:=by
  rw[<-xw];refine pushCells_keeps _ _ _ _ (dV _ ?_);rw[<-AH, <-gg];exact dc _ gq
 have S5:p1.Ns C λ_=>none:=by
  rw[<-xw, <-gk];exact(Heap.Ns.new rG (.type "dict")).keeps (pushCells_keeps _ _)
 have QL:c=true->p1.IsCell (C+1) none:=λU=>by
  rw[<-xw,S.pc,U];refine⟨{cls:= .type "cell",data:= .cell none},?_,rfl⟩;have:=dc (rG.push {cls:= .type "dict",data:= .dict #[]}) (o:={cls:= .type "cell",data:= .cell none}) rfl
  rwa [size_push,gk] at this
 have Hl:∀a,oy wr D C c a->¬cf a:=λa af=>by
  rcases af with af |rfl |rfl |⟨_,rfl⟩
  ·exact(dP a (aW.sub a af)).2
  ·exact G5
  ·exact u2
  ·exact zL
 have newX:∀a,oy wr D C c a->au.heap.get? a=none:=λa af=>by
  rcases af with af |rfl |rfl |⟨_,rfl⟩
  ·exact fb a af
  ·exact y6 _ Bo G5
  ·exact y6 _ AW u2
  ·exact y6 _ Ac zL
 let W':Addr->Prop:=λa=>W a\/oy wr D C c a
 have sL:∀b o,o.cls≠ .none->au.heap.get? b=some o->(W b↔W' b):=λb o _ e=>⟨λq=> .inl q,λq=>q.elim id λq=>by rw[newX b q] at e;injection e⟩
 have Am:D∉wr/\D∉fp:=by
  have:D∉fp:=λq=>by refine aE (dP D q) λbk _=>?_;refine aP bk λo e=>?_;rw[Bo] at e;injection e
  exact⟨λq=>this (aW.sub _ q),this⟩
 have Bh:C∉wr/\C∉fp:=by
  have:C∉fp:=λq=>by refine aE (dP C q) λbz _=>?_;refine aP bz λo e=>?_;rw[AW] at e;injection e
  exact⟨λq=>this (aW.sub _ q),this⟩
 have Fu:C+1∉wr/\C+1∉fp:=by
  have:C+1∉fp:=λq=>by refine aE (dP _ q) λb7 _=>?_;refine aP b7 λo e=>?_;rw[Ac] at e;injection e
  exact⟨λq=>this (aW.sub _ q),this⟩
 have AY:D≠C:=by walk_at"o"
 have Fy:D≠C+1:=by walk_at"o"
 have Qi:C≠C+1:=by walk_at"o"
 let cenv:Env:={scope:=relabel scope env,locals:=C,globals:=env.globals,cells:=cellsFrom (C+1) scope.names (fH env.cells scope.names []),qual:=env.qual,func:=none,code:=env.code,frame:=env.frame,builtins:=env.builtins}
 have V:tM env scope x c C cenv:=⟨rfl,rfl,rfl,rfl,by show cellsFrom _ _ _=_;rw[S.xV]⟩
 have kM:c6 cenv scope:=Cq S ba V;have uG:∀a,oy wr D C c a->W' a:=λa af=> .inr af;have P:=b5 D W';have Pn:∀{j i s'},jJ w (K D W') wr s au T C c j i s'->eB W' s'.heap:=λH a af=>by
  rcases af with af |af
  ·refine aE (c4.low a af) λcC I=>?_;refine ah cC λo e cF=>?_;exact⟨⟨o,H.keep _ _ I e,cF⟩,I⟩
  ·refine ah (H.own P a af) λo e S8=>?_;exact⟨⟨o,e,S8⟩,Hl a af⟩
 have bound:∀{j i s'} {p:ak} {v:Value} {R:Unit->Shared->Prop} {c5:Value->Shared->Prop},jJ w (K D W') wr s au T C c j i s'->a6 w au.heap W p v->
   (∀b2,jJ w (K D W') wr s au T C c j i b2->St w cenv W' ((x,p)::mf) b2.heap->R () b2)->wpAny (model prog w) A (assign (.Name x px) cenv v) R c5 s':=by
  intro j i s' p v R c5 H aq lC;have done:∀(a:Addr) (hc:Heap) (tk:Nat),oy wr D C c a->a∉fp->a≠D->SameBut a s'.heap hc->(∃cH,hc.Ns C cH)->(c=true->∃v,hc.IsCell (C+1) v)->hb cenv hc x v->R () {s' with heap:=hc,toks:=tk}:=by
   intro a hc tk af sq TJ bL pD et ag;have uM:jJ w (K D W') wr s au T C c j i {s' with heap:=hc,toks:=tk}:=H.step P aF newX ⟨_,_,rfl⟩ (λb o I e=>bL.extBut b o (λq=>I (q▸af)) e)
    (aW.frame j _ _ H.tt λb I o e=>bL.extBut b o (λq=>sq (q▸I)) e) dC ((P _).up _ _ H.acc (λo=>bL.extBut _ o (Ne.symm TJ)) λb o I _ e=>bL.extBut b o (λq=>I (uG _ (q▸af))) e) pD et
   refine lC _ uM ?_;exact tM.st S ba V c4 f7 uM.keep uM.g (Pn uM) u2 (λ_=>zL) sL ag (aq.chg λb o U ct=>⟨aF.mc uM.keep b o U ct,sL b o U ct⟩)
  induction U:c with
  |false=>
   refine aP H.ns λcH aA=>?_;have ar:cenv.kindOf x=some .local:=kM.kind x _ (by decide) (by rw[S.ag,U];rfl);refine wpAny_assign_Name (wpAny_storeName_local ar aA (λhc uc bL=>done C hc _ (.inr (.inr (.inl rfl))) Bh.2 (Ne.symm AY) bL ⟨_,uc⟩ (λq=>by rw[U] at q;injection q) (.inl ⟨ar,_,uc,by walk_at"o"⟩)) ?_);rw[show cenv.scope.kind= .function from S.fn];rfl
  |true=>
   refine aP (H.cl U) λPS r6=>?_;have ar:cenv.kindOf x=some .cell:=kM.kind x _ (by decide) (by rw[S.ag,U];rfl);have ao:cenv.cells.lookup x=some (C+1):=by rw[V.ce,U];show List.lookup x ((x,C+1)::_)=_;rw[di];walk_at"o"
   refine wpAny_assign_Name (wpAny_storeName_cell (by show scope.kind=_;exact S.fn) ar ao r6 λhc Fx bL=>?_);have:=done (C+1) hc s'.toks (.inr (.inr (.inr ⟨U,rfl⟩))) Fu.2 (Ne.symm Fy) bL (aP (H.ns) λcH aA=>⟨cH,aA.sameBut bL Qi⟩) (λ_=>⟨_,Fx⟩) (.inr ⟨.inl ar,C+1,ao,Fx⟩);exact this
 have loop:∀R:Result->Shared->Prop,(∀s',(∃b2,jJ w (K D W') wr s au T C c ps.length ps.length b2/\(∃h tk,s'={b2 with heap:=h,toks:=tk})/\∀b o,b∉wr->b2.heap.get? b=some o->s'.heap.get? b=some o)->R (.ok .next) s')->
   ∀s',jJ w (K D W') wr s au T C c 0 0 s'->codeAny (model prog w) A (.compLoop ce 0 (.ref bh) (.ref D) cenv) R s':=by
  intro R lC s' H;refine T3 _ _ _ _ (λk s'=>∃j,k=ps.length+1 - j/\j<=ps.length/\jJ w (K D W') wr s au T C c j j s') ?_ (ps.length+1) _ ⟨0,rfl,c0 _,H⟩;intro k s' dg;refine dK dg λj dq aN H=>?_;subst dq;by_cases cu:j < ps.length
  ·refine aW.item j s' _ _ cu H.tt λv h' tk nR jq cj=>?_;refine ah (lz j v nR) λp aa aq=>?_;have H1:jJ w (K D W') wr s au T C c (j+1) j {s' with heap:=h',toks:=tk}:=H.step P aF newX ⟨_,_,rfl⟩ (λb o I e=>cj b o (λq=>I (.inl q)) e) jq dC
    ((P _).up _ _ H.acc (λo=>cj _ o Am.1) λb o I _ e=>cj b o (λq=>I (uG _ (.inl q))) e) (aP H.ns λcH aA=>⟨cH,aA.at' (λo=>cj _ o Bh.1)⟩) (λU=>dO (H.cl U) λv o aj hd=>⟨v,o,cj _ _ Fu.1 aj,hd⟩)
   refine bound H1 aq λgD ow rF=>?_;have ext:∀{iJ},Ext gD iJ->G w iJ.heap->jJ w (K D W') wr s au T C c (j+1) j iJ:=λ{iJ} e kn=>by
    have x2:∀b,oy wr D C c b->∀o,gD.heap.get? b=some o->iJ.heap.get? b=some o:=λb I o ct=>e.keep _ _ (Hl b I) ct;refine cn ow.same λab t1 dy=>?_;refine cn e.same λae e7 bN=>?_;refine⟨⟨ae,e7,by rw[bN,dy]⟩,ow.keep.trans e.keep,kn,?_,?_,(P _).up _ _ ow.acc (x2 D (.inr (.inl rfl))) λb o _=>ow.g.mc e.keep b o,?_,?_⟩
    ·intro a af;refine ah (ow.Gy a af) λo aj aA=>?_;exact⟨o,x2 a (.inl af) o aj,aA⟩
    ·exact aW.frame _ _ _ ow.tt λb I o ct=>e.keep _ _ (dP b I).2 ct
    ·refine aP ow.ns λcH aA=>?_;exact⟨cH,aA.at' (x2 C (.inr (.inr (.inl rfl))))⟩
    ·intro U;refine dO (ow.cl U) λv o aj hd=>?_;exact⟨v,o,x2 (C+1) (.inr (.inr (.inr ⟨U,rfl⟩))) o aj,hd⟩
   refine body D cenv W' j p gD _ _ kM aa rF (λa=> .inl) (.inr (.inr (.inl rfl))) (az.keep.trans ow.keep) (λb2 e g=>(ext e g).acc) λb2 h tk e g mG bx=>?_;have xH:=ext e g;refine⟨ps.length+1 - (j+1),Nat.sub_lt_sub_left (Nat.lt_succ_of_lt cu) (Nat.lt_succ_self _),j+1,rfl,cu,?_⟩;exact xH.step P aF newX ⟨_,tk,rfl⟩ (λb o I e=>mG.extBut b o (λq=>I (.inr (.inl q))) e) (aW.frame _ _ _ xH.tt λb I o e=>mG.extBut b o (λq=>Am.2 (q▸I)) e) dC
     bx (aP xH.ns λcH aA=>⟨cH,aA.sameBut mG AY.symm⟩) (λU=>dO (xH.cl U) λv o aj hd=>⟨v,o,mG.extBut _ _ Fy.symm aj,hd⟩)
  ·have q2:j=ps.length:=Nat.le_antisymm aN (Nat.not_lt.mp cu);subst q2;refine aW.done s' _ _ H.tt λh' tk cj=>?_;exact lC _ ⟨s',H,⟨_,_,rfl⟩,cj⟩
 have HB:jJ w (K D W') wr s au T C c 0 0 {aL with heap:=p1}:=by
  refine cn az.same λab t1 dy=>?_;refine cn aR.same λae e7 bN=>?_;refine⟨⟨p1,aL.toks,by rw[bN,dy]⟩,aR.keep.trans (.of w9),aY.keeps w9,λa af=>?_,aW.frame 0 _ _ bE λb _ o e=>w9 b o e,S4 _ _ _ An,⟨_,S5⟩,λU=>⟨_,QL U⟩⟩;refine ah (dC 0 _ bE a af) λo e aA=>?_;exact⟨o,w9 _ _ e,aA⟩
 have xS:=loop (compPost (model prog w) A E use Q (.ref D) C) (λs' eZ=>by
  refine dK eZ λb2 H e2 ar=>?_;refine cn e2 λh' oc hB=>?_;subst hB;have nw:∀b o,¬cf b->au.heap.get? b=some o->b∉wr:=λb o _ e q=>by rw[fb b q] at e;injection e
  refine fin D C _ ⟨?_,λb o I e=>ar b o (nw b o I (az.keep _ _ I e)) (H.keep b o I (az.keep _ _ I e))⟩ (aF.chg H.g (λa af=>⟨newX a af,H.own P a af⟩) λb o I e=>ar b o (λq=>I (.inl q)) e) ?_ u2 (wQ D W' _ _ (λa q=>q.elim .inl λq=> .inr (.inr (.inr (.inl q)))) ?_ (aY.noSys (Nat.le_of_eq gg)) ((P _).up _ _ H.acc (λo=>ar _ o Am.1) λb o I _ e=>ar b o (λq=>I (uG _ (.inl q))) e)) (aP H.ns λcH aA=>⟨cH,aA.at' (λo=>ar _ o Bh.1)⟩)
  ·refine cn H.same λab t1 dy=>?_;exact⟨h',oc,by rw[dy]⟩
  ·induction e:s.heap.get? C with
   |none=>rfl
   |some o=>have:=az.keep _ _ u2 e;rw[newX C (.inr (.inr (.inl rfl)))] at this;injection this
  ·rintro(q |q)
   ·refine aE (c4.low D q) λc2 _=>?_;refine ah c2 λo e cF=>?_;rw[newX D (.inr (.inl rfl))] at e;injection e
   ·exact AY q) _ HB
 refine cv _ _ _ _ _ xS ?_;exact aW.self 0 _ _ _ HB.tt xS
theorem Dl{iter:Expr}{x:Str}{f:ak->ak}{c:Bool}{sc:Scope} 
  {V:Addr->Prop} {hr:Heap->Prop} (ai:bK n A) (hy:St w env W m s.heap) (nf:∀a,V a->W a) (lz:∀h h',gd h h'->hr h->hr h') (sV:hr s.heap) (ba:c6 env sc) (src:lL prog w W A s (eval iter env) ps) (hs:∀v,foldedSetIterable iter env v=pure v) (S:iK scope sc x c)
  (f7:∀y p,mf.lookup y=some p->m.lookup y=some p/\scope.names.lookup y=some .free) (hz:ps.length<=sizeLine) (cN:∀p∈ps,t p=true->cb (f p))
  (tests:∀p∈ps,∀cenv,c6 cenv scope->nA prog w n cenv ((x,p)::mf) V hr ifs (t p)) (elts:∀p∈ps,t p=true->∀cenv,c6 cenv scope->A5 prog w n cenv ((x,p)::mf) V hr elt (f p))
  (fin:∀(D C:Addr) (s':Shared),Ext s s'->G w s'.heap->s.heap.get? C=none->¬cf C->a6 w s'.heap (λa=>W a\/a=C) (.list ((ps.filter t).map f)) (.ref D)->(∃cH,s'.heap.Ns C cH)->compPost (model prog w) A E use Q (.ref D) C (.ok .next) s'):
  wpAny (model prog w) A (comprehension (.ListComp elt [⟨.Name x px,iter,ifs,0⟩] scope pos) scope env zV (newList []) false (eval iter env) use) Q E s:=by
 have ek:∀j,dA (((ps.take j).filter t).map f):=λj=>j9 λp aa=>by
  refine ah (bA.mp aa) λp' fS c1=>?_;subst c1;exact cN p' (mem_of_mem_take (List.mem_filter.mp fS).1) (List.mem_filter.mp fS).2
 refine Dv (xW:=λcenv D F E aL=>wpAny (model prog w) A (forIn ifs true λc r=>if r=true then do let ok<-isTrue c cenv (eval c cenv);pure (ForInStep.yield ok) else pure (ForInStep.yield r)) (λok eb=>if ok=true then wpAny (model prog w) A (eval elt cenv) (λx c9=>wpAny (model prog w) A (call (.builtin "list.append") [.ref D,x]) (λ_=>F) E c9) E eb else F eb) E aL)
  (pv:= .list ((ps.filter t).map f)) (ob:={cls:= .type "list",data:= .seq ⟨[]⟩}) (λD W' j h=>∃k ys,h.get? D=some {cls:= .type "list",data:= .seq ⟨ys⟩ k}/\bJ w h W' (((ps.take j).filter t).map f) ys) ai hy ba src hs S f7
  (λD W' i=>⟨λh H=>dO H λk ys e _=>⟨_,e,.inl (λq=>by injection q with q;exact absurd q (by decide))⟩,λh h' H k₁ k₂=>dO H λk ys ax aC=>⟨k,ys,k₁ _ ax,aC.upd (λb o I U e=>⟨k₂ b o I U e,I⟩) (ek i)⟩⟩)
  (λD W' h e=>⟨0,[],e,rfl⟩)
  (λit D cenv R bh turn n s h=>codeAny_compLoop_tests bh turn n h)
  (λD cenv W' j p gD F c5 kM aa rF aW gg kt bx mn=>?_)
  (λD W' V h nf oz _ H=>dO H λk ys a1 a2=>⟨D,ys,k,rfl,oz,a1,by have:=a2.upd (λb o I _ e=>⟨e,λq=>I (nf b q)⟩) (ek _);rwa [take_length] at this⟩)
  (λit acc cenv R s h0 h=>codeAny_compStart_list h0 h) fin (λs Q h=>wpAny_newObj_type h (c0 _)) rfl rfl
 have kI:p∈ps:=eP aa;refine tests p kI cenv kM W' A gD _ _ ai rF (λa af=>aW a (nf a af)) (lz _ _ kt sV) λlS kD ui=>?_;have uB:ps.take (j+1)=ps.take j++[p]:=by rw[take_add_one,aa];rfl
 induction xk:t p with
 |false=>
  rw[aI Bool.false_ne_true];refine mn lS lS.heap lS.toks kD ui (.refl ..) ?_;rw[uB,filter_append];simpa[xk] using bx _ kD ui
 |true=>
  rw[aQ rfl];refine elts p kI xk cenv kM W' A lS _ _ ai (rF.ext kD ui) (λa af=>aW a (nf a af)) (lz _ _ (kt.trans kD.keep) sV) λy nN av uu uq=>?_;refine dO (bx _ (kD.trans uu) uq) λk ys a1 a2=>?_;have hlen:ys.length<=sizeLine:=by
   rw[<-a2.len,bO];exact Nat.le_trans (Nat.le_trans (length_filter_le _ _) (by rw[length_take];exact Nat.min_le_right ..)) hz
  refine wpAny_list_append_plain (items:=⟨ys⟩) ⟨k,a1⟩ (λz0 OD mG=>?_) hlen;refine aP OD λUZ RM=>?_;refine mn nN z0 nN.toks (kD.trans uu) uq mG ⟨UZ,ys++[y],by simpa using RM,?_⟩;rw[uB,filter_append,map_append];have BV:([p].filter t).map f=[f p]:=by simp[xk]
  rw[BV];have up:=λb o (I:¬W' b) (_:o.cls≠ .none) e=>And.intro (mG.extBut b o (λq=>I (q▸gg)) e) I;exact(a2.upd up (ek _)).app (.one (av.upd up (cN p kI xk)))
theorem Dh{iter:Expr}{x:Str}{f:ak->ak}{c:Bool}{sc:Scope}(ai:bK n A)(hy:St w env W m s.heap)(nf:∀a,V a->W a)(lz:∀h h',gd h h'->hr h->hr h')(sV:hr s.heap)(ba:c6 env sc)(src:lL prog w W A s (eval iter env) ps)(S:iK scope sc x c)
  (f7:∀y p,mf.lookup y=some p->m.lookup y=some p/\scope.names.lookup y=some .free) (hz:ps.length<=sizeLine) (cN:∀p∈ps,t p=true->cb (f p))
  (tests:∀p∈ps,∀cenv,c6 cenv scope->nA prog w n cenv ((x,p)::mf) V hr ifs (t p)) (elts:∀p∈ps,t p=true->∀cenv,c6 cenv scope->A5 prog w n cenv ((x,p)::mf) V hr elt (f p))
  (hs:∀v,foldedSetIterable iter env v=pure v) (h:∀v s',a6 w s'.heap W (.list ((ps.filter t).map f)) v->Ext s s'->G w s'.heap->Q v s'):wpAny (model prog w) A (eval (.ListComp elt [⟨.Name x px,iter,ifs,0⟩] scope pos) env) Q E s:=by
 rw[eval_ListComp];refine Dl (use:=none) ai hy nf lz sV ba src hs S f7 hz cN tests elts λD C s' e g gk BO aq aA=>?_;refine aP aA λcH aA=>?_;refine⟨cH,aA,λh' bL=>?_⟩;refine ah (my aA) λo aj hd=>?_;have aO:Ext s {s' with heap:=h'}:=by
  refine cn e.same λab t1 dy=>?_;exact⟨⟨h',t1,by rw[dy]⟩,λb ob I ct=>bL.extBut b ob (λq=>by rw[q,gk] at ct;injection ct) (e.keep b ob I ct)⟩
 refine h _ _ ?_ aO (hy.g.set g gk aj hd bL);have ek:cb (.list ((ps.filter t).map f)):=by
  show dA _;refine j9 λp aa=>?_;refine ah (bA.mp aa) λp' fS c1=>?_;subst c1;exact cN p' (List.mem_filter.mp fS).1 (List.mem_filter.mp fS).2
 exact aq.upd (λb ob I _ ct=>⟨bL.extBut b ob (λq=>I (.inr q)) ct,λq=>I (.inl q)⟩) ek
theorem kr{iter:Expr}{x:Str}{f:ak->ak}{c:Bool}{sc:Scope}(ba:c6 env sc)(hit:Ev prog w n env m iter q)(f9:cw prog w q ps)(S:iK scope sc x c)
  (f7:∀y p,mf.lookup y=some p->m.lookup y=some p/\scope.names.lookup y=some .free) (hz:ps.length<=sizeLine) (cN:∀p∈ps,t p=true->cb (f p))
  (tests:∀p∈ps,∀cenv,c6 cenv scope->fX prog w n cenv ((x,p)::mf) ifs (t p)) (elts:∀p∈ps,t p=true->∀cenv,c6 cenv scope->Ev prog w n cenv ((x,p)::mf) elt (f p))
  (hs:∀v,foldedSetIterable iter env v=pure v):Ev prog w n env m (.ListComp elt [⟨.Name x px,iter,ifs,0⟩] scope pos) (.list ((ps.filter t).map f)):=λW A s Q E ai hy h=>
 Dh (V:=λ_=>False) (hr:=λ_=>True) ai hy (λ_ h=>h.elim) (λ_ _ _ _=>trivial) trivial ba (lL.of ai hy hit f9) S f7 hz cN (λp aa cenv dQ W A s Q E ai x _ _ h=>tests p aa cenv dQ W A s Q E ai x h) (λp aa aM cenv dQ W A s Q E ai x _ _ h=>elts p aa aM cenv dQ W A s Q E ai x h) hs h
theorem Cc{iter:Expr}{x y:Str}{f:ak->ak}{c:Bool}{sc:Scope}{J:Addr->Prop}{ad:Str->Addr}{Q:Flow->Shared->Prop}(ai:bK n A)(F:b1 w s₀ env W₀ ad J m s)(nf:∀a,V a->bU W₀ env m ad J a)(lz:∀h h',gd h h'->hr h->hr h')(sV:hr s.heap)(ba:c6 env sc)(src:lL prog w (bU W₀ env m ad J) A s (eval iter env) ps)(S:iK scope sc x c)
  (f7:∀y p,mf.lookup y=some p->m.lookup y=some p/\scope.names.lookup y=some .free) (hz:ps.length<=sizeLine) (cN:∀p∈ps,t p=true->cb (f p))
  (tests:∀p∈ps,∀cenv,c6 cenv scope->nA prog w n cenv ((x,p)::mf) V hr ifs (t p)) (elts:∀p∈ps,t p=true->∀cenv,c6 cenv scope->A5 prog w n cenv ((x,p)::mf) V hr elt (f p))
  (ar:env.kindOf y=some .local\/(env.kindOf y=some .cell/\(env.cells.lookup y).isSome=true))
  (iZ:swapsWith (.ListComp elt [⟨.Name x px,iter,ifs,0⟩] scope pos) (some (.Name y py)) fQ.line env=pure true)
  (hs:∀v,foldedSetIterable iter env v=pure v) (h:∀s',b1 w s₀ env W₀ ad J ((y,.list ((ps.filter t).map f))::m) s'->bC (b4 env m ad) (b4 env ((y,.list ((ps.filter t).map f))::m) ad) s s'->Q .next s'):wpAny (model prog w) A (exec (.Assign [.Name y py] (.ListComp elt [⟨.Name x px,iter,ifs,0⟩] scope pos) fQ) env) Q E s:=by
 rw[exec_Assign_Name_used _ _ _ _ iZ];refine aH (wpAny_standAt (aH ?_));show wpAny _ A (do let _<-comprehension (PySem.Expr.ListComp elt [⟨PySem.Expr.Name x px,iter,ifs,0⟩] scope pos) scope env _ (newList []) false (eval iter env) (some (PySem.assign (PySem.Expr.Name y py) env))) _ _ s;have ek:cb (.list ((ps.filter t).map f)):=by
  show dA _;refine j9 λp aa=>?_;refine ah (bA.mp aa) λp' fS eM=>?_;subst eM;exact cN p' (List.mem_filter.mp fS).1 (List.mem_filter.mp fS).2
 refine aH (wpAny_mono (Dl (Q:=λ_ s'=>Q .next s') (use:=some (PySem.assign (PySem.Expr.Name y py) env)) ai F.st nf lz sV ba src hs S f7 hz cN tests elts λD C s' e g gk BO aq aA=>?_) (λ_ s' aG=>bu (bu aG)) λ_ _ e=>e);refine aP aA λcH aA=>?_;refine ah (my aA) λo aj hd=>?_;have rx:b1 w s₀ env W₀ ad (λa=>J a\/a=C) m s':=F.nL e g (λa af=> .inl af) λa af aN=>by
  rcases af with af |rfl
  ·exact absurd af aN
  ·exact⟨gk,⟨o,aj,.inr hd⟩,BO⟩
 have Sg:¬J C:=λq=>by
  refine aE (F.st.low C (.inr (.inr (.inr (.inr q))))) λeJ _=>?_;refine ah eJ λbZ aO cF=>?_;rw[gk] at aO;injection aO
 show wpAny _ A (PySem.assign (PySem.Expr.Name y py) env (.ref D)) _ _ _;have RL:a6 w s'.heap (bU W₀ env m ad λa=>J a\/a=C) (.list ((ps.filter t).map f)) (.ref D):=aq.upd (λb ob I _ ct=>⟨ct,λq=>I (by
  rcases q with q |q |q |q |q |q
  ·exact .inl (.inl q)
  ·exact .inl (.inr (.inl q))
  ·exact .inl (.inr (.inr (.inl q)))
  ·exact .inl (.inr (.inr (.inr (.inl q))))
  ·exact .inl (.inr (.inr (.inr (.inr q))))
  ·exact .inr q)⟩) ek
 have Td:env.locals≠C:=λq=>(rx.ec C (.inr rfl)).2.1 q.symm;have Ts:∀nm c,env.cells.lookup nm=some c->c≠C:=λnm c U q=>(rx.ec C (.inr rfl)).2.2.1 nm c U q.symm;refine wpAny_assign_Name (rx.ze RL ek ar λb2 A8 keep=>?_);have uc:=aA.at' (h':=b2.heap) λob ct=>keep C ob Td.symm (λnm c U=>(Ts nm c U).symm) ct;refine⟨cH,uc,λh' bL=>?_⟩;refine ah (my uc) λVV PV Qj=>?_;have Bm:G w h':=F.dJ.set A8.st.g (rx.ec C (.inr rfl)).1 PV Qj bL;have Uo:b1 w s₀ env W₀ ad J ((y,.list ((ps.filter t).map f))::m) {b2 with heap:=h'}:=A8.qx (λa af=> .inl af) ⟨h',b2.toks,rfl⟩ (λb ob I aM ct=>bL.extBut b ob (λq=>I (.inr q)) ct) Bm λa af=>by
  refine aE (A8.st.low a (.inr (.inr (.inr (.inr (.inl af)))))) λfi _=>?_;refine ah fi λm9 ff cF=>?_;exact⟨m9,bL.extBut _ _ (λq=>Sg (q▸af)) ff,cF⟩
 refine h _ Uo λb ob I aM ct=>⟨?_,λq=>I (b4.cons ek b q)⟩
 have RK:b≠C:=λq=>by rw[q,gk] at ct;injection ct
 exact bL.extBut _ _ RK (keep b ob (λq=>I (.inl q)) (λnm c U q=>I (.inr (.inl ⟨nm,q▸U⟩))) (e.keep b ob aM ct))
theorem rI{Φ:dn->Loc->Prop}{iter:Expr}{x y:Str}{f:ak->ak}{c:Bool}{sc:Scope}(ba:c6 env sc)(hit:Ev prog w n env m iter q)(f9:cw prog w q ps)(S:iK scope sc x c)
  (f7:∀y p,mf.lookup y=some p->m.lookup y=some p/\scope.names.lookup y=some .free) (hz:ps.length<=sizeLine) (cN:∀p∈ps,t p=true->cb (f p))
  (tests:∀p∈ps,∀cenv,c6 cenv scope->fX prog w n cenv ((x,p)::mf) ifs (t p)) (elts:∀p∈ps,t p=true->∀cenv,c6 cenv scope->Ev prog w n cenv ((x,p)::mf) elt (f p))
  (ar:env.kindOf y=some .local\/(env.kindOf y=some .cell/\(env.cells.lookup y).isSome=true)) (h:Φ .next ((y,.list ((ps.filter t).map f))::m))
  (iZ:swapsWith (.ListComp elt [⟨.Name x px,iter,ifs,0⟩] scope pos) (some (.Name y py)) fQ.line env=pure true)
  (hs:∀v,foldedSetIterable iter env v=pure v):df prog w n env m (.Assign [.Name y py] (.ListComp elt [⟨.Name x px,iter,ifs,0⟩] scope pos) fQ) Φ:=λs₀ W₀ J ad A s E ai F=>
 Cc (V:=λ_=>False) (hr:=λ_=>True) ai F (λ_ h=>h.elim) (λ_ _ _ _=>trivial) trivial ba (lL.of ai F.st hit f9) S f7 hz cN (λp aa cenv dQ W A s Q E ai x _ _ h=>tests p aa cenv dQ W A s Q E ai x h) (λp aa aM cenv dQ W A s Q E ai x _ _ h=>elts p aa aM cenv dQ W A s Q E ai x h) ar iZ hs λs' aS k=>⟨ad,_,aS,k,h⟩
mutual
noncomputable def e6:ak->PyData
 | .none=> .none
 | .bool b=> .bool b
 | .int i=> .int i
 | .str x=> .str x
 | .list l=> .list (dX l)
 | .bw l=> .list (dX l)
 | .tup l=> .tuple (dX l)
 |_=> .none
noncomputable def dX:List ak->List PyData
 |[]=>[]
 |p::r=>e6 p::dX r
end
mutual
def jy:ak->Prop
 | .none=>True
 | .bool _=>True
 | .int _=>True
 | .str x=>PyData.strOk x=true
 | .list l=>gJ l
 | .bw l=>gJ l
 | .tup l=>gJ l
 |_=>False
def gJ:List ak->Prop
 |[]=>True
 |p::r=>jy p/\gJ r
end
mutual
theorem jy.reads{w:World}{h:Heap}{W:Addr->Prop}:∀{p:ak} {v:Value},jy p->a6 w h W p v->∃as,Reads h v (e6 p) as
 | .none,_,_,x=>by rw[show _=Value.none from x];exact⟨_,.none⟩
 | .bool b,_,_,x=>by rw[show _=Value.bool b from x];exact⟨_,.bool b⟩
 | .int i,_,_,⟨t,x⟩=>by rw[x];exact⟨_,.int i t⟩
 | .str y,_,_,⟨t,x⟩=>by rw[x];exact⟨_,.str y t⟩
 | .list l,_,k,⟨a,vs,n,e,_,aj,hs⟩=>by refine aP (gJ.reads k hs) λas r=>?_;rw[e];exact⟨_,.list aj rfl rfl r⟩
 | .bw l,_,k,⟨a,vs,n,e,_,aj,hs⟩=>by refine aP (gJ.reads k hs) λas r=>?_;rw[e];exact⟨_,.list aj rfl rfl r⟩
 | .tup l,_,k,⟨a,vs,n,e,_,aj,hs⟩=>by refine aP (gJ.reads k hs) λas r=>?_;rw[e];exact⟨_,.tuple aj rfl rfl r⟩
 | .dict _ _,_,k,_=>k.elim
 | .eH _ _,_,k,_=>k.elim
 | .val _,_,k,_=>k.elim
 | .obj _,_,k,_=>k.elim
 | .gY _ _ _,_,k,_=>k.elim
 | .lam _,_,k,_=>k.elim
theorem gJ.reads{w:World}{h:Heap}{W:Addr->Prop}:∀{p:List ak} {v:List Value},gJ p->bJ w h W p v->∃as,ReadsAll h v (dX p) as
 |[],_,_,x=>by rw[show _=[] from x];exact⟨_,.nil⟩
 |p::r,_,k,⟨v,vs,e,x,y⟩=>by
  refine aP (jy.reads k.1 x) λas ab=>?_;refine aP (gJ.reads k.2 y) λbs ae=>?_;rw[e];exact⟨_,.cons ab ae⟩
end
mutual
theorem jy.lay:∀{p:ak},jy p->(e6 p).canLay0=true
 | .none,_=>rfl
 | .bool _,_=>rfl
 | .int _,_=>rfl
 | .str _,k=>k
 | .list _,k=>gJ.lay k
 | .bw _,k=>gJ.lay k
 | .tup _,k=>gJ.lay k
 | .dict _ _,k=>k.elim
 | .eH _ _,k=>k.elim
 | .val _,k=>k.elim
 | .obj _,k=>k.elim
 | .gY _ _ _,k=>k.elim
 | .lam _,k=>k.elim
theorem gJ.lay:∀{p:List ak},gJ p->PyData.canLayAll0 (dX p)=true
 |[],_=>rfl
 |p::r,k=>by show(_&&_)=true;rw[jy.lay k.1,gJ.lay k.2];rfl
end
theorem Dm{p:ak}(aa:jy p)(aG:jy q)(hd:min (e6 p).depth (e6 q).depth<=64):cA prog w (compareOp .Eq) p q (.bool (PyData.eqv (e6 p) (e6 q))):=λW A s a b Q E r g _ x y h=>by
 refine aP (aa.reads x) λas gG=>?_;refine aP (aG.reads y) λbs e3=>?_;refine SeqAt.compareEq_reads gG e3 aa.lay aG.lay ?_ (h _ _ rfl (.refl s) g);have:=r.units;show _ < 9900;walk_at"o"
theorem De{p:ak}(aa:jy p)(aG:jy q)(hd:min (e6 p).depth (e6 q).depth<=64):cA prog w (compareOp .NotEq) p q (.bool (!PyData.eqv (e6 p) (e6 q))):=λW A s a b Q E r g _ x y h=>by
 refine aP (aa.reads x) λas gG=>?_;refine aP (aG.reads y) λbs e3=>?_;refine SeqAt.compareNe_reads gG e3 aa.lay aG.lay ?_ (h _ _ rfl (.refl s) g);have:=r.units;show _ < 9900;walk_at"o"
theorem Ee{a b:Value}{x:Str}{l:List ak}{p:ak}(aa:p= .list l\/p= .bw l)(ao:gJ l)(ag:PyData.strOk x=true)(r:bK 0 A)(af:a6 w s.heap W (.str x) a)(I:a6 w s.heap W p b):
  ∃as bs,Reads s.heap b (.list (dX l)) as/\Reads s.heap a (.str x) bs/\PyData.canLayAll0 (dX l)=true/\(PyData.str x).canLay0=true/\A.units+1+min (PyData.depthAll (dX l)) (PyData.str x).depth < cLine:=by
 have b5:jy p:=by rcases aa with rfl |rfl<;>exact ao
 have e:e6 p= .list (dX l):=by rcases aa with rfl |rfl<;>rfl
 refine aP (b5.reads I) λas gG=>?_;refine aP (jy.reads (p:= .str x) ag af) λbs e3=>?_;refine⟨as,bs,e▸gG,e3,ao.lay,ag,?_⟩;have h0:(PyData.str x).depth=0:=rfl;have:=r.units;rw[h0,Nat.min_zero];show _ < 9900;walk_at"o"
theorem tB{x:Str}{l:List ak}(ao:gJ l)(ag:PyData.strOk x=true):cA prog w (compareOp .In) (.str x) (.list l) (.bool ((dX l).any λy=>PyData.eqv y (.str x))):=λW A s a b Q E r g _ af I h=>by
 refine sh (Ee (.inl rfl) ao ag r af I) λas bs gG e3 ab ae aD=>?_;exact SeqAt.in_list_reads gG e3 ab ae aD (h _ _ rfl (.refl s) g)
theorem Iw{x:Str}{l:List ak}(ao:gJ l)(ag:PyData.strOk x=true):cA prog w (compareOp .NotIn) (.str x) (.bw l) (.bool (!(dX l).any λy=>PyData.eqv y (.str x))):=λW A s a b Q E r g _ af I h=>by
 refine sh (Ee (.inr rfl) ao ag r af I) λas bs gG e3 ab ae aD=>?_;exact SeqAt.notIn_list_reads gG e3 ab ae aD (h _ _ rfl (.refl s) g)
theorem Ev.list(h:aK prog w n env m pos es ps)(hz:ps.length<=sizeLine):Ev prog w n env m (.List es pos) (.list ps):=λW A s Q E ai x aG=>by
 refine PyProof.Rows.List_ (h W A s _ E ai x λvs au bb az aF=>?_);refine wpAny_newObj_type ?_ (by show vs.toArray.size<=_;rw[List.size_toArray, <-bb.len];exact hz);exact aG _ _ ⟨_,vs,0,rfl,(x.ext az aF).low.fresh,dc _ rfl,bb.mono λb o U e=>dV _ e⟩ (az.trans (.push ..)) (aF.push _)
theorem Ev.tuple{k:Nat}(h:aK prog w n env m pos es ps)(hz:ps.length<=sizeLine):Ev prog w n env m (.Tuple es k pos) (.tup ps):=λW A s Q E ai x aG=>by
 refine PyProof.Rows.Tuple_ (h W A s _ E ai x λvs au bb az aF=>?_);refine wpAny_newObj_type ?_ (by show vs.toArray.size<=_;rw[List.size_toArray, <-bb.len];exact hz);exact aG _ _ ⟨_,vs,0,rfl,(x.ext az aF).low.fresh,dc _ rfl,bb.mono λb o U e=>dV _ e⟩ (az.trans (.push ..)) (aF.push _)
theorem ts{l:List ak}(hz:l.length+l'.length<=sizeLine):cA prog w (binaryOp .Add) (.list l) (.list l') (.list (l++l')):=λW A s _ _ Q E r g low fm hH h=>by
 refine cg fm λa vs n e aW aj hs=>?_;refine cg hH λb us k aO pf cS eC=>?_;subst e aO;have hg:(⟨vs⟩:Array Value).size+(⟨us⟩:Array Value).size<=sizeLine:=by show vs.length+us.length<=_;rw[<-hs.len, <-eC.len];exact hz
 refine concat_meets ⟨_,aj,rfl⟩ ⟨_,cS,rfl⟩ noFill_list_add seq_list_add PySem.F.slot_list_add PySem.F.entry_list_add (PySem.F.args_list_add_2 _ _) (PyProof.Rows.list_addW a b ⟨vs⟩ ⟨us⟩ n k none none #[] #[] hg) ⟨aj,cS,?_⟩;refine h _ _ ⟨_,vs++us,0,rfl,low.fresh,?_,(hs.app eC).mono λb o U e=>dV _ e⟩ (.push ..) (g.push _);have e:(⟨vs⟩:Array Value)++⟨us⟩=⟨vs++us⟩:=by simp
 rw[e];exact dc _ rfl
theorem fits63{l:List ak}(e:l.length=vs.length)(hz:l.length<=sizeLine):((⟨vs⟩:Array Value).size:Int) < 2 ^ 63:=by
 have:sizeLine=2 ^ 24:=rfl;show((vs.length:Nat):Int) < _;walk_at"o"
theorem Cl.len{l:List ak}(hz:l.length<=sizeLine):Cl prog w n (.builtin "len") [.list l] (.int l.length):=λW A s _ Q E r g low jW h=>by
 refine bj jW λ_ _ ax aU a8=>?_;refine cg aU λa vs k e aW aj hs=>?_;subst ax e;rw[show _=[] from a8];refine Calls.call_len_list (items:=⟨vs⟩) ⟨_,aj,rfl,k,rfl⟩ (fits63 hs.len hz) (h _ _ ⟨s.toks+1,?_⟩ (.tok s _) g);show Value.int ((vs.length:Nat):Int) _=_;rw[hs.len]
theorem Ks{l:List ak}(hz:l.length<=sizeLine):Cl prog w n (.builtin "len") [.bw l] (.int l.length):=λW A s _ Q E r g low l5 h=>by
 refine bj l5 λ_ _ ax a7 a8=>?_;refine cg a7 λa vs k e aW aj hs=>?_;subst ax e;rw[show _=[] from a8];refine Calls.call_len_list (items:=⟨vs⟩) ⟨_,aj,rfl,k,rfl⟩ (fits63 hs.len hz) (h _ _ ⟨s.toks+1,?_⟩ (.tok s _) g);show Value.int ((vs.length:Nat):Int) _=_;rw[hs.len]
theorem gR.list{l:List ak}(hz:l.length<=sizeLine):gR prog w (.list l) (!l.isEmpty):=λW A s _ Q E r g nU h=>by
 refine cg nU λa vs k e aW aj hs=>?_;subst e;refine wpAny_truthy_list (items:=⟨vs⟩) ⟨_,aj,rfl,k,rfl⟩ (fits63 hs.len hz) ?_;have:(!(⟨vs⟩:Array Value).isEmpty)= !l.isEmpty:=by
  have:=hs.len
  (induction l)<;>(induction vs)<;>simp_all
 rw[this];exact h _ (.tok s _) g
theorem rM{i:Int}:Cl prog w n (.type "range") [.int i] (.gY 0 i 1):=λW A s _ Q E r g low n1 h=>by
 refine bj n1 λ_ _ ax bk a8=>?_;refine aP bk λt e=>?_;subst ax e;rw[show _=[] from a8];exact call_range_1 (h _ _ ⟨_,_,_,_,rfl,low.fresh,dc _ rfl⟩ (.keeps λ_ _ e=>dV _ e) (g.push _))
theorem Jj{i j k:Int}(ar:k≠0)(hs:(j - i).natAbs < 1000/\k.natAbs < 1000):Cl prog w n (.type "range") [.int i,.int j,.int k] (.gY i j k):=λW A s _ Q E r g low n4 h=>by
 refine bj n4 λ_ _ ax bz c2=>?_;refine bj c2 λ_ _ aC b7 dq=>?_;refine bj dq λ_ _ a8 cC bX=>?_;refine aP bz λt e=>?_;refine aP b7 λeV aO=>?_;refine aP cC λVP Ak=>?_;subst ax e aC aO a8 Ak;rw[show _=[] from bX];exact call_range_3 ar (h _ _ ⟨_,_,_,_,rfl,low.fresh,dc _ rfl⟩ (.keeps λ_ _ e=>dV _ e) (g.push _)) (.inl (PyProof.noPylong_small (by walk_at"o")))
theorem Iz{P:Nat->Value->Prop}{T:Nat->Heap->Prop}(W:Walks prog w A bh fp wr n P T):Walks prog w A bh fp wr n (λi v=>i < n/\P i v) T where
 sub:=W.sub
 frame:=W.frame
 item:=λi s Q E hi st a4=>W.item i s Q E hi st λv h' tk b5=>a4 v h' tk ⟨hi,b5⟩
 done:=W.done
 self:=W.self
noncomputable def iy(a b c:Int):Nat:=(Builtin.Range.rangeSize a b c).toNat
noncomputable def fR(a b c:Int):List ak:=(range (iy a b c)).map λi=> .int (a+(i:Nat)*c)
theorem cw.gY{a b c:Int}(hs:Builtin.Range.small a b c=true)(h0:0<=Builtin.Range.rangeSize a b c):cw prog w (.gY a b c) (fR a b c):=λW A s v Q E ai g low oh h=>by
 refine uo oh λr t u x e aW aj=>?_;subst e;refine wpAny_pyIter_range aj hs ?_;have hlen:(fR a b c).length=iy a b c:=by simp[fR]
 refine h s.heap.objs.size _ _ _ _ _ (.push ..) (g.push _) (hlen▸Iz (Walks.range ai.calm s.heap.objs.size a c (iy a b c))) ?_ (λb I=>?_) (λb I=>?_) (λi h bE b I=>?_) (λb I=> .inl I) λi u bD=>?_
 ·have ax:a+((0:Nat):Int)*c=a:=by walk_at"o"
  have aC:((iy a b c:Nat):Int) - ((0:Nat):Int)=Builtin.Range.rangeSize a b c:=by unfold iy;walk_at"o"
  rw[hlen];show IsRangeIter _ _ (a+((0:Nat):Int)*c) (((iy a b c:Nat):Int) - ((0:Nat):Int)) c;rw[ax,aC];exact dc _ rfl
 ·simp at I;subst I;exact er _
 ·simp at I;subst I;exact⟨⟨_,dc _ rfl⟩,g.fu (er _)⟩
 ·simp at I;subst I;exact⟨_,bE,.inl (λq=>by injection q with q;exact absurd q (by decide))⟩
 ·obtain⟨hi,t,c1⟩:=bD;subst c1;refine⟨.int (a+(i:Nat)*c),?_,⟨t,rfl⟩⟩;rw[hlen] at hi;simp[fR,hi]
noncomputable abbrev cp(l:List Int):List ak:=l.map .int
theorem wo{l:List Int}(h:(cp l)[i]? =some q):∃(hi:i < l.length),q= .int l[i]:=by
 simp only[cp,getElem?_map,map_eq_some_iff] at h;refine ah h λk ab eM=>?_;subst eM;obtain⟨hi,e⟩:=List.getElem?_eq_some_iff.mp ab;exact⟨hi,by rw[e]⟩
theorem preSum_eq(l:List Int):∀k,k<=l.length->preSum (λi=>l.getD i 0) k=(l.take k).sum:=by
 intro a9;induction a9 with
 |zero=>
  intro _;exact rfl
 |succ k aw=>
  intro h;have aw:=aw (by exact Nat.le_of_succ_le ‹_›);show preSum _ k+_=_;rw[aw,take_succ_eq_append_getElem (by walk_at"o"),sum_append];simp[List.getD,getElem?_eq_getElem (show k < l.length by walk_at"o")]
theorem Cl.sum{l:List Int}{p:ak}(f9:cw prog w p (cp l)):Cl prog w (n+1) (.builtin "sum") [p] (.int l.sum):=λW A s _ Q E r g low n6 h=>by
 refine bj n6 λv _ ax aq a8=>?_;subst ax;rw[show _=[] from a8];refine call_sum_walkG (f9 W A.in1 s v _ E (r.in1.le (c0 _)) g low aq λbh fp wr P T aL aR aY aW bE fb dP dC _ b5=>?_);refine⟨bh,fp,wr,(cp l).length,P,T,λi=>l.getD i 0,rfl,aW,bE,λb I=>aE (dP b I) λSS _=>aP SS λo e=>lt_size e,λi v nR=>?_,λh' tk eV ar=>?_⟩
 ·refine ah (b5 i v nR) λq ab ae=>?_;refine aP (wo ab) λhi eJ=>?_;subst eJ;refine aP ae λt fi=>?_;subst fi;exact⟨t,by simp[List.getD,getElem?_eq_getElem hi]⟩
 ·have hlen:(cp l).length=l.length:=by simp[cp]
  refine h _ _ ⟨eV,?_⟩ ?_ ?_
  ·rw[hlen,preSum_eq l _ (Nat.le_refl _),take_length]
  ·refine cn aR.same λab t1 dy=>?_;exact⟨⟨h',tk,by rw[dy]⟩,λb o I e=>ar b o (λq=>by rw[fb b q] at e;injection e) (aR.keep b o I e)⟩
  ·exact g.chg (X:=λa=>a∈wr) aY (λa af=>⟨fb a af,dC 0 _ bE a af⟩) λb o I e=>ar b o I e
noncomputable def bestOf(lt:Int->Int->Bool)(l:List Int):Int:=l.getD (argBest (λi j=>lt (l.getD i 0) (l.getD j 0)) (l.length - 1)) 0
theorem yH{lt:Int->Int->Bool}{l:List Int}{P:Nat->Value->Prop}(b5:∀i u,P i u->∃q,(cp l)[i]? =some q/\a6 w h W q u)
  (U:∀(a b:Int) (t u:Tok) (s:Shared) (Q:Value->Shared->Prop) (E:Value->Shared->Prop),Q (.bool (lt a b)) s->wpAny (model prog w) A (richCompare op (.int a t) (.int b u)) Q E s):
  CmpOf prog w A op P λi j=>lt (l.getD i 0) (l.getD j 0):=λi j UM UW s Q E hi aN a4=>by
 refine ah (b5 i UM hi) λq ab ae=>?_;refine aP (wo ab) λfl fJ=>?_;subst fJ;refine aP ae λt f5=>?_;subst f5;refine ah (b5 j UW aN) λq ab ae=>?_;refine aP (wo ab) λpz h3=>?_;subst h3;refine aP ae λu h4=>?_;subst h4;refine U _ _ _ _ s Q E ?_;simpa[List.getD,getElem?_eq_getElem fl,getElem?_eq_getElem pz] using a4
variable {kvs:List (Str×Value)}
theorem yR{lt:Int->Int->Bool}{l:List Int}(h0:0 < l.length){P:Nat->Value->Prop}(b5:∀i u,P i u->∃q,(cp l)[i]? =some q/\a6 w h W q u){v:Value} 
  (aq:P (argBest (λi j=>lt (l.getD i 0) (l.getD j 0)) ((cp l).length - 1)) v):a6 w h' W (.int (bestOf lt l)) v:=by
 have hlen:(cp l).length=l.length:=by simp[cp]
 rw[hlen] at aq;refine ah (b5 _ v aq) λq ab ae=>?_;refine aP (wo ab) λhi aU=>?_;subst aU;refine aP ae λt a7=>?_;subst a7;exact⟨t,by unfold bestOf;rw[List.getD,cm hi];rfl⟩
theorem KY{l:List Int}{p:ak}(f9:cw prog w p (cp l))(h0:0 < l.length):Cl prog w (n+1) (.builtin "max") [p] (.int (bestOf (λa b=>decide (b < a)) l)):=λW A s _ Q E r g low fm h=>by
 refine bj fm λv _ ax aq a8=>?_;subst ax;rw[show _=[] from a8];refine call_max_walk (f9 W A.in1 s v _ E (r.in1.le (c0 _)) g low aq λbh fp wr P T aL aR aY aW bE fb dP dC _ b5=>?_);refine⟨bh,fp,wr,(cp l).length,P,T,_,rfl,aW,bE,λb I=>let⟨⟨o,e⟩,_⟩:=dP b I;lt_size e,by simpa[cp] using h0,yH (lt:=λa b=>decide (b < a)) b5 λa b t u s Q E aG=>PyProof.Rows.gt_int aG,λv h' tk aq ar=>?_⟩;refine h _ _ (yR h0 b5 aq) ?_ ?_
 ·refine cn aR.same λab t1 dy=>?_;exact⟨⟨h',tk,by rw[dy]⟩,λb o I e=>ar b o (λq=>by rw[fb b q] at e;injection e) (aR.keep b o I e)⟩
 ·exact g.chg (X:=λa=>a∈wr) aY (λa af=>⟨fb a af,dC 0 _ bE a af⟩) λb o I e=>ar b o I e
theorem K8{l:List Int}{p:ak}(f9:cw prog w p (cp l))(h0:0 < l.length):Cl prog w (n+1) (.builtin "min") [p] (.int (bestOf (λa b=>decide (a < b)) l)):=λW A s _ Q E r g low hH h=>by
 refine bj hH λv _ ax aq a8=>?_;subst ax;rw[show _=[] from a8];refine call_min_walk (f9 W A.in1 s v _ E (r.in1.le (c0 _)) g low aq λbh fp wr P T aL aR aY aW bE fb dP dC _ b5=>?_);refine⟨bh,fp,wr,(cp l).length,P,T,_,rfl,aW,bE,λb I=>let⟨⟨o,e⟩,_⟩:=dP b I;lt_size e,by simpa[cp] using h0,yH (lt:=λa b=>decide (a < b)) b5 λa b t u s Q E aG=>PyProof.Rows.lt_int aG,λv h' tk aq ar=>?_⟩;refine h _ _ (yR h0 b5 aq) ?_ ?_
 ·refine cn aR.same λab t1 dy=>?_;exact⟨⟨h',tk,by rw[dy]⟩,λb o I e=>ar b o (λq=>by rw[fb b q] at e;injection e) (aR.keep b o I e)⟩
 ·exact g.chg (X:=λa=>a∈wr) aY (λa af=>⟨fb a af,dC 0 _ bE a af⟩) λb o I e=>ar b o I e
theorem Kv{a b:Int}:Cl prog w (n+1) (.builtin "max") [.int a,.int b] (.int (bestOf (λa b=>decide (b < a)) [a,b])):=λW A s _ Q E r g low jW h=>by
 refine bj jW λv _ ax aq bk=>?_;refine bj bk λhV _ aC jr a8=>?_;subst ax aC;rw[show _=[] from a8];have FN:Ext s {s with heap:=s.heap.push {cls:= .type "tuple",data:= .seq #[v,hV]}}:= .push ..;have dJ:=g.push {cls:= .type "tuple",data:= .seq #[v,hV]};have e8:eB W (s.heap.push {cls:= .type "tuple",data:= .seq #[v,hV]}):=low.kt FN.keep;have r6:a6 w (s.heap.push {cls:= .type "tuple",data:= .seq #[v,hV]}) W (.tup (cp [a,b])) (.ref s.heap.objs.size):=⟨_,[v,hV],0,rfl,low.fresh,dc _ rfl,⟨v,[hV],rfl,aq.mono (λb o U e=>dV _ e),hV,[],rfl,jr.mono (λb o U e=>dV _ e),rfl⟩⟩
 refine call_max_two (cw.tup W A.in1 _ _ _ E (r.in1.le (c0 _)) dJ e8 r6 λbh fp wr P T aL aR aY aW bE fb dP dC _ b5=>?_);refine⟨bh,fp,wr,(cp [a,b]).length,P,T,_,rfl,aW,bE,λb I=>aE (dP b I) λPG _=>aP PG λo e=>lt_size e,Nat.zero_lt_succ _,yH (lt:=λa b=>decide (b < a)) b5 λa b t u s Q E aG=>PyProof.Rows.gt_int aG,λv h' tk aq ar=>?_⟩;refine h _ _ (yR (l:=[a,b]) (Nat.zero_lt_succ _) b5 aq) ?_ ?_
 ·refine cn aR.same λab t1 dy=>?_;exact FN.trans ⟨⟨h',tk,by rw[dy]⟩,λb o I e=>ar b o (λq=>by rw[fb b q] at e;injection e) (aR.keep b o I e)⟩
 ·exact dJ.chg (X:=λa=>a∈wr) aY (λa af=>⟨fb a af,dC 0 _ bE a af⟩) λb o I e=>ar b o I e
theorem gJ.mem:∀{l:List ak} {p:ak},gJ l->p∈l->jy p:=by
 intro a9;induction a9 with
 |nil=>
  intro _ _ h;exact absurd h b8
 |cons q r aw=>
  intro p f h;rcases bI.mp h with rfl |h
  ·exact f.1
  ·exact aw f.2 h
theorem JQ{l:List ak}{j:Nat}(ao:gJ l)(aG:jy q)(hd:(e6 q).depth<=64)(hz:l.length<=sizeLine)(aN:j < l.length)(hit:PyData.eqv (e6 l[j]) (e6 q)=true)(hT:∀k (ar:k < l.length),k < j->PyData.eqv (e6 l[k]) (e6 q)=false):
  Cl prog w n (.builtin "list.index") [.list l,q] (.int j):=λW A s _ Q E r g low l5 h=>by
 refine bj l5 λ_ _ ax bz b7=>?_;refine bj b7 λv _ aC aq a8=>?_;refine cg bz λa vs k e aW aj hs=>?_;subst ax e aC;rw[show _=[] from a8];refine aP (ao.reads hs) λas rs=>?_;refine aP (aG.reads aq) λbs UY=>?_;have lZ:∀i (hi:i < vs.length),SeqAt.readOf s.heap vs[i]=e6 (l[i]'(by rw[hs.len];exact hi)):=λi hi=>by
  obtain⟨p,ab,ae⟩:=hs.at' (cm hi);obtain⟨fl,e⟩:=List.getElem?_eq_some_iff.mp ab;have aa:jy p:=ao.mem (eP ab);refine aP (aa.reads ae) λcs US=>?_;rw[SeqAt.readOf_eq aa.lay US,e]
 have de:sizeLine=2 ^ 24:=rfl;refine call_meets PySem.F.slot_list_index ⟨_,aj,rfl⟩ PySem.F.entry_list_index (PySem.F.args_list_index_2 _ _)
  (SeqAt.list_indexAt a ⟨vs⟩ k none #[] v (λy=>PyData.eqv (SeqAt.readOf s.heap y) (e6 q)) j (by show j < vs.length;rw[<-hs.len];exact aN) (by walk_at"o") ?_ ?_) ⟨aj,SeqAt.items_eqAt rs UY ao.lay aG.lay ?_,h _ _ ⟨_,rfl⟩ (.tok s _) g⟩
 ·have pz:j < vs.length:=by rw[<-hs.len];exact aN
  show PyData.eqv (SeqAt.readOf s.heap vs[j]) (e6 q)=true;rw[lZ j pz];exact hit
 ·intro i hi cu;have fl:i < vs.length:=hi;show PyData.eqv (SeqAt.readOf s.heap vs[i]) (e6 q)=false;rw[lZ i fl];exact hT i (by rw[hs.len];exact hi) cu
 ·have:=r.units;show _ < 9900;have:Nat.min (PyData.depthAll (dX l)) (e6 q).depth<=64:=Nat.le_trans (Nat.min_le_right _ _) hd;walk_at"o"
theorem N9:Meth "list" "index" "list.index":=⟨F.plainAttrs_list,F.slot_list_index,F.type_list_index⟩
theorem OU:Meth "str" "join" "str.join":=⟨F.plainAttrs_str,F.slot_str_join,F.type_str_join⟩
noncomputable abbrev aB(l:List Str):List ak:=l.map .str
theorem Dx:∀{l:List Str} {vs:List Value},bJ w h W (aB l) vs->∃ls:List (Str×Tok),strValues ls=vs/\ls.map (·.1)=l:=by
 intro a9;induction a9 with
 |nil=>
  intro _ x;exact⟨[],by rw[show _=[] from x];rfl,rfl⟩
 |cons y r aw=>
  intro _ ra;refine bj ra λv vs e Sn z=>?_;refine aP Sn λt x=>?_;refine ah (aw z) λls ab ae=>?_;exact⟨(y,t)::ls,by rw[e,x, <-ab];rfl,by rw[map_cons,ae]⟩
theorem Cl.join{sep:Str}{l:List Str}(ao:(l.toArray.foldl (· +·.length+sep.length) 0)<=sizeLine)(dj:(Builtin.Str.glued sep l).length<=sizeLine):
  Cl prog w n (.builtin "str.join") [.str sep,.list (aB l)] (.str (Builtin.Str.glued sep l)):=λW A s _ Q E r g low nU h=>by
 refine bj nU λ_ _ ax cC c1=>?_;refine bj c1 λ_ _ aC c2 a8=>?_;refine aP cC λt dN=>?_;refine cg c2 λa vs k e aW aj hs=>?_;subst ax dN aC e;rw[show _=[] from a8];refine ah (Dx hs) λls eM eJ=>?_;subst eM;subst eJ;refine call_meets PySem.F.slot_str_join (typeIs_str _ _ _) PySem.F.entry_str_join (PySem.F.args_str_join_2 _ _) (meets_str_join_list sep t a ls (by unfold Builtin.Str.tooLong;simpa using ao)) ⟨⟨_,aj,rfl,k,rfl⟩,?_⟩;induction ls with
 |nil=>exact⟨dj,h _ _ ⟨_,rfl⟩ (.tok s _) g⟩
 |cons p r=>
  induction r with
  |nil=>
   refine h _ _ ⟨p.2,?_⟩ (.refl s) g;show Value.str p.1 p.2= .str (Builtin.Str.glued sep [p.1]) p.2;rfl
  |cons q r'=>exact⟨dj,h _ _ ⟨_,rfl⟩ (.tok s _) g⟩
theorem yz{ks:List Str}{es:List DictEntry}(h:KeysAre w ks es):Pairs (strKind prog w) es (ks.zip (es.map (·.val)))/\(∀e∈es,∃k,(strKind prog w).is k e.key=true/\e.hash=hashStr w k)/\es.length=ks.length:=by
 induction ks generalizing es with
 |nil=>rw[show es=[] from h];exact⟨.nil,λe q=>absurd q b8,rfl⟩
 |cons k r aw=>
  refine h8 h λe r' fi fJ dr bf=>?_;subst fi;refine aP fJ λt ar=>?_;refine cB (aw bf) λab ae aD=>?_;have hi:(strKind prog w).is k e.key=true:=by rw[ar];show Value.isStrOf k (.str k t)=true;simp[Value.isStrOf]
  refine⟨.cons hi rfl ab,λaO gc=>?_,by simp[aD]⟩;rcases bI.mp gc with rfl |gc
  ·exact⟨k,hi,dr⟩
  ·exact ae aO gc
theorem JU{es:List DictEntry}(h:Pairs (strKind prog w) es kvs)(ar:∀e∈es,∃k,(strKind prog w).is k e.key=true/\e.hash=hashStr w k):KeysAre w (kvs.map (·.1)) es/\es.map (·.val)=kvs.map (·.2):=by
 induction h with
 |nil=>exact⟨rfl,rfl⟩
 |@cons e kv es kvs ab ae aD aw=>
  refine aE (aw λe he=>ar e (en _ he)) λew gv=>?_;refine ah (ar e (cM ..)) λk' bc dz=>?_;have:k'=kv.1:=(strKind prog w).inj _ _ _ bc ab;subst this;refine aP (Value.isStrOf_shape ab) λt aM=>?_;exact⟨⟨e,es,rfl,⟨t,aM⟩,dz,ew⟩,by rw[map_cons,map_cons,ae,gv]⟩
theorem qi{a:Addr}{es:List DictEntry}{k:Nat}{ks:List Str}(aj:h.get? a=some {cls:= .type "dict",data:= .dict ⟨es⟩ k})(ar:KeysAre w ks es)(aA:ks.Nodup):h.DictAt (strKind prog w) a (ks.zip (es.map (·.val))) k:=by
 refine cB (yz (prog:=prog) ar) λab ae aD=>?_;refine⟨_,⟨es⟩,aj,⟨rfl,rfl,rfl⟩,rfl,λe he=>ae e (by simpa using he),ab,?_⟩
 rwa [map_fst_zip (by simp[aD])]
theorem tN{a:Addr}(x:h.DictOf (strKind prog w) a kvs):∃es k,h.get? a=some {cls:= .type "dict",data:= .dict ⟨es⟩ k}/\KeysAre w (kvs.map (·.1)) es/\(kvs.map (·.1)).Nodup/\es.map (·.val)=kvs.map (·.2):=by
 refine FG x λf5 h3 ep aj h4 hd ar aa aA=>?_;obtain⟨c,sY,data,bQ⟩:=f5;obtain⟨es⟩:=h3;refine cB h4 λab ae aD=>?_;simp only at ab ae aD hd;subst ab ae aD hd;refine aE (JU aa λe he=>ar e (by simpa using he)) λbc dz=>?_;exact⟨es,ep,aj,bc,aA,dz⟩
noncomputable def dictAt(ks:List Str)(l:List ak)(k:Str):Option ak:=(ks.zip l).lookup k
theorem J4{k:Str}:valueAt kvs k=kvs.lookup k:=by
 induction kvs with
 |nil=>rfl
 |cons kv r aw=>
  obtain⟨k',v⟩:=kv;unfold valueAt;rw[find?_cons,di];by_cases e:k'=k
  ·subst e;simp
  ·simp only[e,decide_false];rw[show(k==k')=false by simpa using λq:k=k'=>e q.symm];exact aw
theorem JN:∀{ks:List Str} {l:List ak} {vs:List Value} {k:Str},bJ w h W l vs->match dictAt ks l k with |some p=>∃v,(ks.zip vs).lookup k=some v/\a6 w h W p v |none=>(ks.zip vs).lookup k=none:=by
 intro ks;induction ks with
 |nil=>intro _ _ _ _;rfl
 |cons k' ks aw=>
  intro l vs k x;rcases l with _ |⟨p,l⟩
  ·rw[show _=[] from x];rfl
  refine bj x λv eh e rC y=>?_;subst e;unfold dictAt;rw[zip_cons_cons,zip_cons_cons,di,di];induction ar:k==k' with
  |true=>exact⟨v,rfl,rC⟩
  |false=>exact aw y
theorem isKey{x:Str}{t:Tok}:(strKind prog w).is x (.str x t)=true:=by show Value.isStrOf x (.str x t)=true;simp[Value.isStrOf]
theorem vT{a:Addr}{es:List DictEntry}{k:Nat}{ks:List Str}{l:List ak}{x:Str}(aj:h.get? a=some {cls:= .type "dict",data:= .dict ⟨es⟩ k})(ar:KeysAre w ks es)(aA:ks.Nodup)(hs:bJ w h W l (es.map (·.val))):
  ∃f,h.MapOf (strKind prog w) a f/\match dictAt ks l x with |some p=>∃v,f x=some v/\a6 w h W p v |none=>f x=none:=by
 refine⟨_,(qi (prog:=prog) aj ar aA).dictOf.mapOf,?_⟩;have:=JN (ks:=ks) (k:=x) hs;rw[J4];exact this
theorem tn{ks:List Str}{l:List ak}{x:Str}{p:ak}(aa:dictAt ks l x=some p):cA prog w getItem (.dict ks l) (.str x) p:=λW A s _ _ Q E r g _ n1 n4 h=>by
 refine iA n1 λa es k e aW aj kG hs=>?_;refine cB kG λar aA iQ=>?_;refine aP n4 λu aO=>?_;subst e aO;refine ah (vT (prog:=prog) (x:=x) aj ar aA hs) λf ab ae=>?_;rw[aa] at ae;refine ah ae λv aD bc=>?_;exact wpAny_getItem_of isKey ab aD (h _ _ bc (.tok s _) g)
theorem rK{ks:List Str}{l:List ak}{x:Str}{p:ak}(aa:dictAt ks l x=some p):cA prog w getItem (.eH ks l) (.str x) p:=λW A s _ _ Q E r g _ oh n6 h=>by
 refine iA oh λa es k e aW aj nI hs=>?_;refine cB nI λar aA iQ=>?_;refine aP n6 λu aO=>?_;subst e aO;refine ah (vT (prog:=prog) (x:=x) aj ar aA hs) λf ab ae=>?_;rw[aa] at ae;refine ah ae λv aD bc=>?_;exact wpAny_getItem_of isKey ab aD (h _ _ bc (.tok s _) g)
theorem J8{ks:List Str}{l:List ak}{x:Str} :Cl prog w n (.builtin "dict.get") [.dict ks l,.str x,q] ((dictAt ks l x).getD q):=λW A s _ Q E r g low uv h=>by
 refine bj uv λ_ _ ax nO uh=>?_;refine bj uh λ_ _ aC qP dq=>?_;refine bj dq λv _ a8 aq bX=>?_;refine iA nO λa es k e aW aj qE hs=>?_;refine cB qE λar aA iQ=>?_;refine aP qP λt aO=>?_;subst ax e aC aO a8;rw[show _=[] from bX];refine ah (vT (prog:=prog) (x:=x) aj ar aA hs) λf ab ae=>?_;refine wpAny_call (codeAny_call_builtin F.slot_dict_get.plain F.entry_dict_get (F.slot_dict_get.check _ _ _ _ _ _ _ _ ⟨_,aj,rfl⟩ (F.args_dict_get_3 _ _ _) (meets_dict_get_default (strKind prog w) a isKey iQ v A (wants Q E) s ⟨f,ab,?_⟩)));induction hd:dictAt ks l x with
 |some p=>
  rw[hd] at ae h;refine ah ae λu aD bc=>?_;rw[aD];exact h _ _ bc (.tok s _) g
 |none=>
  rw[hd] at ae h;rw[show f x=none from ae];exact h _ _ aq (.tok s _) g
theorem z6:Meth "dict" "get" "dict.get":=⟨F.plainAttrs_dict,F.slot_dict_get,F.type_dict_get⟩
theorem C5{a:Addr}{es:List DictEntry}{k:Nat}{ks:List Str}(ai:bK 0 A)(g:G w s.heap)
  (aj:s.heap.get? a=some {cls:= .type "dict",data:= .dict ⟨es⟩ k}) (ar:KeysAre w ks es) (aA:ks.Nodup) (iQ:(a==sysModules)=false) (A4:vl->¬W a)
  (h:∀(bh:Addr) (fp wr:List Addr) (P:Nat->Value->Prop) (T:Nat->Heap->Prop) (aL:Shared),Ext s aL->G w aL.heap->Walks prog w A bh fp wr (aB ks).length P T->T 0 aL.heap->(∀b∈wr,s.heap.get? b=none)->(∀b∈fp,(∃o,aL.heap.get? b=some o)/\¬cf b)->(∀i h,T i h->∀b∈wr,∃o,h.get? b=some o/\cx o)->(∀b∈fp,b∈wr\/((∃o,s.heap.get? b=some o)/\(vl->¬W b)))->
   (∀i u,P i u->∃q,(aB ks)[i]? =some q/\a6 w s.heap W q u)->Q (.ref bh) aL):wpAny (model prog w) A (pyIter (.ref a)) Q E s:=by
 have hd:=qi (prog:=prog) aj ar aA;have GN:=(yz (prog:=prog) ar).2.2;refine wpAny_pyIter_dict iQ hd ?_;have bY:a≠s.heap.objs.size:=Nat.ne_of_lt (lt_size aj);have aW:=Walks.dictKeys (prog:=prog) (w:=w) (knd:=strKind prog w) ai.calm s.heap.objs.size a bY (ks.zip (es.map (·.val))) k;have e:(ks.zip (es.map (·.val))).length=(aB ks).length:=by simp[aB,GN]
 rw[e] at aW;refine h _ _ _ _ _ _ (.push ..) (g.push _) aW ⟨?_,hd.push _⟩ (λb I=>?_) (λb I=>?_) (λi h bE b I=>?_) (λb I=>?_) λi u bD=>?_
 ·rw[<-e];exact⟨_,dc _ rfl,rfl,rfl⟩
 ·simp at I;subst I;exact er _
 ·simp at I;rcases I with rfl |rfl
  ·exact⟨⟨_,dc _ rfl⟩,g.fu (er _)⟩
  ·exact⟨⟨_,dV _ aj⟩,g.fY aj eG⟩
 ·simp at I;subst I;refine aE bE λzK _=>?_;refine dK zK λo ax aC _=>?_;exact⟨o,ax,.inl (by rw[aC];intro q;injection q with q;exact absurd q (by decide))⟩
 ·simp at I;rcases I with rfl |rfl
  ·exact .inl (by exact .head _)
  ·exact .inr ⟨⟨_,aj⟩,A4⟩
 ·refine dO bD λy v ab ae=>?_;refine aP (Value.isStrOf_shape ae) λt zY=>?_;subst zY;refine⟨.str y,?_,⟨t,rfl⟩⟩;have:(ks.zip (es.map (·.val)))[i]?.map (·.1)=some y:=by rw[ab];rfl
  rw[<-d7,map_fst_zip (by simp[GN])] at this;simp[aB,this]
theorem cw.dict{ks:List Str}{l:List ak}:cw prog w (.dict ks l) (aB ks):=λW A s v Q E ai g low ux h=>by
 refine iA ux λa es k e aW aj zO hs=>?_;refine cB zO λar aA iQ=>?_;subst e;exact C5 ai g aj ar aA iQ (λ_=>aW) h
theorem JA{bP cJ gy:Str}{ew gv kl:Int}{a1 a2 dF gI i1 te:Nat}(aA:[bP,cJ,gy].Nodup):
  Ev prog w n env m (.Dict [some (.Constant (.str bP) a1 bW),some (.Constant (.str cJ) a2 cc),some (.Constant (.str gy) dF fN)] [.Constant (.int ew) gI dy,.Constant (.int gv) i1 bN,.Constant (.int kl) te hq] pos) (.dict [bP,cJ,gy] [.int ew,.int gv,.int kl]):=by
 intro W A s Q E ai x h;have hg:s.heap.get? s.heap.objs.size=none:=er _;refine wpAny_Dict_walk (knd:=strKind prog w) rfl rfl (by exact nofun) (show(3:Nat)<=15 by decide) ?_;refine pairTrees_cons_walk (Calls.Constant_str (wpAny_Constant_int ?_));refine pairTrees_cons_walk (Calls.Constant_str (wpAny_Constant_int ?_));refine pairTrees_cons_walk (Calls.Constant_str (wpAny_Constant_int ?_));refine pairTrees_nil_walk (display_done_str (by simp only[allStrKeys]) (by simp only[strPairs];exact aA) (DictOf.new _) ?_);simp only[strPairs];intro h' hd hs;refine h8 (tN hd) λes k ab ae aD bc=>?_;have keep:∀b o,s.heap.get? b=some o->h'.get? b=some o:=λb o e=>hs.extBut b o (λq=>by rw[q,hg] at e;injection e) (dV _ e);refine h _ _ ?_ (.keeps keep) (x.g.keeps keep);refine⟨s.heap.objs.size,es,k,rfl,x.low.fresh,ab,⟨ae,aD,x.g.noSys (Nat.le_refl _)⟩,?_⟩;rw[bc];exact⟨_,_,rfl,⟨_,rfl⟩,_,_,rfl,⟨_,rfl⟩,_,_,rfl,⟨_,rfl⟩,rfl⟩
theorem H9{x y:Str}{p:ak}(ag:dm m x):dm ((x,p)::m) y->dm m y:=λh=>by
 by_cases e:y=x
 ·exact e▸ag
 ·unfold dm at h ⊢
  rwa [j4 e] at h
theorem b1.mut{J:Addr->Prop}{ad:Str->Addr}{x:Str}{p':ak}(F:b1 w s₀ env W₀ ad J m s)(ag:dm m x)(aa:oX p')(dD:dm ((x,p')::m) x)(hR:s.heap.get? (ad x)=some m9)(dv:∀vs,m9.data≠ .fields vs)(hs:SameBut (ad x) s.heap h')
  (aq:a6 w h' (bU W₀ env m ad J) p' (.ref (ad x))):b1 w s₀ env W₀ ad J ((x,p')::m) {s with heap:=h',toks:=tk}/\bC (b4 env m ad) (b4 env ((x,p')::m) ad) s {s with heap:=h',toks:=tk}:=by
 have hW:∀y,dm ((x,p')::m) y↔dm m y:=λy=>⟨H9 ag,λh=>by
  by_cases e:y=x
  ·exact e▸dD
  ·exact CW h e⟩
 have aW:∀b,bU W₀ env ((x,p')::m) ad J b↔bU W₀ env m ad J b:=λb=>by unfold bU;simp only[hW]
 have vt:∀b,b4 env ((x,p')::m) ad b↔b4 env m ad b:=λb=>by unfold b4;simp only[hW]
 have uC:bU W₀ env ((x,p')::m) ad J=bU W₀ env m ad J:=funext λb=>propext (aW b);have RA:bU W₀ env m ad J (ad x):= .inr (.inr (.inr (.inl ⟨x,ag,rfl⟩)));refine eK (F.own x ag) λ_ kg sE xl=>?_;have up:∀b o,b≠ad x->s.heap.get? b=some o->h'.get? b=some o:=λb o I e=>hs.extBut b o I e;have gh:G w h':=F.dJ.set F.st.g kg hR dv hs;have gi:∀b o,¬bU W₀ env m ad J b->o.cls≠ .none->s.heap.get? b=some o->h'.get? b=some o/\¬bU W₀ env m ad J b:=λb o I _ e=>⟨up b o (λq=>I (q▸RA)) e,I⟩
 have dr:∀y v,hb env s.heap y v->hb env h' y v:=λy v q=>by
  rcases q with⟨bP,cH,aA,aq⟩ |⟨bP,c,U,o,aj,hd⟩
  ·exact .inl ⟨bP,cH,aA.at' λo e=>up _ _ (Ne.symm sE) e,aq⟩
  ·exact .inr ⟨bP,c,U,o,up _ _ (Ne.symm (xl _ _ U)) aj,hd⟩
 have hex:∃o,h'.get? (ad x)=some o/\cx o:=by
  rcases dD with⟨l,q⟩ |⟨ks,l,q⟩
  ·rw[a5] at q;obtain rfl:=bT q;refine cg aq λa vs k e _ aj _=>?_;(injection e with bB;subst bB);exact⟨_,aj,.inr λvs q=>by injection q⟩
  ·rw[a5] at q;obtain rfl:=bT q;refine cg aq λa vs k e _ aj _=>?_;(injection e with bB;subst bB);exact⟨_,aj,.inr λvs q=>by injection q⟩
 refine cn F.same λh₁ sa jh=>?_;refine⟨⟨⟨h',tk,by rw[jh]⟩,λb o I e=>up b o (λq=>by subst q;rw[kg] at e;injection e) (F.keep b o I e),F.dJ,?_,λy z av hz=>F.inj y z ((hW y).mp av) ((hW z).mp hz),λy av=>⟨dr _ _ (F.own y ((hW y).mp av)).1,(F.own y ((hW y).mp av)).2⟩,λb I=>eK (F.ec b I) λab ae aD bc=>⟨ab,ae,aD,λy av=>bc y ((hW y).mp av)⟩,F.new,F.iB,F.apart,F.e8,?_,?_,λy q aG=>?_⟩,λb o I _ e=>⟨up b o (λq=>I (q▸ .inr (.inr ⟨x,ag,rfl⟩))) e,λq=>I ((vt b).mp q)⟩⟩
 ·refine⟨F.st.fn,F.st.gl,F.st.bi,gh,λb I=>?_,F.st.nl,F.st.cY,λy q aG=>?_⟩
  ·refine aE (F.st.low b ((aW b).mp I)) λaU o9=>?_;refine ah aU λo e cF=>?_;refine⟨?_,o9⟩;by_cases q:b=ad x
   ·exact q▸hex
   ·exact⟨o,up b o q e,cF⟩
  ·rw[uC];by_cases e:y=x
   ·subst e;rw[a5] at aG;obtain rfl:=bT aG;exact⟨_,dr _ _ (F.own y ag).1,aq⟩
   ·rw[j4 e] at aG;replace aG:=aG;refine ah (F.st.has y q aG) λu bD eS=>?_;refine⟨u,dr _ _ bD,?_⟩;have ek:=F.gT y q aG;have ne:∀av:dm m y,u= .ref (ad y)/\ad y≠ad x:=λav=>⟨bD.fun (F.own y av).1,λq=>e (F.inj y x av ag q)⟩
    cases q with
    |bw l=>
     refine cg eS λb vs n ax aC a8 bX=>?_;refine aE (ne (.inl ⟨l,aG⟩)) λei oo=>?_;rw[ax] at ei;(injection ei with bB;subst bB);exact⟨_,vs,n,ax,aC,up _ _ oo a8,bX.upd gi ek⟩
    |eH ks l=>
     refine iA eS λb vs n ax aC a8 bX d4=>?_;refine aE (ne (.inr ⟨ks,l,aG⟩)) λei oo=>?_;rw[ax] at ei;(injection ei with bB;subst bB);exact⟨_,vs,n,ax,aC,up _ _ oo a8,bX,d4.upd gi ek⟩
    |_=>exact eS.upd gi ek
 ·refine aP F.ns λcH aA=>?_;exact⟨cH,aA.at' λo e=>up _ _ (Ne.symm sE) e⟩
 ·intro nm c U;refine dO (F.cl nm c U) λv o aj hd=>?_;exact⟨v,o,up _ _ (Ne.symm (xl _ _ U)) aj,hd⟩
 ·by_cases e:y=x
  ·subst e;rw[a5] at aG;obtain rfl:=bT aG;exact aa
  ·rw[j4 e] at aG;exact F.gT y q aG
section
variable {prog:Program} {w:World} {n:Nat} {env:Env} {m:Loc} {Φ:dn->Loc->Prop}
theorem oL{x y:Str}{p:ak}(dD:dm ((x,p)::m) x):dm ((x,p)::m) y↔y=x\/dm m y:=by
 by_cases e:y=x
 ·subst e;exact⟨λ_=> .inl rfl,λ_=>dD⟩
 ·unfold dm;rw[j4 e];exact⟨.inr,λh=>h.resolve_left e⟩
theorem b1.fresh{J:Addr->Prop}{ad:Str->Addr}{x:Str}{p:ak}{Q:Unit->Shared->Prop}(F:b1 w s₀ env W₀ ad J m s)(az:Ext s au)(aF:G w au.heap)(gg:s.heap.get? D=none)(aq:∀W:Addr->Prop,W D->(∀b o,s.heap.get? b=some o->(W b↔bU W₀ env m ad J b))->a6 w au.heap W p (.ref D))(aa:oX p)(dD:dm [(x,p)] x)(ag:¬dm m x)(dv:∃o,au.heap.get? D=some o/\∀vs,o.data≠ .fields vs)
  (ar:env.kindOf x=some .local\/(env.kindOf x=some .cell/\(env.cells.lookup x).isSome=true)) (h:∀a3 s',b1 w s₀ env W₀ a3 J ((x,p)::m) s'->bC (b4 env m ad) (b4 env ((x,p)::m) a3) s s'->Q () s'):wpAny (model prog w) A (storeName env x (.ref D)) Q E au:=by
 refine ah dv λxx Rx Q0=>?_;have UE:¬cf D:=F.st.g.fu gg;have rx:b1 w s₀ env W₀ ad (λa=>J a\/a=D) m au:=F.nL az aF (λa af=> .inl af) λa af aN=>by
  rcases af with af |rfl
  ·exact absurd af aN
  ·exact⟨gg,⟨xx,Rx,.inr Q0⟩,UE⟩
 refine eK (rx.ec D (.inr rfl)) λUp Hr Hz UQ=>?_;have SD:¬J D:=λq=>by
  refine aE (F.st.low D (.dw q)) λaU _=>?_;refine ah aU λbZ aO cF=>?_;rw[gg] at aO;injection aO
 refine rx.ze (p:= .val (.ref D)) rfl trivial ar λs' aS keep=>?_
 let a3:Str->Addr:=λy=>if y=x then D else ad y
 have ia:dm ((x,p)::m) x:=by
  rcases dD with⟨l,q⟩ |⟨ks,l,q⟩
  ·rw[a5] at q;obtain rfl:=bT q;exact .inl ⟨l,a5⟩
  ·rw[a5] at q;obtain rfl:=bT q;exact .inr ⟨ks,l,a5⟩
 have pA:a3 x=D:=aQ rfl;have n9:∀y,y≠x->a3 y=ad y:=λy av=>aI av;have sm:∀y,dm ((x,ak.val (.ref D))::m) y↔dm m y:=λy=>by
  by_cases e:y=x
  ·subst e;exact⟨λq=>by rcases q with⟨l,q⟩ |⟨ks,l,q⟩<;>(rw[a5] at q;cases q),λq=>absurd q ag⟩
  ·unfold dm;rw[j4 e]
 have aW:∀b,bU W₀ env ((x,p)::m) a3 J b↔bU W₀ env ((x,ak.val (.ref D))::m) ad (λa=>J a\/a=D) b:=λb=>by
  constructor
  ·rintro(q |q |q |⟨y,av,q⟩ |q)
   ·exact .inl q
   ·exact .inr (.inl q)
   ·exact .inr (.inr (.inl q))
   ·by_cases e:y=x
    ·subst e;rw[pA] at q;exact .dw (.inr q.symm)
    ·rw[n9 y e] at q;exact .inr (.inr (.inr (.inl ⟨y,(sm y).mpr (((oL ia).mp av).resolve_left e),q⟩)))
   ·exact .dw (.inl q)
  ·rintro(q |q |q |⟨y,av,q⟩ |q |q)
   ·exact .inl q
   ·exact .inr (.inl q)
   ·exact .inr (.inr (.inl q))
   ·have av:=(sm y).mp av;have e:y≠x:=λe=>ag (e▸av);exact .inr (.inr (.inr (.inl ⟨y,(oL ia).mpr (.inr av),by rw[n9 y e];exact q⟩)))
   ·exact .dw q
   ·exact .inr (.inr (.inr (.inl ⟨x,ia,by rw[pA];exact q.symm⟩)))
 have uC:bU W₀ env ((x,p)::m) a3 J=bU W₀ env ((x,ak.val (.ref D))::m) ad (λa=>J a\/a=D):=funext λb=>propext (aW b);have Ha:∀o,au.heap.get? D=some o->s'.heap.get? D=some o:=λo e=>keep D o Hr (λnm c U=>Hz nm c U) e;have F3:hb env s'.heap x (.ref D):=by
  refine ah (aS.st.has x _ a5) λv ab ae=>?_;rw[show v= .ref D from ae] at ab;exact ab
 have SH:∀b o,s.heap.get? b=some o->(bU W₀ env ((x,p)::m) a3 J b↔bU W₀ env m ad J b):=λb o e=>by
  rw[aW];constructor
  ·rintro(q |q |q |⟨y,av,q⟩ |q |q)
   ·exact .inl q
   ·exact .inr (.inl q)
   ·exact .inr (.inr (.inl q))
   ·exact .inr (.inr (.inr (.inl ⟨y,(sm y).mp av,q⟩)))
   ·exact .dw q
   ·rw[q,gg] at e;injection e
  ·rintro(q |q |q |⟨y,av,q⟩ |q)
   ·exact .inl q
   ·exact .inr (.inl q)
   ·exact .inr (.inr (.inl q))
   ·exact .inr (.inr (.inr (.inl ⟨y,(sm y).mpr av,q⟩)))
   ·exact .dw (.inl q)
 have kF:∀b,¬bU W₀ env ((x,p)::m) a3 J b->b≠env.locals/\∀nm c,env.cells.lookup nm=some c->b≠c:=λb I=>⟨λq=>I (.inr (.inl q)),λnm c U q=>I (.inr (.inr (.inl ⟨nm,q▸U⟩)))⟩
 have S1:bU W₀ env ((x,p)::m) a3 J D:= .inr (.inr (.inr (.inl ⟨x,ia,pA⟩)));have gi:∀b o,¬bU W₀ env ((x,p)::m) a3 J b->o.cls≠ .none->au.heap.get? b=some o->s'.heap.get? b=some o/\¬bU W₀ env ((x,p)::m) a3 J b:=λb o I _ e=>⟨keep b o (kF b I).1 (kF b I).2 e,I⟩
 have jT:a6 w s'.heap (bU W₀ env ((x,p)::m) a3 J) p (.ref D):=by
  have h0:=aq _ S1 SH;rcases dD with⟨l,q⟩ |⟨ks,l,q⟩
  ·rw[a5] at q;obtain rfl:=bT q;refine cg h0 λa vs k e ll aj hs=>?_
   (injection e with bB;subst bB)
   exact⟨_,vs,k,rfl,ll,Ha _ aj,hs.upd gi aa⟩
  ·rw[a5] at q;obtain rfl:=bT q;refine iA h0 λa vs k e ll aj cj hs=>?_
   (injection e with bB;subst bB)
   exact⟨_,vs,k,rfl,ll,Ha _ aj,cj,hs.upd gi aa⟩
 have dY:b1 w s₀ env W₀ a3 J ((x,p)::m) s':=by
  refine⟨aS.same,aS.keep,aS.dJ,⟨aS.st.fn,aS.st.gl,aS.st.bi,aS.st.g,λb I=>aS.st.low b ((aW b).mp I),aS.st.nl,aS.st.cY,λy q aG=>?_⟩,λy z av hz e=>?_,λy av=>?_,λb I=>?_,aS.new,aS.iB,aS.apart,aS.e8,aS.ns,aS.cl,λy q aG=>?_⟩
  ·by_cases e:y=x
   ·subst e;rw[a5] at aG;obtain rfl:=bT aG;exact⟨_,F3,jT⟩
   ·rw[j4 e] at aG;rw[uC];exact aS.st.has y q (by rw[j4 e];exact aG)
  ·have xx:∀u,dm m u->ad u≠D:=λu bD=>UQ u bD;rcases(oL ia).mp av with rfl |hC
   ·rcases(oL ia).mp hz with rfl |eD
    ·rfl
    ·by_cases aO:z=y
     ·exact aO.symm
     ·rw[pA,n9 z aO] at e;exact absurd e.symm (xx z eD)
   ·rcases(oL ia).mp hz with rfl |eD
    ·by_cases aO:y=z
     ·exact aO
     ·rw[pA,n9 y aO] at e;exact absurd e (xx y hC)
    ·have rz:y≠x:=λq=>ag (q▸hC);have m8:z≠x:=λq=>ag (q▸eD);rw[n9 y rz,n9 z m8] at e;exact F.inj y z hC eD e
  ·by_cases e:y=x
   ·subst e;rw[pA];exact⟨F3,Up,Hr,Hz⟩
   ·have hC:=((oL ia).mp av).resolve_left e;rw[n9 y e];exact aS.own y ((sm y).mpr hC)
  ·refine eK (aS.ec b (.inl I)) λab ae aD bc=>?_;refine⟨ab,ae,aD,λy av q=>?_⟩;by_cases e:y=x
   ·subst e;rw[pA] at q;exact SD (q▸I)
   ·rw[n9 y e] at q;exact bc y ((sm y).mpr (((oL ia).mp av).resolve_left e)) q
  ·by_cases e:y=x
   ·subst e;rw[a5] at aG;obtain rfl:=bT aG;exact aa
   ·rw[j4 e] at aG;exact F.gT y q aG
 refine h a3 s' dY λb o I aM e=>⟨keep b o (λq=>I (.inl q)) (λnm c U q=>I (.inr (.inl ⟨nm,q▸U⟩))) (az.keep b o aM e),λq=>?_⟩
 rcases q with q |q |⟨y,av,q⟩
 ·exact I (.inl q)
 ·exact I (.inr (.inl q))
 ·by_cases aO:y=x
  ·subst aO;rw[pA] at q;rw[<-q,gg] at e;injection e
  ·rw[n9 y aO] at q;exact I (.inr (.inr ⟨y,((oL ia).mp av).resolve_left aO,q⟩))
theorem tj{x:Str}(ar:env.kindOf x=some .local\/(env.kindOf x=some .cell/\(env.cells.lookup x).isSome=true))(ag:m.lookup x=none)(h:Φ .next ((x,.bw [])::m))
  (hs:swapsWith (.List [] pU) (some (.Name x px)) pos.line env=pure false):df prog w n env m (.Assign [.Name x px] (.List [] pU) pos) Φ:=λs₀ W₀ J ad A s E ai F=>by
 refine wpAny_Assign_Name ?_ hs;refine PyProof.Rows.List_ (Calls.spliced_nil ?_);refine wpAny_newObj_type ?_ (by show(0:Nat)<=_;exact c0 _);refine F.fresh (D:=s.heap.objs.size) (p:= .bw []) (.push ..) (F.st.g.push _) (er _) (λW aW _=>⟨_,[],0,rfl,aW,dc _ rfl,rfl⟩) trivial (.inl ⟨[],a5⟩) (λq=>by rcases q with⟨l,q⟩ |⟨ks,l,q⟩<;>(rw[ag] at q;injection q)) ⟨_,dc _ rfl,λvs q=>by injection q⟩ ar λa3 s' aS k=>⟨a3,_,aS,k,h⟩
theorem yg{x:Str}(ar:env.kindOf x=some .local\/(env.kindOf x=some .cell/\(env.cells.lookup x).isSome=true))(ag:m.lookup x=none)(h:Φ .next ((x,.eH [] [])::m))
  (hs:swapsWith (.Dict [] [] pU) (some (.Name x px)) pos.line env=pure false):df prog w n env m (.Assign [.Name x px] (.Dict [] [] pU) pos) Φ:=λs₀ W₀ J ad A s E ai F=>by
 refine wpAny_Assign_Name (wpAny_Dict_empty ?_) hs;refine F.fresh (D:=s.heap.objs.size) (p:= .eH [] []) (.push ..) (F.st.g.push _) (er _) (λW aW _=>⟨_,[],0,rfl,aW,dc _ rfl,⟨rfl,nodup_nil,F.st.g.noSys (Nat.le_refl _)⟩,rfl⟩) trivial (.inr ⟨[],[],a5⟩) (λq=>by rcases q with⟨l,q⟩ |⟨ks,l,q⟩<;>(rw[ag] at q;injection q)) ⟨_,dc _ rfl,λvs q=>by injection q⟩ ar λa3 s' aS k=>⟨a3,_,aS,k,h⟩
end
section
variable {prog:Program} {w:World} {n:Nat} {env:Env} {m:Loc} {Φ:dn->Loc->Prop}
theorem Cr{id:String}{first:List Value}(ai:bK n A)(x:St w env W m s.heap)
  (af:aK prog w n env m pos es ps) (cv:(starEach es env).any (·.1)=false)
  (h:∀vs au,bJ w au.heap W ps vs->Ext s au->G w au.heap->wpAny (model prog w) A (call (.builtin id) (first++vs)) Q E au):wpAny (model prog w) A (callWith pos (.builtin id) first (backTo pos (starEach es env)) []) Q E s:=by
 have I:=ja (pos:=pos) cv;exact Calls.callWith_builtin (j5 I) (g8 I (af W A s _ E ai x λvs au bb az aF=>h vs au bb az aF))
def iE(prog:Program)(w:World)(id:String)(q:ak)(ps:List ak)(p':ak):Prop:=
 ∀(W:Addr->Prop) (A:Around) (s:Shared) (a:Addr) (vs:List Value) (Q:Value->Shared->Prop) (E:Value->Shared->Prop),bK 0 A->G w s.heap->oX q->dA ps->a6 w s.heap W q (.ref a)->bJ w s.heap W ps vs->
  (∀u h' tk,SameBut a s.heap h'->a6 w h' W p' (.ref a)->Q u {s with heap:=h',toks:=tk})->wpAny (model prog w) A (call (.builtin id) (.ref a::vs)) Q E s
def ki(q:ak):Prop:=(∃l,q= .bw l)\/∃ks l,q= .eH ks l
theorem ki.owned{x:Str}(aG:ki q)(ag:m.lookup x=some q):dm m x:=by
 rcases aG with⟨l,rfl⟩ |⟨ks,l,rfl⟩
 ·exact .inl ⟨l,ag⟩
 ·exact .inr ⟨ks,l,ag⟩
theorem ki.data{a:Addr}(aG:ki q)(aq:a6 w h W q (.ref a)):∃o,h.get? a=some o/\∀vs,o.data≠ .fields vs:=by
 rcases aG with⟨l,rfl⟩ |⟨ks,l,rfl⟩
 ·refine cg aq λnh vs k e _ aj _=>?_;(injection e with bB;subst bB);exact⟨_,aj,λvs q=>by injection q⟩
 ·refine cg aq λnh vs k e _ aj _=>?_;(injection e with bB;subst bB);exact⟨_,aj,λvs q=>by injection q⟩
theorem b1.nB{J:Addr->Prop}{ad:Str->Addr}{x:Str}(F:b1 w s₀ env W₀ ad J m s)(ag:m.lookup x=some q)(aG:ki q):a6 w s.heap (bU W₀ env m ad J) q (.ref (ad x)):=by
 refine ah (F.st.has x q ag) λu bD eS=>?_;rw[bD.fun (F.own x (aG.owned ag)).1] at eS;exact eS
theorem x8{x:Str}{name:Str}{T id:String}{p':ak}(mt:Meth T name id)(ag:m.lookup x=some q)(aG:ki q)(bE:Typed w q T)(af:aK prog w n env m pos es ps)(iW:dA ps)(fS:oX p')(pj:ki p')(U:iE prog w id q ps p')
  (h:Φ .next ((x,p')::m)) (cv:(starEach es env).any (·.1)=false) (hd:(x==("__debug__":Str))=false)
  (gS:attributeBase (.Name x px) name env (eval (.Name x px) env)=eval (.Name x px) env)
  (iS:((backTo pos (starEach es env)).all (λx=> !x.1)&&(backToKw pos (keywordEach [] env)).all (λx=>x.1.isSome)&&decide (es.length+([]:List Keyword).length+(if([]:List Keyword).isEmpty then 0 else 1) < 30))=true)
  (gA:(apos.endLine==pos.line)=true) (hi:interactive env=false) (hs:swapsWith (.Call (.Attribute (.Name x px) name apos) es [] pos) none fQ.line env=pure false):
  df prog w n env m (.Expr (.Call (.Attribute (.Name x px) name apos) es [] pos) fQ) Φ:=λs₀ W₀ J ad A s E ai F=>by
 refine wpAny_Expr_any ?_ hi hs;have ia:=aG.owned ag;refine wpAny_Call_method gS iS gA mt.ho mt.slot mt.ty (wpAny_Name ((F.own x ia).1.load F.st.fn ?_) hd);refine aE (bE _ s _ F.st.g (F.nB ag aG)) λab ae=>?_;refine⟨ab,ae,?_⟩;refine Cr ai F.st af cv λvs aL bb aR aY=>?_;have bp:=F.ext aR aY;refine U _ A aL (ad x) vs _ E (ai.le (c0 _)) aY (F.gT x q ag) iW (bp.nB ag aG) bb λu h' tk bL jT=>?_;refine ah (aG.data (bp.nB ag aG)) λm9 hR dv=>?_;refine aE (bp.mut (tk:=tk) ia fS (pj.owned a5) hR dv bL jT) λdu fZ=>?_;exact⟨ad,_,du,(bC.ext aR).trans fZ,h⟩
theorem bJ.same{a:Addr}{l:List ak}(x:bJ w h W l vs)(hf:dA l)(aW:W a)(hs:SameBut a h h'):bJ w h' W l vs:=x.upd (λb o I _ e=>⟨hs.extBut b o (λq=>I (q▸aW)) e,I⟩) hf
theorem a6.same{a:Addr}{p:ak}{v:Value}(x:a6 w h W p v)(hf:cb p)(aW:W a)(hs:SameBut a h h'):a6 w h' W p v:=x.upd (λb o I _ e=>⟨hs.extBut b o (λq=>I (q▸aW)) e,I⟩) hf
theorem C4(f:Array Value->Array Value)(c:Value)(xs:Array Value)(k:Nat):∃cJ,Obj.mapSeq f {cls:=c,data:= .seq xs k}={cls:=c,data:= .seq (f xs) cJ}:=⟨_,rfl⟩
theorem iE.append{l:List ak}{p:ak}(hz:l.length<=sizeLine):iE prog w "list.append" (.bw l) [p] (.bw (l++[p])):=λW A s a vs Q E r g pH dP fm hH h=>by
 refine cg fm λnh us k e aW aj hs=>?_;refine bj hH λv _ ax aq aC=>?_
 (injection e with bB;subst bB)
 subst ax;rw[show _=[] from aC];refine call_meets F.slot_list_append ⟨_,aj,rfl⟩ F.entry_list_append (F.args_list_append_2 _ _) (list_append a ⟨us⟩ k v (by show us.length<=_;rw[<-hs.len];exact hz)) ⟨aj,?_⟩;have bL:SameBut a s.heap (s.heap.update a (Obj.mapSeq λx=>x.push v)):= .update ..;refine h _ _ _ bL ⟨a,us++[v],k+1,rfl,aW,?_,(hs.same pH aW bL).app (.one (aq.same dP.1 aW bL))⟩;rw[get?_update_self _ aj rfl];simp[Obj.mapSeq]
theorem IH{l:List ak}(hz:l.length+l'.length<=sizeLine):iE prog w "list.extend" (.bw l) [.list l'] (.bw (l++l')):=λW A s a vs Q E r g pH dP jW l5 h=>by
 refine cg jW λnh us k e aW aj hs=>?_;refine bj l5 λ_ _ ax aU aC=>?_;refine cg aU λb jR k' aO pf cS eC=>?_
 (injection e with bB;subst bB)
 subst ax aO;rw[show _=[] from aC];have eD:us.length+jR.length<=sizeLine:=by rw[<-hs.len, <-eC.len];exact hz
 refine call_meets F.slot_list_extend ⟨_,aj,rfl⟩ F.entry_list_extend (F.args_list_extend_2 _ _) (AutoSeq1.list_extend_list_list_0 a ⟨us⟩ k b ⟨jR⟩ k' ?_ (by show us.length<=_;walk_at"o") (by show us.length+jR.length<=_;exact bH ‹_› rfl)) ⟨aj,cS,?_⟩
 ·have:Builtin.List.listTooLong ((⟨us⟩:Array Value).size+(⟨jR⟩:Array Value).size)=false:=by
   show Builtin.List.listTooLong (us.length+jR.length)=false;unfold Builtin.List.listTooLong;have:sizeLine=2 ^ 24:=rfl;walk_at"o"
  rw[this];walk_at"o"
 ·have bL:SameBut a s.heap (s.heap.update a (Obj.mapSeq λx=>x++⟨jR⟩)):= .update ..;have e:(⟨us⟩:Array Value)++⟨jR⟩=⟨us++jR⟩:=by simp
  refine aP (C4 (λx=>x++(⟨jR⟩:Array Value)) (.type "list") ⟨us⟩ k) λcJ pl=>?_;have qX:Obj.mapSeq (λx=>x++(⟨jR⟩:Array Value)) {cls:= .type "list",data:= .seq ⟨us⟩ k}={cls:= .type "list",data:= .seq ⟨us++jR⟩ cJ}:=by rw[pl];exact congrArg (λz=>({cls:= .type "list",data:= .seq z cJ}:Obj)) e
  exact h _ _ _ bL ⟨a,us++jR,cJ,rfl,aW,(get?_update_self _ aj rfl).trans (congrArg some qX),(hs.same pH aW bL).app (eC.same dP.1 aW bL)⟩
theorem k4:Meth "list" "append" "list.append":=⟨F.plainAttrs_list,F.slot_list_append,F.type_list_append⟩
theorem wd:Meth "list" "extend" "list.extend":=⟨F.plainAttrs_list,F.slot_list_extend,F.type_list_extend⟩
theorem Im{x:Str}{ks:List Str}{l:List ak}(ag:m.lookup x=some (.eH ks l))(hd:(x==("__debug__":Str))=false)(h:Φ (.ret (.dict ks l)) []):df prog w n env m (.Return (some (.Name x px)) pos) Φ:=λs₀ W₀ J ad A s E ai F=>by
 have aG:ki (.eH ks l):= .inr ⟨ks,l,rfl⟩;refine wpAny_Return_some (wpAny_Name ((F.own x (aG.owned ag)).1.load F.st.fn ?_) hd);refine iA (F.nB ag aG) λa us k e aW aj ar hs=>?_
 (injection e with bB;subst bB)
 refine⟨.dict ks l,⟨ad x,us,k,rfl,λq=>?_,aj,ar,hs.upd (λb o I _ e=>⟨e,λq=>I (.inl q)⟩) (F.gT x _ ag)⟩,F.gT x _ ag,F.r8,F.st.g,h⟩;refine aE (F.e8 _ q) λbk _=>?_;refine ah bk λo e cF=>?_;rw[(F.own x (aG.owned ag)).2.1] at e;injection e
end
noncomputable def ea{α:Type}(kv:List (Str×α))(x:Str)(p:α):List (Str×α):=if kv.any (λz=>z.1=x) then kv.map (λz=>if z.1=x then(z.1,p) else z) else kv++[(x,p)]
noncomputable abbrev iC(kv:List (Str×ak)):ak:= .eH (kv.map (·.1)) (kv.map (·.2))
noncomputable abbrev rB(kv:List (Str×ak)):ak:= .dict (kv.map (·.1)) (kv.map (·.2))
inductive gw (w:World) (h:Heap) (W:Addr->Prop):List (Str×ak)->List (Str×Value)->Prop
 |nil:gw w h W [] []
 |cons {x:Str} {p:ak} {v:Value} {kv:List (Str×ak)} {kvs:List (Str×Value)}:a6 w h W p v->gw w h W kv kvs->gw w h W ((x,p)::kv) ((x,v)::kvs)
section
variable {prog:Program} {w:World} {n:Nat} {env:Env} {m:Loc} {Φ:dn->Loc->Prop}
theorem gw.of:∀{kv:List (Str×ak)} {vs:List Value},bJ w h W (kv.map (·.2)) vs->gw w h W kv ((kv.map (·.1)).zip vs):=by
 intro a9;induction a9 with
 |nil=>
  intro _ x;rw[show _=[] from x];exact .nil
 |cons hJ r aw=>
  obtain⟨k,p⟩:=hJ;intro _ ra;obtain⟨v,vs,e,x,y⟩:=ra;subst e;exact .cons x (aw y)
theorem gw.vals{kv:List (Str×ak)}(x:gw w h W kv kvs):kvs.map (·.1)=kv.map (·.1)/\bJ w h W (kv.map (·.2)) (kvs.map (·.2)):=by
 induction x with
 |nil=>exact⟨rfl,rfl⟩
 |cons aq _ aw=>exact⟨by simp[aw.1],_,_,rfl,aq,aw.2⟩
theorem gw.upd{kv:List (Str×ak)}(x:gw w h W kv kvs)(k:∀b o,¬W b->o.cls≠ .none->h.get? b=some o->h'.get? b=some o/\¬W' b)(hf:dA (kv.map (·.2))):gw w h' W' kv kvs:=by
 induction x with
 |nil=>exact .nil
 |cons aq _ aw=>exact .cons (aq.upd k hf.1) (aw hf.2)
theorem gw.any{kv:List (Str×ak)}(x:gw w h W kv kvs)(y:Str):(kvs.any λz=>z.1=y)=kv.any λz=>z.1=y:=by
 induction x with
 |nil=>rfl
 |cons aq _ aw=>simp only[any_cons,aw]
theorem gw.NS{kv:List (Str×ak)}(x:gw w h W kv kvs){y:Str}{p:ak}{v:Value}(aq:a6 w h W p v):gw w h W (kv.map λz=>if z.1=y then(z.1,p) else z) (kvs.map λz=>if z.1=y then(z.1,v) else z):=by
 induction x with
 |nil=>exact .nil
 |@cons z q u kv kvs aG _ aw=>
  simp only[map_cons];by_cases e:z=y
  ·rw[aQ e,aQ e];exact .cons aq aw
  ·rw[aI e,aI e];exact .cons aG aw
theorem gw.push{kv:List (Str×ak)}(x:gw w h W kv kvs){y:Str}{p:ak}{v:Value}(aq:a6 w h W p v):gw w h W (kv++[(y,p)]) (kvs++[(y,v)]):=by
 induction x with
 |nil=>exact .cons aq .nil
 |cons aG _ aw=>exact .cons aG aw
theorem gw.put{kv:List (Str×ak)}(x:gw w h W kv kvs){y:Str}{p:ak}{v:Value}(aq:a6 w h W p v):gw w h W (ea kv y p) (stored kvs y v):=by
 unfold ea stored;rw[x.any y];split
 ·exact x.NS aq
 ·exact x.push aq
theorem Ck{kv:List (Str×ak)}{x:Str}:dictAt (kv.map (·.1)) (kv.map (·.2)) x=kv.lookup x:=by
 unfold dictAt;congr 1;induction kv with
 |nil=>rfl
 |cons z r aw=>simp[aw]
theorem Ls{kv:List (Str×ak)}{x:Str}{p:ak}(h:dA (kv.map (·.2)))(aa:cb p):dA ((ea kv x p).map (·.2)):=j9 λq aG=>by
 refine ah (bA.mp aG) λz hz aU=>?_;subst aU;unfold ea at hz;split at hz
 ·refine ah (bA.mp hz) λeN eD a7=>?_;subst a7;split
  ·exact aa
  ·exact nt h (fO eD)
 ·rcases List.mem_append.mp hz with hz |hz
  ·exact nt h (fO hz)
  ·rw[cQ.mp hz];exact aa
theorem yh{x:Str}{e:Expr}{kv:List (Str×ak)}{y:Str}{p:ak}(ag:m.lookup x=some (iC kv))(hd:(x==("__debug__":Str))=false)(he:Ev prog w n env m e p)(rl:Ev prog w n env m me (.str y))(aa:cb p)(hz:kv.length<=sizeLine)
  (h:Φ .next ((x,iC (ea kv y p))::m)) (hs:swapsWith e (some (.Subscript (.Name x px) me fQ)) pos.line env=pure false):df prog w n env m (.Assign [.Subscript (.Name x px) me fQ] e pos) Φ:=λs₀ W₀ J ad A s E ai F=>by
 have aG:ki (iC kv):= .inr ⟨_,_,rfl⟩;have ia:=aG.owned ag;refine wpAny_Assign_Subscript (he _ A s _ E ai F.st λv au aq az aF=>?_) hs;have aX:=F.ext az aF;refine wpAny_Name ((aX.own x ia).1.load aX.st.fn ?_) hd;refine rl _ A au _ E ai aX.st λq0 aL ar aR aY=>?_;refine aP ar λt bk=>?_;subst bk;have bp:=aX.ext aR aY;have zB:=aq.ext aF aR;refine iA (bp.nB ag aG) λa es k aO aW aj bz bb=>?_;refine cB bz λmT pl qX=>?_
 (injection aO with bB;subst bB)
 have hlen:((kv.map (·.1)).zip (es.map (·.val))).length<=sizeLine:=by
  rw[length_zip];refine Nat.le_trans (Nat.min_le_left _ _) ?_;simpa using hz
 refine wpAny_setItem_pairs (knd:=strKind prog w) (k:=y) isKey (qi aj mT pl).dictOf (λh' hD bL=>?_) hlen;refine h8 (tN hD) λjx k' ab ae aD bc=>?_;have hf:=F.gT x _ ag;have pf:∀b o,¬bU W₀ env m ad J b->o.cls≠ .none->aL.heap.get? b=some o->h'.get? b=some o/\¬bU W₀ env m ad J b:=λb o I _ e=>⟨bL.extBut b o (λq=>I (q▸aW)) e,I⟩
 have x1:=((gw.of bb).upd pf hf).put (y:=y) (zB.upd pf aa);refine aE x1.vals λa1 a2=>?_;refine aE (bp.mut (p':=iC (ea kv y p)) (tk:=aL.toks+1) ia (show dA _ from Ls hf aa) (.inr ⟨_,_,a5⟩) aj (λvs q=>by injection q) bL ⟨_,jx,k',rfl,aW,ab,⟨a1▸ae,a1▸aD,qX⟩,by rw[bc];exact a2⟩) λdu fZ=>?_;exact⟨ad,_,du,(bC.ext (az.trans aR)).trans fZ,h⟩
end
variable {key:Value}
section
variable {prog:Program} {w:World} {n:Nat} {env:Env} {m:Loc} {Φ:dn->Loc->Prop}
theorem HR{d:Addr}{k:Str}{dflt:Value}(qQ:(strKind prog w).is k key=true)(hm:s.heap.DictOf (strKind prog w) d kvs)
  (Nw:(kvs.any λkv=>decide (kv.1=k))=true->∀v,Q v {s with toks:=s.toks+1})
  (kg:(kvs.any λkv=>decide (kv.1=k))=false->∀h',h'.DictOf (strKind prog w) d (kvs++[(k,dflt)])->SameBut d s.heap h'->Q dflt {s with heap:=h',toks:=s.toks+1})
  (hg:kvs.length<=sizeLine):wpAny (model prog w) A (dictSetDefault d key dflt) Q E s:=by
 refine FG hm λo es ep aj U hd ar aa aA=>?_;have TO:es.size<=sizeLine:=by
  have ax:=aa.length;have aC:es.toList.length=es.size:=by exact rfl
  walk_at"o"
 unfold dictSetDefault
 try with_reducible refine wpAny_holding ?_
 refine aH ((strKind prog w).pyHash qQ ?_);refine aH (wpAny_dictFind_of (s:={s with toks:=s.toks+1}) qQ aj hd ar ?_);have uj:(es.findIdx? λe=>(strKind prog w).is k e.key)=kvs.findIdx? λkv=>decide (kv.1=k):=by
  rw[<-aa.findIdx k];obtain⟨l⟩:=es;simp
 induction hi:es.findIdx? λe=>(strKind prog w).is k e.key with
 |some i=>
  refine aH (wpAny_dictEntries (s:={s with toks:=s.toks+1}) aj hd ?_);induction he:es[i]? with
  |none=>
   exfalso;have:=Array.findIdx?_eq_some_iff_findIdx_eq.mp hi;have cu:i < es.size:=this.1;rw[Array.getElem?_eq_getElem cu] at he;exact nomatch he
  |some e=>exact aH (wpAny_rule (bu (Nw (any_of_findIdx_some (uj▸hi)) e.val)))
 |none=>
  have FD:k∉kvs.map (·.1):=not_mem_of_findIdx_none (uj▸hi);have wH:(kvs.any λkv=>decide (kv.1=k))=false:=by
   rw[List.any_eq_false];intro kv fK he;exact FD (bA.mpr ⟨kv,fK,ee he⟩)
  refine aH (wpAny_rule (aH (wpAny_updateDictKeys (hz:=TO) (s:={s with toks:=s.toks+1}) aj hd (bu (kg wH _ ⟨_,_,ep+1,get?_update_self _ aj (Obj.isFreed_of_dict (Obj.data_mapDictKeys hd _)),
   U.mapDictKeys _,Obj.data_mapDictKeys hd _,ar.push qQ _,?_,?_⟩ (SameBut.update ..))))))
  ·have:=aa.append qQ ((strKind prog w).hash k) dflt;obtain⟨l⟩:=es;simpa using this
  ·rw[map_append,nodup_append];refine⟨aA,by simp,?_⟩;intro a af b I;simp only[map_cons,map_nil,mem_singleton] at I;subst I;exact λe=>FD (e▸af)
theorem HS{k:Str}(d:Addr)(qQ:(strKind prog w).is k key=true)(hd:(d==sysModules)=false)(dflt:Value):
  MeetsIn prog w (Builtin.«dict.setdefault» ⟨[.ref d,key,dflt],[]⟩) (λ_ R s=>∃kvs,s.heap.DictOf (strKind prog w) d kvs/\kvs.length<=sizeLine/\
   ((kvs.any λkv=>decide (kv.1=k))=true->∀v,R (.ok (.ret v)) {s with toks:=s.toks+1})/\
   ((kvs.any λkv=>decide (kv.1=k))=false->∀h',h'.DictOf (strKind prog w) d (kvs++[(k,dflt)])->SameBut d s.heap h'->R (.ok (.ret dflt)) {s with heap:=h',toks:=s.toks+1})):=
 .of_wp λA R s fm=>by
  refine h7 fm λkvs hm hz ab ae=>?_;unfold Builtin.«dict.setdefault»;refine aH ?_;unfold Builtin.Dict.keyAndDefault;refine aH (wpAny_notOrdered_dict hm.typeIs ?_);show wpAny _ _ (pure (d,key,some dflt)) _ _ s;refine bu ?_;show wpAny _ _ (if(d==sysModules)=true then _ else(dictSetDefault d key dflt >>=_)) _ _ s;rw[aI (by rw[hd];exact Bool.false_ne_true)];exact aH (HR qQ hm (λaq v=>bu ⟨v,rfl,ab aq v⟩) (λaA h' n8 eC=>bu ⟨dflt,rfl,ae aA h' n8 eC⟩) hz)
noncomputable def iO{α:Type}(kv:List (Str×α))(x:Str)(p:α):List (Str×α):=if kv.any (λz=>z.1=x) then kv else kv++[(x,p)]
theorem HU{kv:List (Str×ak)}{y:Str}{p:ak}(hz:kv.length<=sizeLine):iE prog w "dict.setdefault" (iC kv) [.str y,p] (iC (iO kv y p)):=λW A s a vs Q E r g pH dP hH jW h=>by
 refine iA hH λnh es k e aW aj a7 hs=>?_;refine cB a7 λmT pl qX=>?_;refine bj jW λ_ _ ax bk bz=>?_;refine bj bz λv _ aC aq a8=>?_;refine aP bk λt dN=>?_
 (injection e with bB;subst bB)
 subst ax dN aC;rw[show _=[] from a8];have hlen:((kv.map (·.1)).zip (es.map (·.val))).length<=sizeLine:=by
  rw[length_zip];refine Nat.le_trans (Nat.min_le_left _ _) ?_;simpa using hz
 have x1:=gw.of hs;have wH:=x1.any y;refine wpAny_call (codeAny_call_builtin F.slot_dict_setdefault.plain F.entry_dict_setdefault (F.slot_dict_setdefault.check _ _ _ _ _ _ _ _ ⟨_,aj,rfl⟩ (F.args_dict_setdefault_3 _ _ _) (HS a isKey qX v A (wants Q E) s ⟨_,(qi (prog:=prog) aj mT pl).dictOf,hlen,λaf u=>?_,λaf h' hD bL=>?_⟩)))
 ·rw[wH] at af;refine h u s.heap _ (.refl _ _) ?_;unfold iO;rw[aQ af];exact⟨a,es,k,rfl,aW,aj,⟨mT,pl,qX⟩,hs⟩
 ·rw[wH] at af;refine h _ h' _ bL ?_;unfold iO;rw[aI (by rw[af];decide)];refine h8 (tN hD) λjx k' ab ae aD bc=>?_;have pf:∀b o,¬W b->o.cls≠ .none->s.heap.get? b=some o->h'.get? b=some o/\¬W b:=λb o I _ e=>⟨bL.extBut b o (λq=>I (q▸aW)) e,I⟩
  refine aE (((x1.upd pf pH).push (y:=y) (aq.upd pf dP.2.1)).vals) λa1 a2=>?_;exact⟨_,jx,k',rfl,aW,ab,⟨a1▸ae,a1▸aD,qX⟩,by rw[bc];exact a2⟩
theorem I3:Meth "dict" "setdefault" "dict.setdefault":=⟨F.plainAttrs_dict,F.slot_dict_setdefault,F.type_dict_setdefault⟩
end
structure xR (prog:Program) (w:World) (A:Around) (bh:Addr) (fp wr:List Addr) (n:Nat) (P:Nat->Value->Value->Prop) (T:Nat->Heap->Prop):Prop where
 sub:∀b∈wr,b∈fp
 frame:∀i h h',T i h->(∀b∈fp,∀o,h.get? b=some o->h'.get? b=some o)->T i h'
 item:∀i (s:Shared) (elts:List Expr) (k:Nat) (pos:Pos) (Q:Value->Shared->Prop) (E:Value->Shared->Prop),i < n->T i s.heap->
  (∀t x y h' tk,P i x y->h'.IsTuple t #[x,y]->T (i+1) h'->(∀b o,b∉wr->s.heap.get? b=some o->h'.get? b=some o)->Q (.ref t) {s with heap:=h',toks:=tk})->
  wpAny (model prog w) A (pyNext (.ref bh)) (λr au=>∃v,r=some v/\wpAny (model prog w) A (letOwnedTupleGo (.Tuple elts k pos) (.ref bh) v) (λ_ aL=>Q v aL) E au) E s
 done:∀(s:Shared) (Q:Option Value->Shared->Prop) (E:Value->Shared->Prop),T n s.heap->
  (∀h' tk,(∀b o,b∉wr->s.heap.get? b=some o->h'.get? b=some o)->Q Option.none {s with heap:=h',toks:=tk})->wpAny (model prog w) A (pyNext (.ref bh)) Q E s
def tY(prog:Program)(w:World)(n:Nat)(env:Env)(m:Loc)(iter:Expr)(ps:List (ak×ak)):Prop:=
 ∀(W:Addr->Prop) (A:Around) (s:Shared) (Q:Value->Shared->Prop) (E:Value->Shared->Prop),bK n A->St w env W m s.heap->
  (∀(au:Shared) (bh:Addr) (fp fr wr:List Addr) (P:Nat->Value->Value->Prop) (T:Nat->Heap->Prop) (aL:Shared),Ext s au->G w au.heap->Ext au aL->G w aL.heap->xR prog w A bh fp wr ps.length P T->T 0 aL.heap->(∀b∈wr,b∈fr)->(∀b∈fr,b∈fp)->(∀b∈fr,au.heap.get? b=none)->(∀b∈fp,(∃o,aL.heap.get? b=some o/\cx o)/\¬cf b)->
   (∀i h,T i h->∀b∈wr,∃o,h.get? b=some o/\cx o)->(∀b∈fp,b∈fr\/((∃o,au.heap.get? b=some o)/\¬W b))->(∀i x y,P i x y->∃p q,ps[i]? =some (p,q)/\a6 w au.heap W p x/\a6 w au.heap W q y)->Q (.ref bh) aL)->
  wpAny (model prog w) A (eval iter env) (λx au=>wpAny (model prog w) A (pyIter x) Q E au) E s
section
variable {prog:Program} {w:World} {n:Nat} {env:Env} {m:Loc} {Φ:dn->Loc->Prop}
theorem CV{x y:Str}{pt:Pos}{kt:Nat}{iter:Expr}{ps:List (ak×ak)}(inv:Nat->Loc->Prop)(hit:tY prog w n env m iter ps)(cN:∀p∈ps,cb p.1/\cb p.2)
  (S0:env.kindOf x=some .local\/(env.kindOf x=some .cell/\(env.cells.lookup x).isSome=true)) (SU:env.kindOf y=some .local\/(env.kindOf y=some .cell/\(env.cells.lookup y).isSome=true)) (h0:inv 0 m)
  (turn:∀j p q m',ps[j]? =some (p,q)->inv j m'->bg prog w n env ((y,q)::(x,p)::m') body (AF (inv (j+1)) Φ))
  (done:∀m',inv ps.length m'->bg prog w n env m' orelse Φ) (hs:∀v,foldedSetIterable iter env v=pure v):df prog w n env m (.For (.Tuple [.Name x px,.Name y py] kt pt) iter body orelse pos) Φ:=λs₀ W₀ J ad A s E ai F=>by
 refine wpAny_For ?_ hs;refine hit _ A s _ E ai F.st λau bh fp fr wr P T aL az aF aR aY aW bE u5 w8 d3 dP dC kf b5=>?_;have aX:=F.ext az aF
 let dM:Addr->Prop:=λa=>J a\/a∈fr
 have bp:b1 w s₀ env W₀ ad dM m aL:=aX.nL aR aY (λa af=> .inl af) λa af aN=>by
  have af:=af.resolve_left aN;exact⟨d3 a af,(dP a (w8 a af)).1,(dP a (w8 a af)).2⟩
 let p3:Nat->Shared->Prop:=λj s'=>∃a3 m',b1 w s₀ env W₀ a3 dM m' s'/\inv j m'/\T j s'.heap/\bC (b4 env m ad) (b4 env m' a3) au s'
 have back:∀{a3 m' s'},b1 w s₀ env W₀ a3 dM m' s'->b1 w s₀ env W₀ a3 J m' s':=λaS=>aS.tP λa af=> .inl af;have nE:∀{a3:Str->Addr} {m':Loc} {s' b2:Shared},bC (b4 env m ad) (b4 env m' a3) au s'->(∀b∈fr,¬b4 env m' a3 b)->∀{o1 dE},bC (b4 env m' a3) (b4 env dE o1) s' b2->∀b∈fp,∀o,s'.heap.get? b=some o->b2.heap.get? b=some o:=by
  intro a3 m' s' b2 bP ug o1 dE cJ b I o e;have aM:=(dP b I).2;rcases kf b I with q |⟨⟨bZ,aO⟩,q⟩
  ·exact(cJ b o (ug b q) aM e).1
  ·exact(cJ b o (bP b bZ (λz=>q z.j2) aM aO).2 aM e).1
 have Bs:∀{a3 m' s'},b1 w s₀ env W₀ a3 dM m' s'->∀b∈fr,¬b4 env m' a3 b:=λaS b I q=>by
  refine eK (aS.ec b (.inr I)) λab ae aD bc=>?_;rcases q with q |⟨nm,q⟩ |⟨y,av,q⟩
  ·exact ae q
  ·exact aD nm b q rfl
  ·exact bc y av q
 have FH:∀b o,au.heap.get? b=some o->b∉fr:=λb o e q=>by rw[d3 b q] at e;injection e
 have kF:∀b o,au.heap.get? b=some o->b∉wr:=λb o e q=>FH b o e (u5 b q);have pre:bC (b4 env m ad) (b4 env m ad) s au:= .ext az;refine codeAny_forLoop_any (λk s'=>∃j,k=ps.length+1 - j/\j<=ps.length/\p3 j s') ?_ (ps.length+1) ⟨0,by walk_at"o",c0 _,ad,m,bp,h0,bE,.ext aR⟩;intro k s' dg;refine e9 λfs cD=>?_;refine dK dg λj dq aN e2=>?_;refine h8 e2 λa3 m' aS hinv jq kk=>?_;subst dq;refine cD ?_;have tK:∀(h':Heap) (tk:Nat),(∀b o,b∉wr->s'.heap.get? b=some o->h'.get? b=some o)->(∀b∈wr,∃o,h'.get? b=some o/\cx o)->b1 w s₀ env W₀ a3 dM m' {s' with heap:=h',toks:=tk}:=λh' tk cj hex=>by
  refine aS.qx (λa af=>af) ⟨h',tk,rfl⟩ (λb o I _ e=>cj b o (λq=>I (.inr (u5 b q))) e) ?_ λa af=>?_
  ·exact F.dJ.chg (X:=λa=>a∈wr) aS.st.g (λa af=>⟨(aS.ec a (.inr (u5 a af))).1,dC j _ jq a af⟩) λb o I e=>cj b o I e
  ·by_cases q:a∈wr
   ·exact hex a q
   ·refine aE (aS.st.low a (.dw af)) λaU _=>?_;refine ah aU λo e cF=>?_;exact⟨o,cj a o q e,cF⟩
 have oN:∀(h':Heap) (tk:Nat),(∀b o,b∉wr->s'.heap.get? b=some o->h'.get? b=some o)->bC (b4 env m ad) (b4 env m' a3) au {s' with heap:=h',toks:=tk}:=λh' tk cj b o I aM e=>⟨cj b o (kF b o e) (kk b o I aM e).1,(kk b o I aM e).2⟩
 by_cases cu:j < ps.length
 ·refine wpAny_mono (aW.item j s' [.Name x px,.Name y py] kt pt (λv c9=>wpAny (model prog w) A (PySem.assign (PySem.Expr.Tuple [PySem.Expr.Name x px,PySem.Expr.Name y py] kt pt) env v) _ _ c9) _ cu jq λt i9 p2 h' tk nR zJ mQ cj=>?_) (λr U8 h₁=>by refine ah h₁ λv a7 ae=>?_;subst a7;exact ae) λ_ _ e=>e;refine e9 λfs cD=>?_;refine bj (b5 j i9 p2 nR) λp q q7 jT SI=>?_;refine aE (cN _ (eP q7)) λFq Ab=>?_;refine cD ?_;have hk:=tK h' tk cj λb I=>dC (j+1) _ mQ b I;have nP:=oN h' tk cj;refine wpAny_assign_Tuple ai.calm zJ (by rfl) (by rfl) λwL AK=>?_;have zy:∀b o,h'.get? b=some o->wL.get? b=some o:=λb o e=>AK b o (Nat.ne_of_lt (lt_size e)) e;have jo:Ext {s' with heap:=h',toks:=tk} {s' with heap:=wL,toks:=tk}:= .keeps zy;have pQ:=hk.ext jo (hk.st.g.keeps zy);have la:=nP.trans (bC.ext (W:=b4 env m' a3) jo);have put:∀{p:ak} {v:Value},cb p->a6 w au.heap (bU W₀ env m ad J) p v->a6 w wL (bU W₀ env m' a3 dM) p v:=λhf aq=>by
   refine aq.upd (λb o I U e=>?_) hf;have aM:=aF.fY e U;refine aE (la b o (λq=>I q.j2) aM e) λj3 hM=>?_;refine⟨j3,λq=>?_⟩;rcases q.split with q |(q |q) |q
   ·exact I (.m1 q)
   ·exact I (.dw q)
   ·exact FH b o e q
   ·exact hM q
  show wpAny _ A (assignInOrder [PySem.assign (PySem.Expr.Name x px) env,PySem.assign (PySem.Expr.Name y py) env] [i9,p2]) _ _ _;refine wpAny_assignInOrder_more (wpAny_assign_Name (pQ.put (put Fq jT) Fq S0 λgD gH fL=>?_));refine wpAny_assignInOrder_more (wpAny_assign_Name (gH.put ((put Ab SI).Fc pQ.st.g fL Ab) Ab SU λlS xQ xU=>?_));refine wpAny_assignInOrder_none ?_;have rj:T (j+1) wL:=aW.frame _ _ _ mQ λb _ o e=>zy b o e;have rg:T (j+1) gD.heap:=aW.frame _ _ _ rj (nE la (Bs pQ) fL);have Fw:=la.trans fL;have Tg:T (j+1) lS.heap:=aW.frame _ _ _ rg (nE Fw (Bs gH) xU);have z8:=Fw.trans xU;refine wpAny_mono (turn j p q m' q7 hinv s₀ W₀ dM a3 A lS _ ai xQ) (λf nN o=>?_) λ_ _ e=>e;have nc:∀xf vk,b1 w s₀ env W₀ xf dM vk nN->bC (b4 env ((y,q)::(x,p)::m') a3) (b4 env vk xf) lS nN->inv (j+1) vk->∃k,k < ps.length+1 - j/\∃hN,k=ps.length+1 - hN/\hN<=ps.length/\p3 hN nN:=λxf vk UT xN hi=>
   ⟨ps.length+1 - (j+1),by exact Nat.sub_lt_sub_left (Nat.lt_succ_of_lt ‹_›) (Nat.lt_succ_self _),j+1,rfl,cu,xf,vk,UT,hi,aW.frame _ _ _ Tg (nE z8 (Bs xQ) xN),z8.trans xN⟩
  induction f with
  |next=>refine bj o λgb fg gH fL hi=>?_;exact nc gb fg gH fL hi
  |cont=>refine bj o λgb fg gH fL hi=>?_;exact nc gb fg gH fL hi
  |brk=>refine bj o λgb fg gH fL hi=>?_;exact⟨gb,fg,back gH,pre.trans (z8.trans fL),hi⟩
  |ret v=>exact o
 ·have q2:j=ps.length:=by exact Nat.le_antisymm ‹_› (Nat.not_lt.mp ‹_›)
  subst q2;refine aW.done s' _ _ jq λh' tk cj=>?_;have uQ:∀a,J a->a∉wr:=λa af q=>by
   refine e9 λfs cD=>?_;refine aE (aX.st.low a (.dw af)) λbk _=>?_;refine ah bk λo e cF=>?_;refine cD ?_;exact kF a o e q
  have vf:b1 w s₀ env W₀ a3 J m' {s' with heap:=h',toks:=tk}:=by
   refine aS.qx (λa af=> .inl af) ⟨h',tk,rfl⟩ (λb o I _ e=>cj b o (λq=>I (.inr (u5 b q))) e) ?_ λa af=>?_
   ·exact F.dJ.chg (X:=λa=>a∈wr) aS.st.g (λa af=>⟨(aS.ec a (.inr (u5 a af))).1,dC _ _ jq a af⟩) λb o I e=>cj b o I e
   ·refine e9 λfs cD=>?_;refine aE (aS.st.low a (.dw (.inl af))) λbz _=>?_;refine ah bz λo e cF=>?_;refine cD ?_;exact⟨o,cj a o (uQ a af) e,cF⟩
  exact wpAny_mono (done m' hinv s₀ W₀ J a3 A _ _ ai vf) (λf b2 o=>o.pre (pre.trans (oN h' tk cj))) λ_ _ e=>e
end
variable {il xs:Array Value}
section
variable {prog:Program} {w:World} {n:Nat} {env:Env} {m:Loc} {Φ:dn->Loc->Prop}
theorem rL{t:Addr}(x:h.IsTuple t xs)(k:∀o,h.get? t=some o->h'.get? t=some o):h'.IsTuple t xs:=ah x λo aj r=>⟨o,k o aj,r⟩
theorem Lm{k:Nat}{HA:Nat->Array Value->Prop}{T:Nat->Heap->Prop}{R9:Nat->Addr->Heap->Prop}(W:WalksT prog w A bh fp wr k HA T R9)(P:Nat->Value->Value->Prop)(b5:∀i vals,i < k->HA i vals->∃x y,vals= #[x,y]/\P i x y):xR prog w A bh fp wr k P T where
 sub:=W.sub
 frame:=W.frame
 item:=λi s elts dR pos Q E hi bE a4=>by
  refine W.item i s _ E hi bE λt vals h' tk Aq _ zJ wI ar=>?_;refine dO (b5 i vals hi Aq) λx y aU aa=>?_;subst aU;refine⟨_,rfl,W.go elts dR pos i t {s with heap:=h',toks:=tk} _ E wI λhc mQ FT=>?_⟩;exact a4 t x y hc tk aa (rL zJ λo e=>FT t o (W.apart i t h' wI) e) mQ λb o I e=>FT b o I (ar b o I e)
 done:=W.done
theorem Jd{a b:Addr}{us:List Value}{xP kv:Nat}{eF:List ak}(ai:bK 0 A)(g:G w s.heap)(low:eB W s.heap)
  (hR:s.heap.get? a=some {cls:= .type "list",data:= .seq ⟨us⟩ xP}) (gq:s.heap.get? b=some {cls:= .type "list",data:= .seq ⟨vs⟩ kv}) (xh:bJ w s.heap W eF us) (bL:bJ w s.heap W ry vs) (ll:¬W a) (w4:¬W b)
  (h:∀(bh:Addr) (fp fr wr:List Addr) (P:Nat->Value->Value->Prop) (T:Nat->Heap->Prop) (aL:Shared),Ext s aL->G w aL.heap->xR prog w A bh fp wr (eF.zip ry).length P T->T 0 aL.heap->(∀b∈wr,b∈fr)->(∀b∈fr,b∈fp)->(∀b∈fr,s.heap.get? b=none)->(∀b∈fp,(∃o,aL.heap.get? b=some o/\cx o)/\¬cf b)->
   (∀i h,T i h->∀b∈wr,∃o,h.get? b=some o/\cx o)->(∀b∈fp,b∈fr\/((∃o,s.heap.get? b=some o)/\¬W b))->(∀i x y,P i x y->∃p q,(eF.zip ry)[i]? =some (p,q)/\a6 w s.heap W p x/\a6 w s.heap W q y)->
   (∃TI Ht,IsZip aL.heap bh TI Ht .none)->Q (.ref bh) aL):wpAny (model prog w) A (call (.type "zip") [.ref a,.ref b]) Q E s:=by
 refine call_zip_2 (xs:=⟨us⟩) (ys:=⟨vs⟩) ⟨_,hR,rfl,xP,rfl⟩ ⟨_,gq,rfl,kv,rfl⟩ λh' j3 hM rp vv xK hg ar=>?_;generalize rv:s.heap.objs.size=N at*;induction N using jf;rename_i N
 have Hh:=lt_size hR;have G6:=lt_size gq;rw[rv] at Hh G6;have fresh:∀c,N<=c->s.heap.get? c=none:=λc U=>by
  induction e:s.heap.get? c with
  |none=>rfl
  |some o=>have ab:=lt_size e;rw[rv] at ab;exact absurd ab (Nat.not_lt.mpr U)
 have D:ZipApart (N+4) (N+2) (N+3) N (N+1) a b:=by
  constructor<;>first |exact Nat.ne_of_lt (by walk_at"o") |exact Nat.ne_of_gt (by walk_at"o") |exact Nat.ne_of_lt (Nat.lt_of_lt_of_le Hh (by walk_at"o")) |exact Nat.ne_of_lt (Nat.lt_of_lt_of_le G6 (by walk_at"o"))
 have hlen:min (⟨us⟩:Array Value).size (⟨vs⟩:Array Value).size=(eF.zip ry).length:=by
  rw[length_zip,xh.len,bL.len];rfl
 have W:=WalksT.zip2 (prog:=prog) (w:=w) ai.calm (N+4) (N+2) (N+3) N (N+1) a b D ⟨us⟩ ⟨vs⟩;rw[hlen] at W;replace W:=W;have cls:∀{c:Addr} {o:Obj} {hc:Heap} {T:String},hc.get? c=some o->o.cls= .type T->T≠"code"->∃o,hc.get? c=some o/\cx o:=λe U aM=>⟨_,e,.inl λq=>by rw[U] at q;injection q with q;exact aM q⟩
 refine h (N+4) _ [N+4,N+2,N+3,N,N+1] _ (λi x y=>∃p q,(eF.zip ry)[i]? =some (p,q)/\a6 w s.heap _ p x/\a6 w s.heap _ q y) _ _ (.keeps ar) (g.keeps ar) (Lm W _ λi vals hi Aq=>?_) ⟨j3,hM,⟨_,_,rp⟩,vv,xK,⟨_,ar _ _ hR,rfl,xP,rfl⟩,⟨_,ar _ _ gq,rfl,kv,rfl⟩⟩ (λc U=>by simp at U ⊢;rcases U with rfl |rfl |rfl |rfl<;>walk_at"o") (λc U=>by simp at U ⊢;rcases U with rfl |rfl |rfl |rfl |rfl<;>walk_at"o") (λc U=>fresh c (by simp at U;rcases U with rfl |rfl |rfl |rfl |rfl<;>walk_at"o")) (λc U=>?_) (λi hc bE c U=>?_) (λc U=>?_) (λi x y q=>q) ⟨_,_,j3⟩
 ·refine bj Aq λx y ag av a7=>?_;subst a7;refine ah (xh.at' (i:=i) (v:=x) (by simpa using ag)) λp ab ae=>?_;refine ah (bL.at' (i:=i) (v:=y) (by simpa using av)) λq aD bc=>?_;exact⟨x,y,rfl,p,q,by rw[getElem?_zip_eq_some];exact⟨ab,aD⟩,ae,bc⟩
 ·have i4:∀c,N<=c->¬cf c:=λc U=>g.fu (fresh c U);simp at U;rcases U with rfl |rfl |rfl |rfl |rfl |rfl |rfl
  ·exact⟨cls j3 rfl (by decide),i4 _ (by exact Nat.le_add_right _ _)⟩
  ·exact⟨cls hM rfl (by decide),i4 _ (by exact Nat.le_add_right _ _)⟩
  ·exact⟨cls rp rfl (by decide),i4 _ (by exact Nat.le_add_right _ _)⟩
  ·exact⟨dK vv λo e c _=>cls e c (by decide),i4 _ (by walk_at"o")⟩
  ·exact⟨dK xK λo e c _=>cls e c (by decide),i4 _ (by exact Nat.le_add_right _ _)⟩
  ·exact⟨cls (ar _ _ hR) rfl (by decide),g.fY hR eG⟩
  ·exact⟨cls (ar _ _ gq) rfl (by decide),g.fY gq eG⟩
 ·refine ud bE λt1 e7 bk bz b7 _=>?_;refine cn bk λx y t3=>?_;refine dK bz λB1 kV xy _=>?_;refine dK b7 λHq Uu BS _=>?_;simp at U;rcases U with rfl |rfl |rfl |rfl
  ·exact cls t1 rfl (by decide)
  ·exact cls t3 rfl (by decide)
  ·exact cls kV xy (by decide)
  ·exact cls Uu BS (by decide)
 ·simp at U;rcases U with rfl |rfl |rfl |rfl |rfl |rfl |rfl
  ·exact .inl (by exact .head _)
  ·exact .inl (by exact .tail _ (.head _))
  ·exact .inl (by exact .tail _ (.tail _ (.head _)))
  ·exact .inl (by simp)
  ·exact .inl (by simp)
  ·exact .inr ⟨⟨_,hR⟩,ll⟩
  ·exact .inr ⟨⟨_,gq⟩,w4⟩
theorem tY.zip{ff ct:Expr}{eF:List ak}(iD:Ev prog w n env m eE (.val (.type "zip")))(af:aK prog w n env m pos [ff,ct] [.list eF,.list ry])(cv:(starEach [ff,ct] env).any (·.1)=false)
  (fo:eval (.Call eE [ff,ct] [] pos) env=(do callWith pos (<-eval eE env) [] (backTo pos (starEach [ff,ct] env)) (backToKw pos (keywordEach [] env)))):tY prog w n env m (.Call eE [ff,ct] [] pos) (eF.zip ry):=λW A s Q E ai x h=>by
 rw[fo];refine aH (iD W A s _ E ai x λv au aq az aF=>?_);rw[show v= .type "zip" from aq];have I:=ja (pos:=pos) cv;have c4:=x.ext az aF;refine PySem.callWith_type (j5 I) (g8 I (af W A au _ E ai c4 λvs aL bb aR aY=>?_));refine bj bb λ_ _ a8 cC c1=>?_;refine bj c1 λ_ _ d4 c2 rH=>?_;refine cg cC λa us xP bX ll hR xh=>?_;refine cg c2 λb eh kv xA w4 gq bL=>?_;subst a8 bX d4 xA;rw[show _=[] from rH];have wX:=c4.ext aR aY;refine Jd (ai.le (c0 _)) aY wX.low hR gq xh bL ll w4 λbh fp fr wr P T eb d9 eY aW bE ab ae aD bc dz i8 mj hz=>?_;refine cn hz λTI Ht hz=>?_;exact wpAny_pyIter_zip hz (h aL bh fp fr wr P T eb (az.trans aR) aY d9 eY aW bE ab ae aD bc dz i8 mj)
end
variable {gens:List Comprehension}
theorem p9{sc:Scope}{line:Nat}{t:Str}(ba:c6 env sc)(aM:sc.names.lookup t=some .local)(ao:(py.line==pos.line)=true)(aA:(scope.names.any λ(n,k)=>n==t&&(k== .local||k== .cell))=false):
  swapsWith (.ListComp elt gens scope pos) (some (.Name t py)) line env=pure true:=by
 unfold swapsWith;have ab:(env.kindOf t==some .local)=true:=by rw[ba.kind t .local (by decide) aM];decide
 have I:env.blockKind= .function:=by unfold Env.blockKind;rw[ba.fn];rfl
 have ae:(env.blockKind==ScopeKind.function)=true:=by rw[I];decide
 show(pure (env.blockKind== .function&&env.kindOf t==some .local&&py.line==pos.line&& !(scope.names.any λ(n,k)=>n==t&&(k== .local||k== .cell))):Sem Bool)=pure true;rw[ab,ae,ao,aA];rfl
theorem DB{sc:Scope}{line:Nat}{t:Str}(ba:c6 env sc)(aM:sc.names.lookup t=some .cell):
  swapsWith (.ListComp elt gens scope pos) (some (.Name t py)) line env=pure false:=by
 unfold swapsWith;have ab:(env.kindOf t==some .local)=false:=by rw[ba.kind t .cell (by decide) aM];decide
 show(pure (env.blockKind== .function&&env.kindOf t==some .local&&py.line==pos.line&& !(scope.names.any λ(n,k)=>n==t&&(k== .local||k== .cell))):Sem Bool)=pure false;rw[ab,Bool.and_false,Bool.false_and,Bool.false_and]
theorem gw.len{Hn:List (Str×ak)}{ys:List (Str×Value)}(x:gw w h W' Hn ys):Hn.length=ys.length:=by
 induction x with
 |nil=>rfl
 |cons _ _ aw=>simp[aw]
theorem K4(x:h.DictOf (strKind prog w) D kvs)(k:∀o,h.get? D=some o->h'.get? D=some o):h'.DictOf (strKind prog w) D kvs:=t9 x λo es ep aj r=>⟨o,es,ep,k o aj,r⟩
theorem JH{iter:Expr}{cL:Pos}{ks:List Str}{x:Str}{f:Str->ak}{c:Bool}{sc:Scope} 
  (ai:bK n A) (hy:St w env W m s.heap) (ba:c6 env sc) (hit:Ev prog w n env m iter q) (f9:cw prog w q (aB ks)) (bo:ks.Nodup) (AD:(x==("__debug__":Str))=false) (hs:∀v,foldedSetIterable iter env v=pure v) (S:iK scope sc x c)
  (f7:∀y p,mf.lookup y=some p->m.lookup y=some p/\scope.names.lookup y=some .free) (hz:ks.length<=sizeLine) (cN:∀y∈ks,cb (f y))
  (elts:∀y∈ks,∀cenv,c6 cenv scope->Ev prog w n cenv ((x,.str y)::mf) vj (f y))
  (fin:∀(D C:Addr) (s':Shared),Ext s s'->G w s'.heap->s.heap.get? C=none->¬cf C->a6 w s'.heap (λa=>W a\/a=C) (rB (ks.map λy=>(y,f y))) (.ref D)->(∃cH,s'.heap.Ns C cH)->compPost (model prog w) A E use Q (.ref D) C (.ok .next) s'):
  wpAny (model prog w) A (comprehension (.DictComp (.Name x cL) vj [⟨.Name x px,iter,[],0⟩] scope pos) scope env zV newDict false (eval iter env) use) Q E s:=by
 have ek:∀j,dA (((ks.take j).map λy=>(y,f y)).map (·.2)):=λj=>by
  rw[dW];refine j9 λp aa=>?_;refine ah (bA.mp aa) λy av c1=>?_;subst c1;exact cN y (mem_of_mem_take av)
 have Sx:(aB ks).length=ks.length:=bO ..;refine Dv (xW:=λcenv D F E aL=>wpAny (model prog w) A (forIn [] true λc r=>if r=true then do let ok<-isTrue c cenv (eval c cenv);pure (ForInStep.yield ok) else pure (ForInStep.yield r)) (λok eb=>if ok=true then wpAny (model prog w) A (eval (.Name x cL) cenv) (λkv c9=>wpAny (model prog w) A (eval vj cenv) (λHs gD=>wpAny (model prog w) A (dictSet D kv Hs) (λ_=>F) E gD) E c9) E eb else F eb) E aL)
  (pv:=rB (ks.map λy=>(y,f y))) (ob:={cls:= .type "dict",data:= .dict #[]}) (λD W' j h=>∃kvs,h.DictOf (strKind prog w) D kvs/\gw w h W' ((ks.take j).map λy=>(y,f y)) kvs) ai hy ba (.of ai hy hit f9) hs S f7
  (λD W' i=>⟨λh H=>ah H λkvs aU _=>cg aU λo es ep e _ hd _=>⟨o,e,.inr λvs q=>by rw[hd] at q;injection q⟩,λh h' H k₁ k₂=>ah H λkvs ax aC=>⟨kvs,K4 ax k₁,aC.upd (λb o I U e=>⟨k₂ b o I U e,I⟩) (ek i)⟩⟩)
  (λD W' h e=>⟨[],⟨_,#[],0,e,⟨rfl,rfl,rfl⟩,rfl,λ_ he=>absurd he (Array.not_mem_empty _),Pairs.nil,nodup_nil⟩,.nil⟩)
  (λit D cenv R bh turn n s h=>codeAny_compLoop_testsD bh turn n h)
  (λD cenv W' j p gD F c5 kM aa rF aW gg kt bx mn=>?_)
  (λD W' V h nf oz iQ H=>?_)
  (λit acc cenv R s h0 h=>codeAny_compStart_dict h0 h) fin (λs Q h=>aH (wpAny_alloc (bu h))) rfl rfl
 ·rw[d7] at aa;refine ah (Option.map_eq_some_iff.mp aa) λy uF c1=>?_;subst c1;refine wpAny_tests_nil ?_;rw[aQ rfl];refine(Ev.name (prog:=prog) (n:=n) a5 AD) W' A gD _ _ ai rF λkv lS fK kD ui=>?_;refine aP fK λVY eM=>?_;subst eM;refine elts y (eP uF) cenv kM W' A lS _ _ ai (rF.ext kD ui) λp2 nN av uu uq=>?_;refine ah (bx _ (kD.trans uu) uq) λkvs a1 a2=>?_;have hlen:kvs.length<=sizeLine:=by
   rw[<-a2.len,bO,length_take];exact Nat.le_trans (Nat.min_le_right ..) hz
  refine wpAny_dictSet_pairs (knd:=strKind prog w) (k:=y) isKey a1 (λz0 OE mG=>?_) hlen;refine mn nN z0 _ (kD.trans uu) uq mG ⟨_,OE,?_⟩;have kg:ea ((ks.take j).map λy=>(y,f y)) y (f y)=(ks.take (j+1)).map λy=>(y,f y):=by
   have uB:ks.take (j+1)=ks.take j++[y]:=by rw[take_add_one,uF];rfl
   have wN:=(take_sublist (j+1) ks).nodup bo;rw[uB,nodup_append] at wN;unfold ea;rw[uB,map_append,aI]
   ·rfl
   ·intro q;refine ah (List.any_eq_true.mp q) λz hz nZ=>?_;refine ah (bA.mp hz) λgM hC eJ=>?_;subst eJ;exact wN.2.2 gM hC y (cQ.mpr rfl) (ee nZ)
  rw[<-kg];have up:=λb o (I:¬W' b) (_:o.cls≠ .none) e=>And.intro (mG.extBut b o (λq=>I (q▸gg)) e) I;exact(a2.upd up (ek _)).put (av.upd up (cN y (eP uF)))
 ·refine ah H λkvs a1 a2=>?_;rw[Sx,take_length] at a2;replace a2:=a2;refine h8 (tN a1) λes k gI i1 te U3=>?_;refine aE ((a2.upd (W':=V) (λb o I _ e=>⟨e,λq=>I (nf b q)⟩) (by rw[<-take_length (l:=ks)];exact ek _)).vals) λhl hK=>?_;exact⟨D,es,k,rfl,oz,gI,⟨hl▸i1,hl▸te,iQ⟩,U3▸hK⟩
theorem Ir{iter:Expr}{cL:Pos}{ks:List Str}{x:Str}{f:Str->ak}{c:Bool}{sc:Scope}(ba:c6 env sc)(hit:Ev prog w n env m iter q)(f9:cw prog w q (aB ks))(bo:ks.Nodup)(AD:(x==("__debug__":Str))=false)(S:iK scope sc x c)
  (f7:∀y p,mf.lookup y=some p->m.lookup y=some p/\scope.names.lookup y=some .free) (hz:ks.length<=sizeLine) (cN:∀y∈ks,cb (f y))
  (elts:∀y∈ks,∀cenv,c6 cenv scope->Ev prog w n cenv ((x,.str y)::mf) vj (f y))
  (hs:∀v,foldedSetIterable iter env v=pure v):Ev prog w n env m (.DictComp (.Name x cL) vj [⟨.Name x px,iter,[],0⟩] scope pos) (rB (ks.map λy=>(y,f y))):=λW A s Q E ai hy h=>by
 rw[arm_eval_DictComp];refine JH (use:=none) ai hy ba hit f9 bo AD hs S f7 hz cN elts λD C s' e g gk BO aq aA=>?_;refine aP aA λcH aA=>?_;refine⟨cH,aA,λh' bL=>?_⟩;refine ah (my aA) λo aj hd=>?_;have aO:Ext s {s' with heap:=h'}:=by
  refine cn e.same λab t1 dy=>?_;exact⟨⟨h',t1,by rw[dy]⟩,λb ob I ct=>bL.extBut b ob (λq=>by rw[q,gk] at ct;injection ct) (e.keep b ob I ct)⟩
 refine h _ _ ?_ aO (hy.g.set g gk aj hd bL);have ek:cb (rB (ks.map λy=>(y,f y))):=by
  show dA _;refine j9 λp aa=>?_;rw[dW] at aa;refine ah (bA.mp aa) λy av fJ=>?_;subst fJ;exact cN y av
 exact aq.upd (λb ob I _ ct=>⟨bL.extBut b ob (λq=>I (.inr q)) ct,λq=>I (.inl q)⟩) ek
theorem IX{elts:List Expr}{rC}{t:Addr}{v:Value}{Q:Unit->Shared->Prop}(hit:s.heap.IsTupleIter bh t i)(aq:∃a,v= .ref a)(a4:Q () s):
  wpAny (model prog w) A (letOwnedTupleGo (.Tuple elts rC pos) (.ref bh) v) Q E s:=by
 refine aP aq λT aU=>?_;subst aU;refine dK hit λo aj U hd=>?_;unfold letOwnedTupleGo;refine aH (wpAny_load aj ?_);rw[U,hd];show wpAny _ A (if(["enumerate","zip","dict_itemiterator","dict_reverseitemiterator","odict_iterator","itertools.zip_longest","itertools.pairwise"].contains "tuple_iterator"&&
   (#[.ref t,.int i 0]:Array Value)[0]? ==some (rawInt T))=true then _ else _) Q E s
 rw[aI (by
  intro h;rw[show(["enumerate","zip","dict_itemiterator","dict_reverseitemiterator","odict_iterator","itertools.zip_longest","itertools.pairwise"].contains "tuple_iterator")=false from by decide,Bool.false_and] at h;injection h)]
 exact bu a4
noncomputable def refsOf(vs:List Value):List Addr:=vs.filterMap λv=>match v with | .ref a=>some a |_=>none
theorem DP{a:Addr}(h:vs[i]? =some (.ref a)):a∈refsOf vs:=List.mem_filterMap.mpr ⟨_,eP h,rfl⟩
theorem of_refs{a:Addr}(h:a∈refsOf vs):∃i:Nat,vs[i]? =some (Value.ref a):=by
 refine ah (List.mem_filterMap.mp h) λv aq e=>?_
 (induction v)<;>simp at e
 subst e;exact getElem?_of_mem aq
theorem KJ(dr:A.handled=none)(bh ti:Addr)(bY:ti≠bh)(vs:List Value)(P:Nat->Value->Value->Prop)(lz:bh∉refsOf vs):
  xR prog w A bh (bh::ti::refsOf vs) [bh] vs.length P (λi h=>h.IsTupleIter bh ti i/\h.IsTuple ti ⟨vs⟩/\∀j,j < vs.length->∃t x y,vs[j]? =some (.ref t)/\h.IsTuple t #[x,y]/\P j x y) where
 sub:=λb I=>by simp at I;simp[I]
 frame:=λi h h' ⟨ab,ae,aD⟩ ar=>⟨let⟨o,e,r⟩:=ab;⟨o,ar bh (by exact .head _) o e,r⟩,rL ae λo e=>ar ti (by exact .tail _ (.head _)) o e,λj aN=>gm (aD j aN) λt x y e aM aa=>⟨t,x,y,e,rL aM λo oI=>ar t (by simp[DP e]) o oI,aa⟩⟩
 item:=λi s elts k pos Q E hi fm a4=>by
  refine cB fm λab ae aD=>?_;refine gm (aD i hi) λt x y e aM aa=>?_;refine wpAny_pyNext_tuple_item ab ae (x:= .ref t) (by simpa using e) λh' t5 eC=>?_;have GP:∀(j:Nat) (eV:Addr),vs[j]? =some (Value.ref eV)->eV≠bh:=λj eV aO q=>lz (q▸DP aO);have k:∀b o,b∉[bh]->s.heap.get? b=some o->h'.get? b=some o:=λb o I e=>eC.extBut b o (λq=>I (by simp[q])) e;refine⟨_,rfl,IX t5 ⟨_,rfl⟩ ?_⟩;exact a4 t x y h' s.toks aa (rL aM λo oI=>k t o (by simpa using GP i t e) oI) ⟨t5,rL ae λo oI=>k ti o (by simpa using bY) oI,λj aN=>gm (aD j aN) λeV gf gM aO sS fS=>⟨eV,gf,gM,aO,rL sS λo oI=>k eV o (by simpa using GP j eV aO) oI,fS⟩⟩ k
 done:=λs Q E QO a4=>cB QO λab ae _=>wpAny_pyNext_tuple_end dr ab ae (by simp) λh' gc=>a4 h' s.toks λb o I e=>gc b o (λh=>I (by simp[h])) e
theorem IS{iter:Expr}{ps:List (ak×ak)}(hit:Ev prog w n env m iter (.tup (ps.map λz=> .tup [z.1,z.2]))):tY prog w n env m iter ps:=λW A s Q E ai x h=>by
 refine hit W A s _ E ai x λv au aq az aF=>?_;refine e9 λfs cD=>?_;refine cg aq λa vs k a7 ll aj hs=>?_;subst a7;refine cD ?_;have ao:au.heap.IsTuple a ⟨vs⟩:=⟨_,aj,rfl,k,rfl⟩
 refine wpAny_pyIter_tuple ao ?_;have bY:a≠au.heap.objs.size:=Nat.ne_of_lt (lt_size aj);have item:∀(j:Nat) (t:Addr),vs[j]? =some (Value.ref t)->∃p q x y k,ps[j]? =some (p,q)/\¬W t/\au.heap.get? t=some {cls:= .type "tuple",data:= .seq ⟨[x,y]⟩ k}/\a6 w au.heap W p x/\a6 w au.heap W q y:=λj t e=>by
  refine ah (hs.at' e) λp' ab ae=>?_;rw[d7] at ab;refine e9 λfs cD=>?_;refine ah (Option.map_eq_some_iff.mp ab) λbk aD bz=>?_;obtain⟨p,q⟩:=bk;subst bz;refine cg ae λeV us k' aO Bv lx b7=>?_;refine bj b7 λx jR BY ag dq=>?_;refine bj dq λy Q9 RI av a8=>?_;refine cD ?_
  (injection aO with bB;subst bB)
  subst BY RI;rw[show Q9=[] from a8] at lx;exact⟨p,q,x,y,k',aD,Bv,lx,ag,av⟩
 have OA:∀j:Nat,j < vs.length->∃t:Addr,vs[j]? =some (Value.ref t):=λj aN=>by
  refine e9 λfs cD=>?_;obtain⟨p',ab,ae⟩:=hs.at' (cm aN);refine cD ?_;rw[d7] at ab;refine e9 λfs cD=>?_;refine ah (Option.map_eq_some_iff.mp ab) λcC aD c2=>?_;obtain⟨p,q⟩:=cC;subst c2;refine t9 ae λeV us k' aO _=>?_;refine cD ?_;exact⟨eV,by rw[cm aN,aO]⟩
 have lz:au.heap.objs.size∉refsOf vs:=λq=>by
  refine e9 λfs cD=>?_;refine aP (of_refs q) λj e=>?_;refine wO (item j _ e) λ_ _ _ _ _ _ _ lx _=>?_;refine cD ?_;rw[er] at lx;injection lx
 have hlen:ps.length=vs.length:=by have:=hs.len;simpa using this
 have aW:=KJ (prog:=prog) (w:=w) (A:=A) ai.calm au.heap.objs.size a bY vs (λj i9 p2=>∃p q,ps[j]? =some (p,q)/\a6 w au.heap W p i9/\a6 w au.heap W q p2) lz;rw[<-hlen] at aW;have c4:=x.ext az aF;refine h au au.heap.objs.size _ [au.heap.objs.size] [au.heap.objs.size] _ _ _ az aF (.push ..) (aF.push _) aW ⟨⟨_,dc _ rfl,rfl,rfl⟩,⟨_,dV _ aj,rfl,k,rfl⟩,λj aN=>?_⟩ (λb I=>I) (λb I=>by simp at I;simp[I]) (λb I=>?_) (λb I=>?_) (λi h' bE b I=>?_) (λb I=>?_) (λi i9 p2 aa=>aa)
 ·refine e9 λfs cD=>?_;refine aP (OA j (by exact Nat.lt_of_lt_of_eq ‹_› ‹_›)) λt e=>?_;refine F4 (item j t e) λp q i9 p2 k' aD _ lx ag av=>?_;refine cD ?_;exact⟨t,i9,p2,e,⟨_,dV _ lx,rfl,k',rfl⟩,p,q,aD,ag,av⟩
 ·simp at I;subst I;exact er _
 ·simp at I;replace I:=I;rcases I with rfl |rfl |I
  ·exact⟨⟨_,dc _ rfl,.inl (by intro q;injection q with q;exact absurd q (by decide))⟩,aF.fu (er _)⟩
  ·exact⟨⟨_,dV _ aj,.inl (by intro q;injection q with q;exact absurd q (by decide))⟩,aF.fY aj eG⟩
  ·refine e9 λfs cD=>?_;refine aP (of_refs I) λj e=>?_;refine wO (item j _ e) λ_ _ _ _ _ _ _ lx _=>?_;refine cD ?_;exact⟨⟨_,dV _ lx,.inl (by intro q;injection q with q;exact absurd q (by decide))⟩,aF.fY lx eG⟩
 ·simp at I;subst I;refine e9 λfs cD=>?_;refine aE bE λc1 _=>?_;refine dK c1 λo ax aC _=>?_;refine cD ?_;exact⟨o,ax,.inl (by rw[aC];intro q;injection q with q;exact absurd q (by decide))⟩
 ·simp at I;replace I:=I;rcases I with rfl |rfl |I
  ·exact .inl (by exact .head _)
  ·exact .inr ⟨⟨_,aj⟩,ll⟩
  ·refine e9 λfs cD=>?_;refine aP (of_refs I) λj e=>?_;refine wO (item j _ e) λ_ _ _ _ _ _ Bv lx _=>?_;refine cD ?_;exact .inr ⟨⟨_,lx⟩,Bv⟩
def pO(prog:Program)(w:World)(n:Nat)(q:ak)(args:List ak)(p:ak):Prop:=
 ∀(W:Addr->Prop) (A:Around) (s:Shared) (f:Value) (vs:List Value) (Q:Value->Shared->Prop) (E:Value->Shared->Prop),bK n A->G w s.heap->eB W s.heap->a6 w s.heap W q f->bJ w s.heap W args vs->
  (∀v s',a6 w s'.heap W p v->Ext s s'->G w s'.heap->Q v s')->wpAny (model prog w) A (call f vs) Q E s
theorem Cl.v{f:Value}{p:ak}(h:Cl prog w n f args p):pO prog w n (.val f) args p:=λW A s g vs Q E ai rt low aq=>by
 rw[show g=f from aq];exact h W A s vs Q E ai rt low
def Eh(w:World)(q:ak):Prop:=(∃f,q= .val f/\Callee w f)\/∃P,q= .lam P
theorem Ju{p:ak}(iD:Ev prog w n env m eE q)(aG:Eh w q)(af:aK prog w n env m pos es ps)(U:pO prog w n q ps p)(cv:(starEach es env).any (·.1)=false)
  (fo:eval (.Call eE es [] pos) env=(do callWith pos (<-eval eE env) [] (backTo pos (starEach es env)) (backToKw pos (keywordEach [] env)))):Ev prog w n env m (.Call eE es [] pos) p:=by
 rcases aG with⟨f,rfl,hf⟩ |⟨P,rfl⟩
 ·exact Ev.call iD hf af (λW A s vs Q E ai g low bb=>U W A s f vs Q E ai g low rfl bb) cv fo
 ·intro W A s Q E ai x h;rw[fo];refine aH (iD W A s _ E ai x λv au aq az aF=>?_);have c4:=x.ext az aF;have I:=ja (pos:=pos) cv;have jr:=aq;refine F4 aq λa o fd c cP aU a7 _ hd _=>?_;subst aU;refine cB a7 λaW aj et=>?_;have key:wpAny (model prog w) A (evalArgs (Value.ref a) true (backTo pos (starEach es env)) []) (λr aL=>aL.heap.get? a=some o/\wpAny (model prog w) A (PySem.call (Value.ref a) ([]++r.pos) r.kw) Q E aL) E au:=g8 I (af W A au _ E ai c4 λvs aL bb aR aY=>⟨?_,?_⟩)
  ·exact Calls.callWith_function (o:=o) (fd:=fd) (wpAny_mono key (λ_ _ h=>⟨⟨h.1,hd⟩,h.2⟩) λ_ _ e=>e)
  ·exact aR.keep _ _ (aF.fY aj (et▸eG)) aj
  ·exact U W A aL (.ref a) vs Q E ai aY (c4.ext aR aY).low (jr.ext aF aR) bb λv s' aq e g=>h v s' aq ((az.trans aR).trans e) g
section
variable {prog:Program} {w:World} {n:Nat} {env:Env} {m:Loc} {Φ:dn->Loc->Prop}
theorem DR{x:Str}{J:Addr->Prop}{ad:Str->Addr}{P:Nat->Value->Prop}{T:Nat->Heap->Prop}(inv:Nat->Loc->Prop)(ai:bK n A)
  (aF:G w au.heap) (dp:∀a,J a->∃o,au.heap.get? a=some o) (bp:b1 w s₀ env W₀ ad (λa=>J a\/a∈wr) m aL) (y9:bC (b4 env m₁ je) (b4 env m ad) au aL) (aW:Walks prog w A bh fp wr ps.length P T) (bE:T 0 aL.heap) (fb:∀b∈wr,au.heap.get? b=none) (dP:∀b∈fp,¬cf b) (dC:∀i h,T i h->∀b∈wr,∃o,h.get? b=some o/\cx o)
  (kf:∀b∈fp,b∈wr\/((∃o,au.heap.get? b=some o)/\¬bU W₀ env m₁ je J b)) (b5:∀i u,P i u->∃q,ps[i]? =some q/\a6 w au.heap (bU W₀ env m₁ je J) q u) (cN:∀p∈ps,cb p)
  (ar:env.kindOf x=some .local\/(env.kindOf x=some .cell/\(env.cells.lookup x).isSome=true)) (h0:inv 0 m)
  (turn:∀j p m',ps[j]? =some p->inv j m'->bg prog w n env ((x,p)::m') body (AF (inv (j+1)) Φ))
  (done:∀m',inv ps.length m'->bg prog w n env m' orelse Φ):
  codeAny (model prog w) A (.forLoop (.Name x px) (.ref bh) body orelse env) (λr s'=>match r with | .ok f=>Out w s₀ env W₀ J Φ (b4 env m₁ je) au f s' | .error e=>cameBackBy (model prog w) A env E e s') aL:=by
 let dM:Addr->Prop:=λa=>J a\/a∈wr
 let p3:Nat->Shared->Prop:=λj s'=>∃a3 m',b1 w s₀ env W₀ a3 dM m' s'/\inv j m'/\T j s'.heap/\bC (b4 env m₁ je) (b4 env m' a3) au s'
 have back:∀{a3 m' s'},b1 w s₀ env W₀ a3 dM m' s'->b1 w s₀ env W₀ a3 J m' s':=λaS=>aS.tP λa af=> .inl af;have nE:∀{a3:Str->Addr} {m':Loc} {s' b2:Shared},bC (b4 env m₁ je) (b4 env m' a3) au s'->(∀b∈wr,¬b4 env m' a3 b)->∀{o1 dE},bC (b4 env m' a3) (b4 env dE o1) s' b2->∀b∈fp,∀o,s'.heap.get? b=some o->b2.heap.get? b=some o:=by
  intro a3 m' s' b2 bP ug o1 dE cJ b I o e;have aM:=dP b I;rcases kf b I with q |⟨⟨bZ,aO⟩,q⟩
  ·exact(cJ b o (ug b q) aM e).1
  ·exact(cJ b o (bP b bZ (λz=>q z.j2) aM aO).2 aM e).1
 have uE:∀{a3 m' s'},b1 w s₀ env W₀ a3 dM m' s'->∀b∈wr,¬b4 env m' a3 b:=λaS b I q=>by
  refine eK (aS.ec b (.inr I)) λab ae aD bc=>?_;rcases q with q |⟨nm,q⟩ |⟨y,av,q⟩
  ·exact ae q
  ·exact aD nm b q rfl
  ·exact bc y av q
 have kF:∀b o,au.heap.get? b=some o->b∉wr:=λb o e q=>by rw[fb b q] at e;injection e
 refine codeAny_forLoop (λk s'=>∃j,k=ps.length+1 - j/\j<=ps.length/\p3 j s') ?_ (ps.length+1) ⟨0,by walk_at"o",c0 _,ad,m,bp,h0,bE,y9⟩;intro k s' dg;refine sT λc5=>nW λcI jZ=>?_;refine dK dg λj dq aN e2=>?_;refine h8 e2 λa3 m' aS hinv jq kk=>?_;subst dq;have tK:∀(h':Heap) (tk:Nat),(∀b o,b∉wr->s'.heap.get? b=some o->h'.get? b=some o)->(∀b∈wr,∃o,h'.get? b=some o/\cx o)->b1 w s₀ env W₀ a3 dM m' {s' with heap:=h',toks:=tk}:=λh' tk cj hex=>by
  refine aS.qx (λa af=>af) ⟨h',tk,rfl⟩ (λb o I _ e=>cj b o (λq=>I (.inr q)) e) ?_ λa af=>?_
  ·exact aS.dJ.chg (X:=λa=>a∈wr) aS.st.g (λa af=>⟨(aS.ec a (.inr af)).1,dC j _ jq a af⟩) λb o I e=>cj b o I e
  ·by_cases q:a∈wr
   ·exact hex a q
   ·refine aE (aS.st.low a (.dw af)) λaU _=>?_;refine ah aU λo e cF=>?_;exact⟨o,cj a o q e,cF⟩
 have oN:∀(h':Heap) (tk:Nat),(∀b o,b∉wr->s'.heap.get? b=some o->h'.get? b=some o)->bC (b4 env m₁ je) (b4 env m' a3) au {s' with heap:=h',toks:=tk}:=λh' tk cj b o I aM e=>⟨cj b o (kF b o e) (kk b o I aM e).1,(kk b o I aM e).2⟩
 by_cases cu:j < ps.length
 ·refine aW.item j s' _ _ cu jq λv h' tk nR mQ cj=>?_;refine ah (b5 j v nR) λp aa jT=>?_;have kI:p∈ps:=eP aa;have hk:=tK h' tk cj λb I=>dC (j+1) _ mQ b I;have nP:=oN h' tk cj;have Ax:a6 w h' (bU W₀ env m' a3 dM) p v:=by
   refine jT.upd (λb o I U e=>?_) (cN p kI);have aM:=aF.fY e U;refine aE (nP b o (λq=>I q.j2) aM e) λj3 hM=>?_;refine⟨j3,λq=>?_⟩;rcases q.split with q |(q |q) |q
   ·exact I (.m1 q)
   ·exact I (.dw q)
   ·exact kF b o e q
   ·exact hM q
  refine jZ _ _ (sT λBQ=>nW λUs Bp=>?_);refine wpAny_assign_Name (hk.put Ax (cN p kI) ar λc9 pQ ou=>?_);have la:=nP.trans ou;have rj:T (j+1) c9.heap:=aW.frame _ _ _ mQ (nE nP (uE hk) ou);refine Bp _ _ (wpAny_mono (turn j p m' aa hinv s₀ W₀ dM a3 A c9 _ ai pQ) (λf gD o=>?_) λ_ _ e=>e);have nc:∀gb fg,b1 w s₀ env W₀ gb dM fg gD->bC (b4 env ((x,p)::m') a3) (b4 env fg gb) c9 gD->inv (j+1) fg->∃k,k < ps.length+1 - j/\∃hN,k=ps.length+1 - hN/\hN<=ps.length/\p3 hN gD:=λgb fg gH fL hi=>
   ⟨ps.length+1 - (j+1),by exact Nat.sub_lt_sub_left (Nat.lt_succ_of_lt ‹_›) (Nat.lt_succ_self _),j+1,rfl,cu,gb,fg,gH,hi,aW.frame _ _ _ rj (nE la (uE pQ) fL),la.trans fL⟩
  induction f with
  |next=>refine bj o λgb fg gH fL hi=>?_;exact nc gb fg gH fL hi
  |cont=>refine bj o λgb fg gH fL hi=>?_;exact nc gb fg gH fL hi
  |brk=>refine bj o λgb fg gH fL hi=>?_;exact⟨gb,fg,back gH,la.trans fL,hi⟩
  |ret v=>exact o
 ·have q2:j=ps.length:=by exact Nat.le_antisymm ‹_› (Nat.not_lt.mp ‹_›)
  subst q2;refine aW.done s' _ _ jq λh' tk cj=>?_;have uQ:∀a,J a->a∉wr:=λa af q=>by
   refine aP (dp a af) λo e=>?_;exact kF a o e q
  have vf:b1 w s₀ env W₀ a3 J m' {s' with heap:=h',toks:=tk}:=by
   refine aS.qx (λa af=> .inl af) ⟨h',tk,rfl⟩ (λb o I _ e=>cj b o (λq=>I (.inr q)) e) ?_ λa af=>?_
   ·exact aS.dJ.chg (X:=λa=>a∈wr) aS.st.g (λa af=>⟨(aS.ec a (.inr af)).1,dC _ _ jq a af⟩) λb o I e=>cj b o I e
   ·refine e9 λfs cD=>?_;refine aE (aS.st.low a (.dw (.inl af))) λa7 _=>?_;refine ah a7 λo e cF=>?_;refine cD ?_;exact⟨o,cj a o (uQ a af) e,cF⟩
  exact jZ _ _ (wpAny_mono (done m' hinv s₀ W₀ J a3 A _ _ ai vf) (λf b2 o=>o.pre (oN h' tk cj)) λ_ _ e=>e)
theorem tu{x:Str}{iter:Expr}(inv:Nat->Loc->Prop)(hit:Ev prog w n env m iter q)(f9:cw prog w q ps)(aG:cb q)(cN:∀p∈ps,cb p)
  (ar:env.kindOf x=some .local\/(env.kindOf x=some .cell/\(env.cells.lookup x).isSome=true)) (h0:inv 0 m)
  (turn:∀j p m',ps[j]? =some p->inv j m'->bg prog w n env ((x,p)::m') body (AF (inv (j+1)) Φ))
  (done:∀m',inv ps.length m'->bg prog w n env m' orelse Φ) (hs:∀v,foldedSetIterable iter env v=pure v):df prog w n env m (.For (.Name x px) iter body orelse pos) Φ:=λs₀ W₀ J ad A s E ai F=>by
 refine wpAny_For (hit _ A s _ E ai F.st λi9 au aq az aF=>?_) hs;have aX:=F.ext az aF;refine f9 _ A au i9 _ E (ai.le (c0 _)) aF aX.st.low aq λbh fp wr P T aL aR aY aW bE fb dP dC kf b5=>?_;have bp:b1 w s₀ env W₀ ad (λa=>J a\/a∈wr) m aL:=aX.nL aR aY (λa af=> .inl af) λa af aN=>by
  have af:=af.resolve_left aN;exact⟨fb a af,dC 0 _ bE a af,(dP a (aW.sub a af)).2⟩
 refine codeAny_mono (DR (E:=E) inv ai aF (λa af=>(aX.st.low a (.dw af)).1.elim λo h=>⟨o,h.1⟩) bp (.ext aR) aW bE fb (λb I=>(dP b I).2) dC (λb I=>(kf b I).imp id λRm=>aE Rm λa c=>⟨a,c aG⟩) b5 cN ar h0 turn done) λr s' o=>?_;induction r with
 |error e=>exact o
 |ok f=>exact o.pre (.ext az)
end
section
variable {prog:Program} {w:World} {n:Nat} {env:Env} {m:Loc} {Φ:dn->Loc->Prop}
theorem DC:nsIn (KF w) 3 "iter"=some none:=by kernel_rfl
theorem IY:nsIn (KF w) 3 "_initial_missing"=some (some (.ref 65)):=by kernel_rfl
theorem JB:entryFor table "iter"=some Builtin.«iter»:=entryFor_of_fast (by kernel_rfl)
theorem Ki(a:Value):argsOk "iter" ⟨[a],[]⟩:=by unfold argsOk;kernel_rfl
theorem Ky{v:Value}(h:wpAny (model prog w) A.in1 (pyIter v) Q E s):wpAny (model prog w) A (call (.builtin "iter") [v]) Q E s:=by
 refine call_function_tree (by kernel_rfl) (by kernel_rfl) JB (Ki _) ?_;unfold Builtin.«iter»;refine aH (m:=someArgs "iter" 1 2 _) (wpAny_of_eq (a:=[v]) (by rfl) ?_);exact aH (wpAny_mono h (λx s' ag=>bu ag) λ_ _ e=>e)
theorem PA(w:World):(KF w).lookup 65=some {cls:= .type "object"}:=by kernel_rfl
theorem H2{l:List ak}:cA prog w (compareOp .Is) (.list l) (.val (.ref 65)) (.bool false):=λW A s _ _ Q E r g low fm aO h=>by
 refine cg fm λa vs k e aW aj hs=>?_;subst e;rw[show _=Value.ref 65 from aO];have aD:=g.K _ _ (PA w);have bY:a≠65:=λq=>by
  rw[q] at aj;rw[aj] at aD;have bc:=congrArg (λo=>o.map (·.cls)) aD;exact absurd bc (by simp)
 show wpAny _ _ (do return Value.bool (<-isSame (.ref a) (.ref 65))) _ _ _;exact aH (wpAny_isSame_ref_other bY aj aD (λq=>by injection q with q;exact absurd q (by decide)) (bu (h _ _ rfl (.refl s) g)))
end
variable {kX u:Tok}
def ot(Q:Value->Shared->Prop)(E:Value->Shared->Prop)(r:Result)(s':Shared):Prop:=match r with | .ok (.ret v)=>Q v s' | .ok _=>False | .error e=>E e s'
theorem Ds{f c:Addr}{o:Obj}{sc:Scope}{J:Addr->Prop}
  (Og:A.depth < recursionLimit) (F:sA w f c names o cP fd body il kX sc kq) (hlen:args.length=names.length) (cN:dA args)
  (same:∃h tk,s={s₀ with heap:=h,toks:=tk}) (lH:gd s₀.heap s.heap) (dJ:G w s₀.heap) (g:G w s.heap) (e8:eB W₀ s₀.heap) (a0:∀a,J a->s₀.heap.get? a=none/\(∃o,s.heap.get? a=some o/\cx o)/\¬cf a)
  (jK:∀(cI:List (Str×Value)->Shared->Prop) (c5:Value->Shared->Prop),(∀eh au,bJ w au.heap (λa=>W₀ a\/J a) args eh->Ext s au->G w au.heap->cI (names.zip eh) au)->wpAny (model prog w) A.in1 (bindArgs fd ⟨vs,[]⟩) cI c5 s)
  (h:∀(env:Env) (au:Shared),c6 env sc->env.code= .ref c->env.qual=kq++".<locals>."->env.frame=some env.locals->b1 w s₀ env W₀ (λ_=>0) J (names.zip args) au->Ext s au->s.heap.get? env.locals=none->(∀nm ru,env.cells.lookup nm=some ru->s.heap.get? ru=none)->
   wpAny (model prog w) (A.deeper env) (execs body env) (λej s'=>Q (match ej with | .ret v=>v |_=> .none) s') (λ_ _=>False) au):codeAny (model prog w) A (.call (.ref f) ⟨vs,[]⟩) (ot Q E) s:=by
 obtain⟨q9,hd,U,QX,dC,uZ,I,bo,PX,u4,uX,EM,iT,qM,qN,jV,SX,pd⟩:=F;have aj:=g.K _ _ q9;have rh:=g.K _ _ QX;subst jV SX;refine(codeAny_call_function Og aj hd qM qN I ⟨c,cP,il,kX,U,rh,dC,uZ⟩ ?_);refine jK _ _ λeh iJ bb ct kn=>?_;have sP:eh.length=names.length:=by rw[<-bb.len,hlen]
 rw[PX];refine wpAny_newFunctionEnv_cells iT (λx ag=>?_) λVk he au X=>?_
 ·refine EM _ x.1 ?_;have:=fO (f:=(·.1)) ag
  rwa [vG sP] at this
 ·subst he;refine⟨kn.lim.keeps X.toInCall.keep,codeAny_func ?_⟩
  let env:=callEnvC fd iJ.heap.objs.size f
  have ax:env.locals=iJ.heap.objs.size:=rfl;have cJ:∀x,env.kindOf x=fd.scope.names.lookup x:=λx=>rfl;refine cn X.toInCall.same λh₁ sa jh=>?_;have keep:=X.toInCall.keep;have aF:G w au.heap:=kn.keeps keep;have et:∀n c,env.cells.lookup n=some c->iJ.heap.get? c=none/\c≠env.locals:=λn c U=>by
   have this:iJ.heap.objs.size < c:=X.above n c (mem_of_lookup U);refine⟨?_,λq=>?_⟩
   ·induction e:iJ.heap.get? c with
    |none=>rfl
    |some o=>have ab:=lt_size e;exact absurd ab (Nat.not_lt.mpr (Nat.le_of_lt this))
   ·rw[q,ax] at this;exact Nat.lt_irrefl _ this
  have sz:iJ.heap.get? env.locals=none:=by rw[ax];exact er _
  have B2:gd s₀.heap iJ.heap:=lH.trans ct.keep;have old:∀b,iJ.heap.get? b=none->s.heap.get? b=none:=λb I=>by
   induction e:s.heap.get? b with
   |none=>rfl
   |some o=>rw[ct.keep _ _ (kn.fu I) e] at I;injection I
  have EA:∀b,iJ.heap.get? b=none->s₀.heap.get? b=none:=λb I=>by
   induction e:s₀.heap.get? b with
   |none=>rfl
   |some o=>rw[B2 _ _ (kn.fu I) e] at I;injection I
  have BA:∀a,J a->∃o,iJ.heap.get? a=some o/\cx o:=λa af=>cB (a0 a af) λ_ Qb aM=>ah Qb λo e cF=>⟨o,ct.keep _ _ aM e,cF⟩
  have F:b1 w s₀ env W₀ (λ_=>0) J (names.zip args) au:=by
   have t7:∀x,¬dm (names.zip args) x:=λx q=>by
    rcases q with⟨l,q⟩ |⟨ks,l,q⟩
    ·exact nt cN (p4 q)
    ·exact nt cN (p4 q)
   refine⟨?_,B2.trans (.of keep),dJ,⟨iT,u4,uX,aF,?_,kn.fu sz,λn c U=>kn.fu (et n c U).1,?_⟩,λx _ q=>absurd q (t7 x),λx q=>absurd q (t7 x),λa af=>⟨(a0 a af).1,λq=>?_,λnm ru kh q=>?_,λx q=>absurd q (t7 x)⟩,EA _ sz,λn c U=>⟨EA _ (et n c U).1,(et n c U).2⟩,?_,e8,⟨_,X.toInCall.ns⟩,λn c U=>⟨_,X.cell n c U⟩,λx q aG=>(nt cN (p4 aG)).o⟩
   ·refine cn same λab t1 dy=>?_;refine cn ct.same λae e7 bN=>?_;exact⟨h₁,sa,by rw[jh,bN,dy]⟩
   ·intro a af;rcases af with af |af |⟨nm,af⟩ |⟨x,q,_⟩ |af
    ·refine aE (e8 a af) λaU I=>?_;refine ah aU λo e cF=>?_;exact⟨⟨o,keep _ _ (B2 _ _ I e),cF⟩,I⟩
    ·refine⟨?_,kn.fu (af▸sz)⟩;refine ah (my X.toInCall.ns) λo aj hd=>?_;exact⟨o,af▸aj,.inr hd⟩
    ·refine ah (tm (X.cell nm a af)) λo aj hd=>?_;exact⟨⟨o,aj,.inr hd⟩,kn.fu (et nm a af).1⟩
    ·exact absurd q (t7 x)
    ·refine ah (BA a af) λo e cF=>?_;exact⟨⟨o,keep _ _ e,cF⟩,(a0 a af).2.2⟩
   ·intro x q aG;refine ah (CT bb aG) λv hm aq=>?_;have o2:((names.zip eh).map (·.1)).Nodup:=by rw[vG sP];exact bo
    refine⟨v,?_,?_⟩
    ·have m3:x∈names:=by
      have:=fO (f:=(·.1)) hm
      rwa [vG sP] at this
     rcases EM iJ.heap.objs.size x m3 with ao |⟨ao,U⟩
     ·exact .inl ⟨ao,_,X.toInCall.ns,Kc (k:=env.kindOf) ao _ _ o2 hm⟩
     ·refine aP (Option.isSome_iff_exists.mp U) λc U=>?_;refine .inr ⟨.inl ao,c,U,?_⟩;have pq:au.heap.IsCell c (bindC env.kindOf (names.zip eh) (λ_=>none) x):=X.cell x c U
      rwa [KI (k:=env.kindOf) (by rw[cJ,ao];decide) _ _ o2 hm] at pq
    ·have pj:=nt cN (p4 aG);refine aq.upd (λb o I _ e=>⟨keep _ _ e,λq=>?_⟩) pj;rcases q with q |q |⟨nm,q⟩ |⟨x,q,_⟩ |q
     ·exact I (.inl q)
     ·rw[q,sz] at e;injection e
     ·rw[(et nm b q).1] at e;injection e
     ·exact absurd q (t7 x)
     ·exact I (.inr q)
   ·refine ah (BA a af) λo e _=>?_;rw[q,sz] at e;injection e
   ·refine ah (BA a af) λo e _=>?_;rw[q,(et nm ru kh).1] at e;injection e
   ·intro n hZ c ab ae;exact name_of_addr X.apart (mem_of_lookup ab) (mem_of_lookup ae)
  have tR:∀y,fd.scope.names.lookup y≠some .free:=λy q=>by
   have:=List.all_eq_true.mp pd _ (mem_of_lookup q)
   (focus (injection this;done))
  have ba:c6 env fd.scope:=⟨λy k _ e=>e,λy q=>absurd q (tR y),λy q=>cellsFrom_some (.inr (q.resolve_right (tR y))),iT⟩
  have es:Ext iJ au:=⟨⟨h₁,sa,jh⟩,.of keep⟩
  refine wpAny_mono (h env au ba U rfl rfl F (ct.trans es) (old _ sz) λnm ru kh=>old _ (et nm ru kh).1) (λej s' o=>o) λ_ _ e=>e.elim
theorem dY.m1{f c:Addr}{p:ak}{o:Obj}{sc:Scope} 
  (F:sA w f c names o cP fd body il kX sc kq) (hlen:args.length=names.length) (cN:dA args) (hm:names.zip args=m)
  (jK:∀(W:Addr->Prop) (A:Around) (s:Shared) (vs:List Value) (cI:List (Str×Value)->Shared->Prop) (c5:Value->Shared->Prop),G w s.heap->eB W s.heap->bJ w s.heap W rX vs->(∀eh au,bJ w au.heap W args eh->Ext s au->G w au.heap->cI (names.zip eh) au)->wpAny (model prog w) A (bindArgs fd ⟨vs,[]⟩) cI c5 s)
  (h:∀env:Env,c6 env sc->env.code= .ref c->env.qual=kq++".<locals>."->env.frame=some env.locals->bg prog w n env m body (Hk p)):dY prog w (n+1) f rX p:=by
 subst hm;intro W A s vs Q E ai g low bb a4;have uC:(λa=>W a\/False)=W:=funext λa=>propext ⟨λq=>q.elim id False.elim,.inl⟩;refine wpAny_call (Ds (s₀:=s) (W₀:=W) (J:=λ_=>False) (args:=args) ai.lim F hlen cN ⟨s.heap,s.toks,rfl⟩ (.refl _) g g low (λ_ q=>q.elim) (λcI c5 aG=>jK W A.in1 s vs cI c5 g low bb λeh au ab ae aD=>aG eh au (by rw[uC];exact ab) ae aD) ?_);intro env au ba ab ae aD F az _ _;refine wpAny_mono (h env ba ab ae aD s W _ _ _ au (λ_ _=>False) ai.in F) (λej s' o=>?_) λ_ _ e=>e;induction ej with
 |next=>
  refine bj o λad m' aS _ aa=>?_;have aa:p= .none:=aa;subst aa;exact a4 _ _ rfl aS.r8 aS.st.g
 |brk=>refine bj o λ_ _ _ _ q=>?_;exact q.elim
 |cont=>refine bj o λ_ _ _ _ q=>?_;exact q.elim
 |ret v=>
  refine mO o λq a b c d e=>?_;have e:q=p:=e;subst e;exact a4 _ _ a c d
theorem dY.of{f c:Addr}{p:ak}{o:Obj}{sc:Scope} 
  (F:sA w f c names o cP fd body il kX sc kq) (jK:∀vs,vs.length=names.length->bindArgs fd ⟨vs,[]⟩=pure (names.zip vs)) (hlen:args.length=names.length) (cN:dA args) (hm:names.zip args=m)
  (h:∀env:Env,c6 env sc->env.code= .ref c->env.qual=kq++".<locals>."->env.frame=some env.locals->bg prog w n env m body (Hk p)):dY prog w (n+1) f args p:=
 dY.m1 F hlen cN hm (λW A s vs cI c5 g low bb a4=>wpAny_of_eq (jK vs (by rw[<-bb.len,hlen])) (a4 vs s bb (.refl s) g)) h
local macro_rules | `(tactic|walk_at"e")=> `(tactic|first
 |(with_reducible first
 |exact Ev.int |exact Ev.str |exact Ev.bool |exact Ev.none |exact a5 |exact p6 |exact rN |exact rP |exact yF |exact yB |exact J7 |exact tC |exact Dp |exact tw |exact Cs
 |(apply Ev.name;walk_at"e";kernel_rfl!)
 |(apply d6;walk_at"e";walk_at"e";walk_at"e")
 |(apply Ev.cmp;walk_at"e";walk_at"e";walk_at"e";with_unfolding_all rfl)
 |assumption
 |(apply bS;kernel_rfl!;walk_at"e"))
 |(apply p5<;>decide)
 |(apply vL<;>decide)
 |(apply qc;assumption;decide+kernel;kernel_rfl)
 |exact .inr ⟨by walk_at"e",ML (by assumption) (by kernel_rfl)⟩)
noncomputable def kN(b:Bool)(x:Str):Bool:=if b then false else if x=="" then false else if Txt.item x 0=="."||Txt.item x (-1)=="." then false else true
theorem Iy{x:Str}(h:(x==("":Str))=false):0 < x.length:=by
 rcases Nat.eq_zero_or_pos x.length with q |q
 ·have:x="":=by
   induction x with
   |mk c=>
    have:c= #[]:=Array.eq_empty_of_size_eq_zero q;subst this;rfl
  rw[this] at h;exact absurd h (by decide+kernel)
 ·exact q
theorem zd{x:Str}{b:Bool}(I:kj x=some b)(ag:x.length<=1000):dY prog w 1 50 [.str x] (.bool (kN b x)):=by
 refine dY.of (names:=["text"]) (m:=[("text",.str x)]) (c:=49) (by exact⟨rfl,rfl,rfl,rfl,rfl,rfl,rfl,ee (by kernel_rfl),rfl,rfl,rfl,kinds_of (by kernel_rfl),rfl,rfl,rfl,by dsimp only,by dsimp only,by kernel_rfl⟩) (bind1 λa=>by exact rfl) (by exact rfl) ⟨trivial,trivial⟩ (by exact rfl) ?_;intro env ba d8 fw d3;have hz:x.length<=sizeLine:=Nat.le_trans ag (by decide);refine bg.cons (j7 (Jf (by walk_at"e") (by walk_at"e") I hz (by exact rfl) (by exact rfl)) (λab=>?_) λab=>?_)
 ·exact bg.cons (df.ret (p:= .bool false) (by walk_at"e") trivial (by show ak.bool false=_;rw[kN,aQ ab]))
 ·refine bg.nil ?_;refine bg.cons (j7 (by exact bV.cmp (by walk_at"e") (by walk_at"e") (by walk_at"e") (by with_unfolding_all rfl)) (λae=>?_) λae=>?_)
  ·exact bg.cons (df.ret (p:= .bool false) (by walk_at"e") trivial (by show ak.bool false=_;rw[kN,ab,aI (by decide),aQ ae]))
  ·refine bg.nil ?_;have aa:=Iy ae;refine bg.cons (j7 (rY (x:=Txt.item x 0==".") (y:=Txt.item x (-1)==".") (bV.cmp (Ev.item (by walk_at"e") (by walk_at"e") Typed.str F.slot_str_getitem.lookup (vH (by walk_at"o") (by walk_at"o") hz) λ_ _=>rfl) (by walk_at"e") tC (by with_unfolding_all rfl))
    λ_=>bV.cmp (Ev.item (by walk_at"e") (k1 Ev.int) Typed.str F.slot_str_getitem.lookup (vH (by walk_at"o") (by walk_at"o") hz) λ_ _=>rfl) (by walk_at"e") tC (by with_unfolding_all rfl)) (λaD=>?_) λaD=>?_)
   ·exact bg.cons (df.ret (p:= .bool false) (by walk_at"e") trivial (by show ak.bool false=_;rw[kN,ab,aI (by decide),ae,aI (by decide),aQ aD]))
   ·exact bg.nil (bg.cons (df.ret (p:= .bool true) (by walk_at"e") trivial (by show ak.bool true=_;rw[kN,ab,aI (by decide),ae,aI (by decide),aD];rfl)))
noncomputable def lp(a b:Str)(ho xD:Bool):Bool:=
 if a==b then true else if !kN ho a then false else if Txt.rfind a b== -1||Txt.rfind a b==0 then false else if !Txt.startswith b "." then false else if !kN xD (Txt.slice b (some 1) none) then false else true
theorem O8{x y:Str}{ho xD:Bool}(ag:x.length<=100)(av:y.length<=100)(GA:(Txt.lower x).length<=100)(Rz:(Txt.lower y).length<=100)
  (sD:kj (Txt.lower x)=some ho) (SQ:kj (Txt.slice (Txt.lower y) (some 1) none)=some xD):dY prog w 2 57 [.str x,.str y] (.bool (lp (Txt.lower x) (Txt.lower y) ho xD)):=by
 refine dY.of (names:=["A","B"]) (m:=[("A",.str x),("B",.str y)]) (c:=56) (by exact⟨rfl,rfl,rfl,rfl,rfl,rfl,rfl,ee (by kernel_rfl),rfl,rfl,rfl,kinds_of (by kernel_rfl),rfl,rfl,rfl,by dsimp only,by dsimp only,by kernel_rfl⟩) (r7 λa b=>by exact rfl) (by exact rfl) ⟨trivial,trivial,trivial⟩ (by exact rfl) ?_;intro env ba d8 fw d3;generalize af:Txt.lower x=a at*;generalize I:Txt.lower y=b at*;refine bg.cons (jb (p:= .str a) (af▸jF Ew (by walk_at"e") Typed.str aK.nil (CS (by exact bH ‹_› rfl)) rfl rfl rfl rfl) trivial (.inl (by walk_at"e")) ?_ rfl);refine bg.cons (jb (p:= .str b) (I▸jF Ew (by walk_at"e") Typed.str aK.nil (CS (by exact bH ‹_› rfl)) rfl rfl rfl rfl) trivial (.inl (by walk_at"e")) ?_ rfl);refine bg.cons (j7 (by exact bV.cmp (by walk_at"e") (by walk_at"e") (by walk_at"e") (by with_unfolding_all rfl)) (λab=>?_) λab=>?_)
 ·exact bg.cons (df.ret (p:= .bool true) (by walk_at"e") trivial (by show ak.bool true=_;rw[lp,aQ ab]))
 refine bg.nil (bg.cons (j7 (bV.not (bV.plain (Ev.call (fC (by walk_at"e") yZ (by decide+kernel)) (.inr (.inr ⟨50,_,_,rfl,rfl,rfl⟩)) (aK.cons (by walk_at"e") aK.nil rfl) ((zd sD (by exact bH ‹_› rfl)).cl.le (by decide)) rfl rfl) gR.bool λ_=>rfl)) (λae=>?_) λae=>?_))
 ·exact bg.cons (df.ret (p:= .bool false) (by walk_at"e") trivial (by show ak.bool false=_;rw[lp,ab,aI (by decide),aQ ae]))
 refine bg.nil (bg.cons (jb (p:= .int (Txt.rfind a b)) (jF NL (by walk_at"e") Typed.str (aK.cons (by walk_at"e") aK.nil rfl) JL rfl rfl rfl rfl) trivial (.inl (by walk_at"e")) ?_ rfl));refine bg.cons (j7 (rY (x:=Txt.rfind a b== -1) (y:=Txt.rfind a b==0) (bV.cmp (by walk_at"e") (k1 Ev.int) rP (by with_unfolding_all rfl)) λ_=>bV.cmp (by walk_at"e") Ev.int rP (by with_unfolding_all rfl)) (λaD=>?_) λaD=>?_)
 ·exact bg.cons (df.ret (p:= .bool false) (by walk_at"e") trivial (by show ak.bool false=_;rw[lp,ab,aI (by decide),ae,aI (by decide),aQ aD]))
 refine bg.nil (bg.cons (j7 (bV.not (bV.plain (jF I5 (by walk_at"e") Typed.str (aK.cons (by walk_at"e") aK.nil rfl) HY rfl rfl rfl rfl) gR.bool λ_=>rfl)) (λbc=>?_) λbc=>?_))
 ·exact bg.cons (df.ret (p:= .bool false) (by walk_at"e") trivial (by show ak.bool false=_;rw[lp,ab,aI (by decide),ae,aI (by decide),aD,aI (by decide),aQ bc]))
 refine bg.nil (bg.cons (j7 (bV.not (bV.plain (Ev.call (fC (by walk_at"e") yZ (by decide+kernel)) (.inr (.inr ⟨50,_,_,rfl,rfl,rfl⟩)) (aK.cons (yk (by walk_at"e") (by walk_at"e") (Nat.le_trans Rz (by decide))) aK.nil rfl) ((zd SQ (Nat.le_trans (Txt.slice_le _ _ _) (by exact bH ‹_› rfl))).cl.le (by decide)) rfl rfl) gR.bool λ_=>rfl)) (λdz=>?_) λdz=>?_))
 ·exact bg.cons (df.ret (p:= .bool false) (by walk_at"e") trivial (by show ak.bool false=_;rw[lp,ab,aI (by decide),ae,aI (by decide),aD,aI (by decide),bc,aI (by decide),aQ dz]))
 ·exact bg.nil (bg.cons (df.ret (p:= .bool true) (by walk_at"e") trivial (by show ak.bool true=_;rw[lp,ab,aI (by decide),ae,aI (by decide),aD,aI (by decide),bc,aI (by decide),dz,aI (by decide)])))
noncomputable def r4(ho:Bool)(h:Str):Str:=
 if decide (0<=Txt.find h ".") then
  if kN ho h&&(decide (0<=Txt.find (Txt.slice h (some (Txt.find h "."+1)) none) ".")||Txt.slice h (some (Txt.find h "."+1)) none=="local") then(".":Str)++Txt.slice h (some (Txt.find h "."+1)) none else h
 else h
theorem Mk{x:Str}{ho:Bool}(ag:x.length<=100)(sD:kj x=some ho):dY prog w 2 64 [.str x] (.str (r4 ho x)):=by
 refine dY.of (names:=["h"]) (m:=[("h",.str x)]) (c:=63) (by exact⟨rfl,rfl,rfl,rfl,rfl,rfl,rfl,ee (by kernel_rfl),rfl,rfl,rfl,kinds_of (by kernel_rfl),rfl,rfl,rfl,by dsimp only,by dsimp only,by kernel_rfl⟩) (bind1 λa=>by exact rfl) (by exact rfl) ⟨trivial,trivial⟩ (by exact rfl) ?_;intro env ba d8 fw d3;generalize hi:Txt.find x "."=i;refine bg.cons (jb (p:= .int i) (hi▸jF ER (by walk_at"e") Typed.str (aK.cons (by walk_at"e") aK.nil rfl) Cl.find rfl rfl rfl rfl) trivial (.inl (by walk_at"e")) ?_ rfl);refine bg.cons (j7 (by exact bV.cmp (by walk_at"e") (by walk_at"e") (by walk_at"e") (by with_unfolding_all rfl)) (λab=>?_) λab=>?_)
 ·generalize I:Txt.slice x (some (i+1)) none=b;have GD:b.length<=100:=I▸Nat.le_trans (Txt.slice_le _ _ _) ag;refine bg.cons (jb (p:= .str b) (I▸yk (by walk_at"e") (by walk_at"e") (Nat.le_trans ag (by decide))) trivial (.inl (by walk_at"e")) ?_ rfl);generalize aN:Txt.find b "."=j;refine bg.cons (jb (p:= .int j) (aN▸jF ER (by walk_at"e") Typed.str (aK.cons (by walk_at"e") aK.nil rfl) Cl.find rfl rfl rfl rfl) trivial (.inl (by walk_at"e")) ?_ rfl);refine bg.cons (j7 (bV.and (x:=kN ho x) (y:=decide (0<=j)||b=="local") (bV.plain (Ev.call (fC (by walk_at"e") yZ (by decide+kernel)) (.inr (.inr ⟨50,_,_,rfl,rfl,rfl⟩)) (aK.cons (by walk_at"e") aK.nil rfl) ((zd sD (by exact bH ‹_› rfl)).cl.le (by decide)) rfl rfl) gR.bool λ_=>rfl)
   λ_=>rY (x:=decide (0<=j)) (y:=b=="local") (by exact bV.cmp (by walk_at"e") (by walk_at"e") (by walk_at"e") (by with_unfolding_all rfl)) λ_=>by exact bV.cmp (by walk_at"e") (by walk_at"e") (by walk_at"e") (by with_unfolding_all rfl)) (λae=>?_) λae=>?_)
  ·refine bg.cons (df.ret (p:= .str ((".":Str)++b)) (d6 (by walk_at"e") (by walk_at"e") (kZ ?_)) trivial (by show ak.str _=_;rw[r4,hi,aQ ab,I,aN,aQ ae]));have:((".":Str)).length=1:=by decide+kernel
   have hs:sizeLine=2 ^ 24:=rfl;walk_at"o"
  ·exact bg.nil (bg.nil (bg.cons (df.ret (p:= .str x) (by walk_at"e") trivial (by show ak.str _=_;rw[r4,hi,aQ ab,I,aN,ae];rfl))))
 ·exact bg.nil (bg.cons (df.ret (p:= .str x) (by walk_at"e") trivial (by show ak.str _=_;rw[r4,hi,ab];rfl)))
variable {dk:List Int}
theorem qa:nsIn (KF w) 3 "range"=some none:=by kernel_rfl
theorem D1:nsIn (KF w) 3 "sum"=some none:=by kernel_rfl
theorem nv:nsIn (KF w) 3 "len"=some none:=by kernel_rfl
noncomputable def cL{α:Type}(l:List α)(a b c:Option Int):List α:=let t:=sliceBounds a b c l.length;(sliceRange t.1 t.2.1 t.2.2).filterMap (l[·]?)
theorem rR{α:Type}(f:α->ak)(l:List α)(a b c:Option Int):pick (l.map f) a b c=(cL l a b c).map f:=by
 unfold pick cL;simp only[length_map,map_filterMap];congr 1;funext i;simp
theorem NH{α:Type}(l:List α)(a b c:Option Int):(cL l a b c).length<=(sliceRange (sliceBounds a b c l.length).1 (sliceBounds a b c l.length).2.1 (sliceBounds a b c l.length).2.2).length:=length_filterMap_le _ _
noncomputable def bases:List Int:=[350110,9630121,40210,10,40221]
noncomputable def cellAt(dk:List Int)(k:Nat):Int:=(bases.getD k 0+(cL dk (some (k:Nat)) none (some 5)).sum).fmod 100000000
noncomputable def cellsOf(dk:List Int):List Int:=(range 5).map (cellAt dk)
noncomputable def n2(f:Int->ak):ak->ak
 | .int k=>f k
 |_=> .none
noncomputable def oi(f:Str->ak):ak->ak
 | .str k=>f k
 |_=> .none
theorem qe{l:List Int}:cb (.list (cp l)):=j9 λp aa=>by
 refine ah (bA.mp aa) λi _ aU=>?_;subst aU;exact trivial
theorem d5{l:List Str}:cb (.list (aB l)):=j9 λp aa=>by
 refine ah (bA.mp aa) λi _ a7=>?_;subst a7;exact trivial
theorem L7(hz:dk.length<=1000):dY prog w 3 203 [.list (cp dk)] (.list (cp (cellsOf dk))):=by
 refine dY.of (names:=["script"]) (m:=[("script",.list (cp dk))]) (c:=202) (by exact⟨rfl,rfl,rfl,rfl,rfl,rfl,rfl,ee (by kernel_rfl),rfl,rfl,rfl,kinds_of (by kernel_rfl),rfl,rfl,rfl,by dsimp only,by dsimp only,by kernel_rfl⟩) (bind1 λa=>by exact rfl) (by exact rfl) ⟨qe,trivial⟩ (by exact rfl) ?_;intro env ba d8 fw d3;have de:sizeLine=2 ^ 24:=rfl;refine bg.cons (df.ret (kr (x:="k") (c:=false) (mf:=[("script",.list (cp dk))]) (t:=λ_=>true) (f:=n2 λk=> .int (cellAt dk k.toNat)) ba
  (Ev.call (ft (by walk_at"e") qa (by exact rfl) (by decide+kernel) (by kernel_rfl)) (.inr (.inl ⟨"range",rfl⟩)) (aK.cons Ev.int aK.nil rfl) rM rfl rfl)
  (cw.gY (a:=0) (b:=5) (c:=1) (by kernel_rfl) (by decide+kernel)) ⟨λ_ _=>rfl,λ_=>rfl,by kernel_rfl,by kernel_rfl,by decide+kernel,rfl⟩ ?_ (by decide+kernel) ?_ (λp _ cenv _=>fX.nil) ?_ (λ_=>rfl)) ?_ ?_)
 ·intro y p h;rw[di] at h;replace h:=h;split at h
  ·rename_i av;obtain rfl:=bT h;rw[eq_of_beq av];exact⟨a5,by kernel_rfl⟩
  ·injection h
 ·intro p aa _;refine ah (bA.mp aa) λi _ bk=>?_;subst bk;exact trivial
 ·intro p aa _ cenv dQ;refine ah (bA.mp aa) λi hi bz=>?_;subst bz;have pJ:i < 5:=by
   have d4:iy 0 5 1=5:=by kernel_rfl
   rw[d4] at hi;exact List.mem_range.mp hi
  have dN:(0:Int)+(i:Nat)*1=i:=by walk_at"o"
  rw[dN];show Ev prog w 2 cenv _ _ (.int (cellAt dk (i:Int).toNat));rw[Int.toNat_natCast];refine d6 (d6 (p:= .int (bases.getD i 0)) (q:= .int (cL dk (some (i:Nat)) none (some 5)).sum) (z:= .int (bases.getD i 0+(cL dk (some (i:Nat)) none (some 5)).sum)) ?_ ?_ p6) Ev.int (p5 (by decide))
  ·refine Ev.item (Ev.list (ps:=cp bases) (aK.cons Ev.int (aK.cons Ev.int (aK.cons Ev.int (aK.cons Ev.int (aK.cons Ev.int aK.nil rfl) rfl) rfl) rfl) rfl) (by decide)) (k:= .int i) (by walk_at"e") Typed.list fD.lookup (cA.item (by exact Int.natCast_nonneg _) ?_ (by decide)) λ_ _=>rfl;rw[Int.toNat_natCast];simp only[cp,getElem?_map,List.getD];have:i < bases.length:=pJ;rw[cm this];rfl
  ·refine Ev.call (ps:=[.list (cp (cL dk (some (i:Nat)) none (some 5)))]) (ft (by walk_at"e") D1 (by exact rfl) (by decide+kernel) (by kernel_rfl)) (.inl ⟨"sum",rfl⟩) (aK.cons ?_ aK.nil rfl) (Cl.sum cw.list) rfl rfl;show Ev prog w 2 cenv _ _ (.list ((cL dk (some (i:Nat)) none (some 5)).map .int));rw[<-rR];refine tr (a:=some (i:Nat)) (b:=none) (c:=some 5) (by walk_at"e") (show Ev _ _ _ _ _ _ _ by walk_at"e") trivial (show Ev _ _ _ _ _ _ _ from Ev.int) (by decide) (by(rw[bO];exact bH ‹_› rfl))
 ·show dA _;refine j9 λp aa=>?_;refine ah (bA.mp aa) λq aG b7=>?_;subst b7;refine ah (bA.mp (List.mem_filter.mp aG).1) λi _ cC=>?_;subst cC;exact trivial
 ·show ak.list _=ak.list _;rfl
abbrev bM(m:Loc)(x:Str)(p:ak):Prop:=List.lookup x m=some p
noncomputable def wF:List Str:=["xlocal","local","c7","7","com."]
noncomputable def jP(cell size:Int):Int:=((cell.fdiv size).fmod 10).fmod 4
noncomputable def lN(cell size:Int)(l:List Str):List Str:=if jP cell size != 0 then [Txt.item "aB7" (jP cell size - 1)]++l else l
noncomputable def r2(cell:Int):List Str:=[Txt.item "aB7" (((cell.fdiv 10).fmod 10).fmod 3),wF.getD (cell.fmod 5).toNat ""]
noncomputable def gz(cell:Int):List Str:=lN cell 1000 (lN cell 100 (r2 cell))
theorem L3{Φ:dn->Loc->Prop}(h:∀Ψ,Φ=Ψ->bg prog w n env m ss Ψ):bg prog w n env m ss Φ:=h Φ rfl
theorem Nh:(("aB7":Str)).length=3:=by decide+kernel
theorem KH{cell size:Int}{l:List Str}:(lN cell size l).length<=l.length+1:=by
 unfold lN;split
 ·simp
 ·exact Nat.le_add_right _ _
theorem jH{a b:List Str}:aB (a++b)=aB a++aB b:=map_append
theorem cz{a:List Str}:(aB a).length=a.length:=bO ..
theorem J5{cell:Int}:dY prog w 3 210 [.int cell] (.list (aB (gz cell))):=by
 refine dY.of (names:=["cell"]) (m:=[("cell",.int cell)]) (c:=209) (by exact⟨rfl,rfl,rfl,rfl,rfl,rfl,rfl,ee (by kernel_rfl),rfl,rfl,rfl,kinds_of (by kernel_rfl),rfl,rfl,rfl,by dsimp only,by dsimp only,by kernel_rfl⟩) (bind1 λa=>by exact rfl) (by exact rfl) ⟨trivial,trivial⟩ (by exact rfl) ?_;intro env ba d8 fw d3;have de:sizeLine=2 ^ 24:=rfl;have rp:=Int.fmod_nonneg_of_pos ((cell.fdiv 10).fmod 10) (show(0:Int) < 3 by decide);have VR:=Int.fmod_lt_of_pos ((cell.fdiv 10).fmod 10) (show(0:Int) < 3 by decide);have xK:=Int.fmod_nonneg_of_pos cell (show(0:Int) < 5 by decide);have Vx:=Int.fmod_lt_of_pos cell (show(0:Int) < 5 by decide);have ox:=Nh;refine bg.cons (jb (p:= .list (aB (r2 cell))) (Ev.list (aK.cons (Ev.item Ev.str (by walk_at"e") Typed.str F.slot_str_getitem.lookup (vH (by omega) (by omega) (by exact fW rfl)) λ_ _=>rfl)
  (aK.cons (Ev.item (Ev.tuple (ps:=aB wF) (aK.cons Ev.str (aK.cons Ev.str (aK.cons Ev.str (aK.cons Ev.str (aK.cons Ev.str aK.nil rfl) rfl) rfl) rfl) rfl) (by decide)) (by walk_at"e") Typed.tup F.slot_tuple_getitem.lookup (I6 xK ?_ (by decide)) λ_ _=>rfl) aK.nil rfl) rfl) (show(2:Nat)<=_ by decide)) d5 (.inl (by walk_at"e")) ?_ rfl)
 ·have:(cell.fmod 5).toNat < wF.length:=by show _ < 5;omega
  rw[d7,List.getD,cm this];rfl
 ·let L:Nat->List Str:=λj=>match j with |0=>r2 cell |1=>lN cell 100 (r2 cell) |_=>gz cell
  let ig:Nat->Loc->Prop:=λj m'=>bM m' "cell" (.int cell)/\bM m' "labels" (.list (aB (L j)))
  refine bg.cons (tu (ps:=[.int 100,.int 1000]) (q:= .tup [.int 100,.int 1000]) ig (Ev.tuple (aK.cons Ev.int (aK.cons Ev.int aK.nil rfl) rfl) (by decide)) cw.tup ⟨trivial,trivial,trivial⟩ (λp aa=>by simp at aa;rcases aa with rfl |rfl<;>exact trivial) (.inl (by walk_at"e")) ⟨by walk_at"e",a5⟩ ?_ ?_ (λ_=>rfl))
  ·intro j p m' aa ⟨U,ao⟩;have key:∃size:Int,p= .int size/\size≠0/\size.natAbs < 1073741824/\L (j+1)=lN cell size (L j)/\(L j).length<=10:=by
    match j,aa with
    |0,aa=>obtain rfl:=bT aa;exact⟨100,rfl,by decide,by decide,rfl,by show(2:Nat)<=10;decide⟩
    |1,aa=>obtain rfl:=bT aa;exact⟨1000,rfl,by decide,by decide,rfl,Nat.le_trans KH (by show(3:Nat)<=10;decide)⟩
    |j+2,aa=>injection aa
   refine mO key λsize aU s0 s1 oZ hlen=>?_;subst aU;have vv:=Int.fmod_nonneg_of_pos ((cell.fdiv size).fmod 10) (show(0:Int) < 4 by decide);have Hi:=Int.fmod_lt_of_pos ((cell.fdiv size).fmod 10) (show(0:Int) < 4 by decide);refine bg.cons (j7 (c:=jP cell size != 0) (bV.cmp (p:= .int (jP cell size)) (d6 (d6 (d6 (by walk_at"e") (by walk_at"e") (vL s0 s1)) Ev.int (p5 (by decide))) Ev.int (p5 (by decide))) Ev.int yF (by with_unfolding_all rfl)) (λh=>?_) λh=>?_)
   ·have bY:jP cell size≠0:=by simpa using h
    have vv:0<=jP cell size:=vv;have Hi:jP cell size < 4:=Hi;refine bg.cons (jb (p:= .list (aB (L (j+1)))) ?_ d5 (.inl (by walk_at"e")) (bg.nil (bg.nil ⟨?_,?_⟩)) rfl)
    ·rw[oZ,lN,aQ h,jH];refine d6 (Ev.list (aK.cons (Ev.item Ev.str (k:= .int (jP cell size - 1)) (d6 (p:= .int (jP cell size)) (d6 (d6 (d6 (by walk_at"e") (by walk_at"e") (vL s0 s1)) Ev.int (p5 (by decide))) Ev.int (p5 (by decide))) Ev.int rN) Typed.str F.slot_str_getitem.lookup (vH (by omega) (by omega) (by exact fW rfl)) λ_ _=>rfl) aK.nil rfl) (show(1:Nat)<=_ by decide)) (by walk_at"e") (ts (by simp;omega))
    ·walk_at"e"
    ·walk_at"e"
   ·refine bg.nil (bg.nil ⟨by walk_at"e",?_⟩);rw[oZ,lN,aI (by rw[h];decide)];walk_at"e"
  ·intro m' ⟨_,ao⟩;exact bg.nil (bg.cons (df.ret (p:= .list (aB (gz cell))) (Ev.name ao (by decide+kernel)) d5 rfl))
noncomputable def kA(dZ:List Str):Int:=([(("xlocal":Str),(2:Int)),("c7",2),("local",1)].lookup (dZ.getD (dZ.length - 1) "")).getD dZ.length
noncomputable def kx(dZ:List Str):List Str:=(range (iy 0 ((dZ.length:Int) - kA dZ+1) 1)).map λk=>Builtin.Str.glued "." (cL dZ (some (k:Nat)) none none)
theorem M0{a b c x:Str}{i j k d:Int}:(dictAt [a,b,c] [.int i,.int j,.int k] x).getD (.int d)= .int (([(a,i),(b,j),(c,k)].lookup x).getD d):=by
 unfold dictAt;simp only[zip_cons_cons,zip_nil_right,List.lookup];cases x==a
 ·cases x==b
  ·(induction x==c)<;>rfl
  ·rfl
 ·rfl
theorem yP{N:Int}(h0: -1000<=N)(ab:N<=1000):Builtin.Range.small 0 N 1=true/\0<=Builtin.Range.rangeSize 0 N 1:=by
 refine⟨small_one (by walk_at"o") (by walk_at"o") (by walk_at"o") (by walk_at"o"),?_⟩;rw[rangeSize_one];split<;>walk_at"o"
theorem mX{sc:Scope}{x:Str}{p:ak}(h:m.lookup x=some p)(hf:sc.names.lookup x=some .free):∀y q,List.lookup y [(x,p)]=some q->m.lookup y=some q/\sc.names.lookup y=some .free:=by
 intro y q e;rw[di] at e;replace e:=e;split at e
 ·rename_i av;obtain rfl:=bT e;rw[eq_of_beq av];exact⟨h,hf⟩
 ·injection e
theorem sO{sc:Scope}:∀y q,List.lookup y ([]:Loc)=some q->m.lookup y=some q/\sc.names.lookup y=some .free:=λy q e=>by injection e
theorem w2{sc:Scope}{x:Str}{p r:ak}(h:m.lookup x=some p)(hf:sc.names.lookup x=some .free)(h':m.lookup z=some r)(gX:sc.names.lookup z=some .free):∀y q,List.lookup y [(x,p),(z,r)]=some q->m.lookup y=some q/\sc.names.lookup y=some .free:=by
 intro y q e;rw[di] at e;replace e:=e;split at e
 ·rename_i av;obtain rfl:=bT e;rw[eq_of_beq av];exact⟨h,hf⟩
 ·exact mX h' gX y q e
theorem filter_all{α:Type}{l:List α}:l.filter (λ_=>true)=l:=List.filter_eq_self.mpr λ_ _=>rfl
theorem Kt{dZ:List Str}(h0:0 < dZ.length)(sC:dZ.length<=10)(lX: -10<=kA dZ)(u6:kA dZ<=10)
  (aN:∀k:Nat,((cL dZ (some (k:Nat)) none none).toArray.foldl (· +·.length+((".":Str)).length) 0)<=sizeLine/\(Builtin.Str.glued "." (cL dZ (some (k:Nat)) none none)).length<=sizeLine):
  dY prog w 3 215 [.list (aB dZ)] (.list (aB (kx dZ))):=by
 refine dY.of (names:=["labels"]) (m:=[("labels",.list (aB dZ))]) (c:=214) (by exact⟨rfl,rfl,rfl,rfl,rfl,rfl,rfl,ee (by kernel_rfl),rfl,rfl,rfl,kinds_of (by kernel_rfl),rfl,rfl,rfl,by dsimp only,by dsimp only,by kernel_rfl⟩) (bind1 λa=>by exact rfl) (by exact rfl) ⟨d5,trivial⟩ (by exact rfl) ?_;intro env ba d8 fw d3;have de:sizeLine=2 ^ 24:=rfl;have f6:(aB dZ).length<=sizeLine:=by rw[cz];walk_at"o"
 refine bg.cons (jb (p:= .int (kA dZ)) (M0▸jF z6 (JA (by decide+kernel)) Typed.dict (aK.cons (p:= .str (dZ.getD (dZ.length - 1) "")) (Ev.item (by walk_at"e") (k1 Ev.int) Typed.list fD.lookup (Cm (by decide) (by rw[cz];walk_at"o") ?_ f6) λ_ _=>rfl)
  (aK.cons (p:= .int dZ.length) (Ev.call (ft (by walk_at"e") nv (by exact rfl) (by decide+kernel) (by kernel_rfl)) (.inl ⟨"len",rfl⟩) (aK.cons (by walk_at"e") aK.nil rfl) (cz (a:=dZ)▸Cl.len f6) rfl rfl) aK.nil rfl) rfl) J8 rfl rfl rfl rfl) trivial (.inl (by walk_at"e")) ?_ rfl)
 ·have e:(-1+((aB dZ).length:Int)).toNat=dZ.length - 1:=by rw[cz];walk_at"o"
  rw[e,d7,List.getD,cm (show dZ.length - 1 < dZ.length by walk_at"o")];rfl
 ·refine aE (yP (N:=(dZ.length:Int) - kA dZ+1) (by walk_at"o") (by walk_at"o")) λgG e3=>?_;refine bg.cons (df.ret (p:= .list (aB (kx dZ))) ?_ d5 rfl);have e:(.list (aB (kx dZ)):ak)= .list (((fR 0 ((dZ.length:Int) - kA dZ+1) 1).filter λ_=>true).map (n2 λk=> .str (Builtin.Str.glued "." (cL dZ (some k) none none)))):=by
   rw[filter_all];unfold kx fR;simp only[aB,List.map_map];congr 1;refine map_congr_left λi _=>?_;simp[n2]
  rw[e];refine kr (x:="k") (c:=false) (mf:=[("labels",.list (aB dZ))]) ba
   (Ev.call (ft (by walk_at"e") qa (by exact rfl) (by decide+kernel) (by kernel_rfl)) (.inr (.inl ⟨"range",rfl⟩)) (aK.cons (p:= .int ((dZ.length:Int) - kA dZ+1)) (d6 (d6 (p:= .int dZ.length) (Ev.call (ft (by walk_at"e") nv (by exact rfl) (by decide+kernel) (by kernel_rfl)) (.inl ⟨"len",rfl⟩) (aK.cons (by walk_at"e") aK.nil rfl) (cz (a:=dZ)▸Cl.len f6) rfl rfl) (by walk_at"e") rN) Ev.int p6) aK.nil rfl) rM rfl rfl)
   (cw.gY gG e3) ⟨λ_ _=>rfl,λ_=>rfl,by kernel_rfl,by kernel_rfl,by decide+kernel,rfl⟩ (mX (by walk_at"e") (by kernel_rfl)) ?_ ?_ (λp _ cenv _=>fX.nil) ?_ (λ_=>rfl)
  ·unfold fR iy;rw[rangeSize_one,bO,length_range];split<;>walk_at"o"
  ·intro p aa _;refine ah (bA.mp aa) λi _ aU=>?_;subst aU;exact trivial
  ·intro p aa _ cenv dQ;refine ah (bA.mp aa) λi hi a7=>?_;subst a7;have dN:(0:Int)+(i:Nat)*1=i:=by walk_at"o"
   rw[dN];refine jF OU Ev.str Typed.str (aK.cons (p:= .list (aB (cL dZ (some (i:Nat)) none none))) ?_ aK.nil rfl) (Cl.join (aN i).1 (aN i).2) rfl rfl rfl rfl;show Ev prog w 2 cenv _ _ (.list ((cL dZ (some (i:Nat)) none none).map .str));rw[<-rR];exact tr (a:=some (i:Nat)) (b:=none) (c:=none) (by walk_at"e") (show Ev _ _ _ _ _ _ _ by walk_at"e") trivial trivial (by decide) f6
noncomputable def pF(d:Str->Bool):ak->Bool
 | .str x=>d x
 |_=>false
theorem tZ{l:List Str}{d:Str->Bool}{g:Str->ak}:((aB l).filter (pF d)).map (oi g)=(l.filter d).map g:=by
 induction l with
 |nil=>rfl
 |cons x r aw=>
  show((ak.str x::aB r).filter (pF d)).map (oi g)=_;rw[filter_cons,filter_cons];show(if d x=true then _ else _:List ak).map _=_;cases d x
  ·exact aw
  ·show oi g (.str x)::_=_;rw[aw];rfl
theorem hv{l:List Str}{p:ak}(h:p∈aB l):∃x∈l,p= .str x:=by
 refine ah (bA.mp h) λx ag aU=>?_;subst aU;exact⟨x,ag,rfl⟩
theorem NJ{d1 d2:Str->Bool}(dr:host.length<=100)(aA:names.length<=1000)(ag:∀x∈names,x.length<=100)
  (ab:∀x∈names,dY prog w 2 57 [.str (Txt.upper host),.str x] (.bool (d1 x))) (ae:∀x∈names,dY prog w 2 57 [.str (Txt.upper host),.str ((".":Str)++x)] (.bool (d2 x))):
  dY prog w 3 234 [.str host,.list (aB names)] (.list (aB (names.filter d2++names.filter d1))):=by
 refine dY.of (names:=["host","names"]) (m:=[("host",.str host),("names",.list (aB names))]) (c:=233) (by exact⟨rfl,rfl,rfl,rfl,rfl,rfl,rfl,ee (by kernel_rfl),rfl,rfl,rfl,kinds_of (by kernel_rfl),rfl,rfl,rfl,by dsimp only,by dsimp only,by kernel_rfl⟩) (r7 λa b=>by exact rfl) (by exact rfl) ⟨trivial,d5,trivial⟩ (by exact rfl) ?_;intro env ba d8 fw d3;have de:sizeLine=2 ^ 24:=rfl;have hz:(aB names).length<=sizeLine:=by rw[cz];exact bH ‹_› rfl
 have dH:((".":Str)).length=1:=by kernel_rfl
 refine bg.cons (rI (x:="name") (c:=false) (q:= .list (aB names)) (ps:=aB names) (t:=pF λx=>d1 x==true) (f:=oi .str) (mf:=[("host",.str host)]) ba (by walk_at"e") cw.list ⟨λ_ _=>rfl,λ_=>rfl,by kernel_rfl,by kernel_rfl,by decide+kernel,rfl⟩ (mX (by walk_at"e") (by kernel_rfl)) hz
  (λp aa _=>?_) (λp aa cenv dQ=>?_) (λp aa _ cenv dQ=>?_) (.inl (by walk_at"e")) ?_ (p9 ba (by kernel_rfl) rfl (by kernel_rfl)) (λ_=>rfl))
 ·refine ah (hv aa) λx _ a7=>?_;subst a7;exact trivial
 ·refine ah (hv aa) λx sr bk=>?_;subst bk;exact fX.one (bV.cmp (Ev.call (fC (by walk_at"e") tS (by kernel_rfl)) (.inr (.inr ⟨57,_,_,rfl,rfl,rfl⟩)) (aK.cons (jF Ex (by walk_at"e") Typed.str aK.nil (CU (by exact bH ‹_› rfl)) rfl rfl rfl rfl) (aK.cons (by walk_at"e") aK.nil rfl) rfl) (ab x sr).cl rfl rfl) Ev.bool tw (by with_unfolding_all rfl))
 ·refine ah (hv aa) λx _ bz=>?_;subst bz;exact Ev.name a5 (by kernel_rfl)
 ·rw[tZ];have ax:names.filter (λx=>d1 x==true)=names.filter d1:=by congr 1;funext x;(induction d1 x)<;>rfl
  rw[ax];refine bg.cons (df.ret (p:= .list (aB (names.filter d2++names.filter d1))) ?_ d5 rfl);rw[jH];have aC:names.filter (λx=>d2 x==true)=names.filter d2:=by congr 1;funext x;(induction d2 x)<;>rfl
  have a8:(.list (aB (names.filter d2)):ak)= .list (((aB names).filter (pF λx=>d2 x==true)).map (oi .str)):=by rw[tZ,aC]
  refine d6 (p:= .list (aB (names.filter d2))) ?_ (by walk_at"e") (ts ?_)
  ·rw[a8];refine kr (x:="name") (c:=false) (mf:=[("host",.str host)]) ba (by walk_at"e") cw.list ⟨λ_ _=>rfl,λ_=>rfl,by kernel_rfl,by kernel_rfl,by decide+kernel,rfl⟩ (mX (by walk_at"e") (by kernel_rfl)) hz (λp aa _=>?_) (λp aa cenv dQ=>?_) (λp aa _ cenv dQ=>?_) (λ_=>rfl)
   ·refine ah (hv aa) λx _ b7=>?_;subst b7;exact trivial
   ·refine ah (hv aa) λx sr cC=>?_;subst cC;have:=ag x sr;exact fX.one (bV.cmp (Ev.call (fC (by walk_at"e") tS (by kernel_rfl)) (.inr (.inr ⟨57,_,_,rfl,rfl,rfl⟩)) (aK.cons (jF Ex (by walk_at"e") Typed.str aK.nil (CU (by exact bH ‹_› rfl)) rfl rfl rfl rfl) (aK.cons (d6 Ev.str (by walk_at"e") (kZ (by walk_at"o"))) aK.nil rfl) rfl) (ae x sr).cl rfl rfl) Ev.bool tw (by with_unfolding_all rfl))
   ·refine ah (hv aa) λx _ c2=>?_;subst c2;exact Ev.name a5 (by kernel_rfl)
  ·rw[cz,cz];have:=length_filter_le d1 names;have:=length_filter_le d2 names;walk_at"o"
variable {c3 ls:List (List Str)}
theorem MS:nsIn (KF w) 3 "zip"=some none:=by kernel_rfl
theorem lookup_miss{x y:Str}{p:ak}(h:(y==x)=false)(e:m.lookup y=none):List.lookup y ((x,p)::m)=none:=by rw[di,h];exact e
theorem jc{sc:Scope}(ba:c6 env sc):interactive env=false:=by unfold interactive;rw[ba.fn];rfl
noncomputable abbrev gu(kv:List (Str×Int)):List (Str×ak):=kv.map λz=>(z.1,.int z.2)
noncomputable abbrev mW(kv:List (Str×Int)):ak:=iC (gu kv)
noncomputable abbrev fx(kv:List (Str×Int)):ak:=rB (gu kv)
theorem Lk{kv:List (Str×Int)}{x:Str}{i:Int}:iO (gu kv) x (.int i)=gu (iO kv x i):=by
 unfold iO;have:((gu kv).any λz=>decide (z.1=x))=kv.any λz=>decide (z.1=x):=by
  rw[List.any_map];rfl
 rw[this];split
 ·rfl
 ·simp[gu]
theorem rS{kv:List (Str×Int)}:dA ((gu kv).map (·.2)):=j9 λp aa=>by
 simp only[gu,List.map_map] at aa;refine ah (bA.mp aa) λz _ aU=>?_;subst aU;exact trivial
noncomputable def v9(cell:Int)(k:Nat):Int:=(cell.fdiv (10 ^ (4+k))).fmod 10
noncomputable def j6(cell:Int)(k5:List Str)(kv:List (Str×Int))(j:Nat):List (Str×Int):=iO kv (k5.getD (k5.length - 1 - j) "") (v9 cell (k5.length - 1 - j))
noncomputable def kz(kv:List (Str×Int))(z:Int×List Str):List (Str×Int):=(range z.2.length).foldl (j6 z.1 z.2) kv
noncomputable def rU(cells:List Int)(c3:List (List Str)):List (Str×Int):=(cells.zip c3).foldl kz []
noncomputable abbrev bF(l:List (List Str)):List ak:=l.map λx=> .list (aB x)
theorem lF{l:List (List Str)}:cb (.list (bF l)):=j9 λp aa=>by
 refine ah (bA.mp aa) λi _ a7=>?_;subst a7;exact d5
theorem yK{kv:List (Str×Int)}{x:Str}{i:Int}:(iO kv x i).length<=kv.length+1:=by
 unfold iO;split
 ·exact Nat.le_add_right _ _
 ·simp
theorem Dy{α:Type}{f:List (Str×Int)->α->List (Str×Int)}{c:Nat}(h:∀kv a,(f kv a).length<=kv.length+c):∀(l:List α) (kv:List (Str×Int)),(l.foldl f kv).length<=kv.length+l.length*c:=by
 intro a9;induction a9 with
 |nil=>
  intro kv;simp
 |cons a r aw=>
  intro kv;rw[foldl_cons];have ab:=aw (f kv a);have ae:=h kv a;rw[dI,Nat.succ_mul];walk_at"o"
theorem small_down{L:Nat}(h:L<=1000):Builtin.Range.small ((L:Int) - 1) (-1) (-1)=true/\Builtin.Range.rangeSize ((L:Int) - 1) (-1) (-1)=L:=by
 have e:Builtin.Range.rangeSize ((L:Int) - 1) (-1) (-1)=L:=by
  unfold Builtin.Range.rangeSize;rw[aI (by decide)];simp only[Int.neg_neg,Int.ediv_one];split<;>walk_at"o"
 refine⟨?_,e⟩;unfold Builtin.Range.small;rw[e];simp only[Builtin.Range.rangeFitsLong,Bool.and_eq_true,Bool.or_eq_true,decide_eq_true_eq,beq_iff_eq];rw[aI (by decide)];simp only[decide_eq_true_eq,Bool.and_eq_true];walk_at"o"
theorem Ka{cells:List Int}(U:cells.length<=5)(ao:∀l∈c3,l.length<=5)(su:c3.length<=5):dY prog w 3 229 [.list (cp cells),.list (bF c3)] (fx (rU cells c3)):=by
 refine dY.of (names:=["cells","ladders"]) (m:=[("cells",.list (cp cells)),("ladders",.list (bF c3))]) (c:=228) (by exact⟨rfl,rfl,rfl,rfl,rfl,rfl,rfl,ee (by kernel_rfl),rfl,rfl,rfl,kinds_of (by kernel_rfl),rfl,rfl,rfl,by dsimp only,by dsimp only,by kernel_rfl⟩) (r7 λa b=>by exact rfl) (by exact rfl) ⟨qe,lF,trivial⟩ (by exact rfl) ?_;intro env ba d8 fw d3;have de:sizeLine=2 ^ 24:=rfl;have Oc:∀(kv:List (Str×Int)) (z:Int×List Str),z∈cells.zip c3->(kz kv z).length<=kv.length+5:=λkv z hz=>by
  have:=Dy (c:=1) (λkv a=>yK) (range z.2.length) kv (f:=j6 z.1 z.2);have ae:=ao z.2 (of_mem_zip hz).2;unfold kz;simp at this;walk_at"o"
 have MQ:∀(l:List (Int×List Str)) (kv:List (Str×Int)),(∀z∈l,z∈cells.zip c3)->(l.foldl kz kv).length<=kv.length+l.length*5:=λl=>by
  induction l with
  |nil=>intro kv _;simp
  |cons z r aw=>
   intro kv hz;rw[foldl_cons];have ab:=aw (kz kv z) λy av=>hz y (en _ av);have ae:=Oc kv z (hz z (cM ..));rw[dI,Nat.succ_mul];walk_at"o"
 refine bg.cons (yg (.inl (by walk_at"e")) (lookup_miss (by kernel_rfl) (lookup_miss (by kernel_rfl) rfl)) ?_ rfl);have sj:∀(j:Nat) (p q:ak),((cp cells).zip (bF c3))[j]? =some (p,q)->∃c l,(cells.zip c3)[j]? =some (c,l)/\p= .int c/\q= .list (aB l):=λj p q h=>by
  rw[zip_map,d7] at h;refine ah (Option.map_eq_some_iff.mp h) λbk ab ae=>?_;obtain⟨c,l⟩:=bk;cases ae
  exact⟨c,l,ab,rfl,rfl⟩
 have hlen:((cp cells).zip (bF c3)).length=(cells.zip c3).length:=by rw[zip_map,bO]
 refine bg.cons (CV (ps:=(cp cells).zip (bF c3)) (λj m'=>bM m' "price" (mW (((cells.zip c3).take j).foldl kz []))) (tY.zip (ft (by walk_at"e") MS (by exact rfl) (by decide+kernel) (by kernel_rfl)) (aK.cons (by walk_at"e") (aK.cons (by walk_at"e") aK.nil rfl) rfl) rfl rfl) ?_ (.inl (by walk_at"e")) (.inl (by walk_at"e")) a5 ?_ ?_ (λ_=>rfl))
 ·intro dg aa;obtain⟨p,q⟩:=dg;obtain⟨j,aN⟩:=getElem?_of_mem aa;refine bj (sj j p q aN) λc l _ bz b7=>?_;subst bz;subst b7;exact⟨trivial,d5⟩
 ·intro j p q m' q7 hinv;refine bj (sj j p q q7) λc l et cC c2=>?_;subst cC;subst c2;have iq:(c,l)∈cells.zip c3:=eP et;have w6:l.length<=5:=ao l (of_mem_zip iq).2;generalize fK:((cells.zip c3).take j).foldl kz []=kv at hinv;have FF:kv.length<=25:=by
   rw[<-fK];have:=MQ ((cells.zip c3).take j) [] λz hz=>mem_of_mem_take hz;have ae:((cells.zip c3).take j).length<=5:=by rw[length_take,length_zip];walk_at"o"
   simp only[length_nil] at this;walk_at"o"
  refine aE (small_down (L:=l.length) (by exact bH ‹_› rfl)) λgG e3=>?_;have f6:(aB l).length<=sizeLine:=by rw[cz];exact bH ‹_› rfl
  refine bg.cons (tu (q:= .gY ((l.length:Int) - 1) (-1) (-1)) (ps:=fR ((l.length:Int) - 1) (-1) (-1)) (λi dE=>bM dE "price" (mW ((range i).foldl (j6 c l) kv))/\bM dE "cell" (.int c)/\bM dE "ladder" (.list (aB l)))
   (Ev.call (ft (by walk_at"e") qa (by exact rfl) (by decide+kernel) (by kernel_rfl)) (.inr (.inl ⟨"range",rfl⟩)) (aK.cons (p:= .int ((l.length:Int) - 1)) (d6 (p:= .int l.length) (Ev.call (ft (by walk_at"e") nv (by exact rfl) (by decide+kernel) (by kernel_rfl)) (.inl ⟨"len",rfl⟩) (aK.cons (by walk_at"e") aK.nil rfl) (cz (a:=l)▸Cl.len f6) rfl rfl) Ev.int rN) (aK.cons (k1 Ev.int) (aK.cons (k1 Ev.int) aK.nil rfl) rfl) rfl) (Jj (by decide) ⟨by walk_at"o",by decide⟩) rfl rfl)
   (cw.gY gG (by rw[e3];exact Int.natCast_nonneg _)) trivial ?_ (.inl (by walk_at"e")) ⟨bS (by kernel_rfl) (bS (by kernel_rfl) hinv),by walk_at"e",by walk_at"e"⟩ ?_ ?_ (λ_=>rfl))
  ·intro p aa;refine ah (bA.mp aa) λi _ c1=>?_;subst c1;exact trivial
  ·intro i p dE aa ⟨l2,sH,jv⟩;have E1:i < l.length:=by
    have:=iL aa;simp only[fR,iy,length_map,length_range] at this;walk_at"o"
   have fS:p= .int (((l.length - 1 - i:Nat):Int)):=by
    simp only[fR,getElem?_map] at aa;refine ah (Option.map_eq_some_iff.mp aa) λdG ab ae=>?_;have:dG=i:=by
     rw[getElem?_range] at ab
     ·obtain rfl:=bT ab;rfl
     ·unfold iy;walk_at"o"
    subst this;rw[<-ae];congr 1;walk_at"o"
   subst fS;generalize RQ:l.length - 1 - i=dR;have Bg:dR < l.length:=by walk_at"o"
   generalize uz:(range i).foldl (j6 c l) kv=m4 at l2;have Ox:m4.length<=30:=by
    rw[<-uz];have:=Dy (c:=1) (λkv a=>yK) (range i) kv (f:=j6 c l);simp only[length_range] at this;walk_at"o"
   have Pt:(10:Int) ^ ((4:Int)+(dR:Nat)).toNat=10 ^ (4+dR):=by congr 1
   have E9:(10:Int) ^ (4+dR)≠0/\((10:Int) ^ (4+dR)).natAbs < 1073741824:=by
    have:dR=0\/dR=1\/dR=2\/dR=3\/dR=4:=by walk_at"o"
    rcases this with rfl |rfl |rfl |rfl |rfl<;>decide
   have item:bM (("k",.int (dR:Nat))::dE) "ladder" (.list (aB l)):=bS (by kernel_rfl) jv;refine bg.cons (x8 (p':=mW (j6 c l m4 i)) (ps:=[.str (l.getD dR ""),.int (v9 c dR)]) I3 (bS (by kernel_rfl) l2) (.inr ⟨_,_,rfl⟩) Typed.eH (aK.cons ?_ (aK.cons ?_ aK.nil rfl) rfl) ⟨trivial,trivial,trivial⟩ (show dA _ from rS) (.inr ⟨_,_,rfl⟩) ?_ (bg.nil ⟨?_,?_,?_⟩) rfl (by kernel_rfl) rfl rfl rfl ?_ rfl)
   ·refine Ev.item (k:= .int (dR:Nat)) (by walk_at"e") (by walk_at"e") Typed.list fD.lookup (cA.item (by exact Int.natCast_nonneg _) ?_ f6) λ_ _=>rfl;rw[Int.toNat_natCast,d7,List.getD,cm Bg];rfl
   ·have ae:bM (("k",.int (dR:Nat))::dE) "cell" (.int c):=bS (by kernel_rfl) sH;refine d6 (p:= .int (c.fdiv (10 ^ (4+dR)))) (d6 (q:= .int (10 ^ (4+dR))) (by walk_at"e") (Pt▸d6 Ev.int (d6 (q:= .int (dR:Nat)) Ev.int (by walk_at"e") p6) (JC (by walk_at"o") (by walk_at"o") (by decide))) (vL E9.1 E9.2)) Ev.int (p5 (by decide))
   ·have e:mW (j6 c l m4 i)=iC (iO (gu m4) (l.getD dR "") (.int (v9 c dR))):=by
     rw[Lk,j6,RQ]
    rw[e];exact HU (by simp;exact bH ‹_› rfl)
   ·show bM _ _ _;rw[range_succ,foldl_append,uz];exact a5
   ·exact bS (by kernel_rfl) (bS (by kernel_rfl) sH)
   ·exact bS (by kernel_rfl) (bS (by kernel_rfl) jv)
   ·exact jc ba
  ·intro dE ⟨ab,_,_⟩;refine bg.nil (bg.nil ?_);show bM _ _ _;have ax:(fR ((l.length:Int) - 1) (-1) (-1)).length=l.length:=by simp only[fR,iy,length_map,length_range];walk_at"o"
   rw[ax] at ab;rw[take_add_one,et,foldl_append,fK];exact ab
 ·intro m' hinv;rw[hlen,take_length] at hinv;exact bg.nil (bg.cons (Im hinv (by kernel_rfl) rfl))
theorem jE{α:Type}{kv:List (Str×α)}{x y:Str}{p:α}:(ea kv x p).lookup y=if y=x then some p else kv.lookup y:=by
 have zW:∀kv:List (Str×α),(kv.map λz=>if z.1=x then(z.1,p) else z).lookup y=if y=x then(kv.lookup y).map (λ_=>p) else kv.lookup y:=λkv=>by
  induction kv with
  |nil=>simp
  |cons z r aw=>
   obtain⟨k,v⟩:=z;rw[map_cons];by_cases e:k=x
   ·subst e;rw[aQ rfl,di,di];by_cases h:y=k
    ·subst h;simp
    ·rw[ey.mpr h,aI h];rw[aI h] at aw;exact aw
   ·rw[aI e,di,di];induction h:y==k with
    |true=>
     have:y=k:=eq_of_beq h;subst this;rw[aI e]
    |false=>exact aw
 unfold ea;split
 ·rename_i h;rw[zW];split
  ·rename_i e;subst e;refine ah (List.any_eq_true.mp h) λz hz ae=>?_;have:∃v,kv.lookup y=some v:=by
    clear h zW;induction kv with
    |nil=>exact absurd hz b8
    |cons eN r aw=>
     rw[di];induction aD:y==eN.1 with
     |true=>exact⟨_,rfl⟩
     |false=>
      rcases bI.mp hz with rfl |hz
      ·have:z.1=y:=ee ae;rw[this] at aD;simp at aD
      ·exact aw hz
   refine aP this λv aq=>?_;rw[aq];rfl
  ·rfl
 ·rename_i h;have hT:∀z∈kv,z.1≠x:=λz hz e=>h (List.any_eq_true.mpr ⟨z,hz,by exact beq_iff_eq.mpr e⟩);clear h zW;induction kv with
  |nil=>
   show List.lookup y [(x,p)]=_;rw[di];by_cases e:y=x
   ·subst e;simp
   ·rw[ey.mpr e,aI e]
  |cons z r aw=>
   rw[cons_append,di,di];induction aD:y==z.1 with
   |true=>
    have:=eq_of_beq aD;rw[aI (this▸hT z (cM ..))]
   |false=>exact aw λz hz=>hT z (en _ hz)
noncomputable abbrev kP(kv:List (Str×Str)):List (Str×ak):=kv.map λz=>(z.1,.str z.2)
theorem lookup_map2{α β:Type}{f:α->β}{kv:List (Str×α)}{x:Str}:(kv.map λz=>(z.1,f z.2)).lookup x=(kv.lookup x).map f:=by
 induction kv with
 |nil=>rfl
 |cons z r aw=>
  rw[map_cons,di,di];cases x==z.1
  ·exact aw
  ·rfl
theorem Le{α β:Type}{f:α->β}{kv:List (Str×α)}{x:Str}:((kv.map λz=>(z.1,f z.2)).any λz=>decide (z.1=x))=kv.any λz=>decide (z.1=x):=by rw[List.any_map];rfl
theorem yM{α β:Type}{f:α->β}{kv:List (Str×α)}{x:Str}{p:α}:ea (kv.map λz=>(z.1,f z.2)) x (f p)=(ea kv x p).map λz=>(z.1,f z.2):=by
 unfold ea;rw[Le];split
 ·rw[dW,dW];refine map_congr_left λz _=>?_;simp only[Function.comp];split<;>rfl
 ·simp
theorem tJ{α:Type}{kv:List (Str×α)}{x:Str}{p:α}:(ea kv x p).length<=kv.length+1:=by
 unfold ea;split
 ·simp
 ·simp
theorem rW{l:List Str}{x:Str}:((dX (aB l)).any λy=>PyData.eqv y (.str x))=l.any (· ==x):=by
 induction l with
 |nil=>rfl
 |cons a r aw=>
  show((e6 (.str a)::dX (aB r)).any λy=>PyData.eqv y (.str x))=_;rw[any_cons,any_cons,aw];rfl
theorem mw{l:List Str}(h:∀x∈l,PyData.strOk x=true):gJ (aB l):=by
 induction l with
 |nil=>trivial
 |cons a r aw=>exact⟨h a (cM ..),aw λx ag=>h x (en _ ag)⟩
noncomputable def ku(k5:List Str)(kv:List (Str×Str))(k:Nat):List (Str×Str):=ea kv (k5.getD k "") ((k5++[("":Str)]).getD (k+1) "")
noncomputable def mx(kv:List (Str×Str))(k5:List Str):List (Str×Str):=(range k5.length).foldl (ku k5) kv
noncomputable def jI(c3:List (List Str)):List (Str×Str):=c3.foldl mx []
noncomputable def nr(order:List Str)(above:List (Str×Str))(kv:List (Str×Int))(name:Str):Int:=((order.filter λone=>(above.lookup one).getD ""==name).map λone=>(kv.lookup one).getD 0).sum
noncomputable def gP(order:List Str)(cK:List (Str×Int))(above:List (Str×Str))(heads:List Str)(kv:List (Str×Int))(name:Str):List (Str×Int):=
 if heads.any (· ==name)||(name != ""&&decide ((cK.lookup name).getD 0 < nr order above kv name)) then ea (ea kv name (nr order above kv name)) name ((cK.lookup name).getD 0) else ea kv name (nr order above kv name)
noncomputable def qg(order:List Str)(cK:List (Str×Int))(c3:List (List Str)):Int:=
 (((order++[("":Str)]).foldl (gP order cK (jI c3) (c3.map λl=>l.getD 0 "")) []).lookup ("":Str)).getD 0
theorem Ga{sc:Scope}{x u:Str}{p r t:ak}(h:m.lookup x=some p)(hf:sc.names.lookup x=some .free)(h':m.lookup z=some r)(gX:sc.names.lookup z=some .free)(hc:m.lookup u=some t)(Px:sc.names.lookup u=some .free):∀y q,List.lookup y [(x,p),(z,r),(u,t)]=some q->m.lookup y=some q/\sc.names.lookup y=some .free:=by
 intro y q e;rw[di] at e;replace e:=e;split at e
 ·rename_i av;obtain rfl:=bT e;rw[eq_of_beq av];exact⟨h,hf⟩
 ·exact w2 h' gX hc Px y q e
theorem jG{l:List (List Str)}{p:ak}(h:p∈bF l):∃x∈l,p= .list (aB x):=by
 refine ah (bA.mp h) λx ag aU=>?_;subst aU;exact⟨x,ag,rfl⟩
theorem It{l:List Str}{kv:List (Str×Str)}{k:Nat}:(ku l kv k).length<=kv.length+1:=tJ
theorem Cf(l:List Str):∀(ks:List Nat) (kv:List (Str×Str)),(ks.foldl (ku l) kv).length<=kv.length+ks.length:=by
 intro a9;induction a9 with
 |nil=>
  intro kv;simp
 |cons a r aw=>
  intro kv;have ab:=aw (ku l kv a);have ae:=It (l:=l) (kv:=kv) (k:=a);rw[foldl_cons,dI];walk_at"o"
theorem IT{l:List Str}{kv:List (Str×Str)}:(mx kv l).length<=kv.length+l.length:=by
 have:=Cf l (range l.length) kv;unfold mx;simpa using this
theorem Ib:∀(ls:List (List Str)) (kv:List (Str×Str)),(∀l∈ls,l.length<=5)->(ls.foldl mx kv).length<=kv.length+ls.length*5:=by
 intro a9;induction a9 with
 |nil=>
  intro kv _;simp
 |cons a r aw=>
  intro kv h;have ab:=aw (mx kv a) λl ao=>h l (en _ ao);have ae:=IT (l:=a) (kv:=kv);have aD:=h a (cM ..);rw[foldl_cons,dI,Nat.succ_mul];walk_at"o"
theorem LF{sc:Scope}{Φ:dn->Loc->Prop}{Tr TZ SO Sa RS Sr SJ TM Ti Th R2 Ua TK RY Tu:Pos}(ba:c6 env sc)(ar:sc.names.lookup ("k":Str)=some .local)(GA:sc.names.lookup ("ladder":Str)=some .local)(bf:sc.names.lookup ("range":Str)=some .globalImplicit)(hle:sc.names.lookup ("len":Str)=some .globalImplicit)
  (ao:∀l∈c3,l.length<=5) (su:c3.length<=5) (hm:bM m "ladders" (.list (bF c3))) (h0:bM m "above" (iC (kP []))) (keep:Str->Option ak)
  (wy:∀x p,keep x=some p->bM m x p/\x≠"above"/\x≠"ladder"/\x≠"k")
  (done:∀m',bM m' "above" (iC (kP (jI c3)))->(∀x p,keep x=some p->bM m' x p)->Φ .next m'):
  df prog w 2 env m (.For (.Name "ladder" bW) (.Name "ladders" cc) [.For (.Name "k" fN) (.Call (.Name "range" fy) [.Call (.Name "len" ib) [.Name "ladder" mr] [] pV] [] tc)
   [.Assign [.Subscript (.Name "above" s6) (.Subscript (.Name "ladder" Tr) (.Name "k" TZ) SO) Sa] (.Subscript (.BinOp (.Name "ladder" RS) .Add (.List [.Constant (.str "") 0 Sr] SJ) TM) (.BinOp (.Name "k" Ti) .Add (.Constant (.int 1) 0 Th) R2) Ua) TK] [] RY] [] Tu) Φ:=by
 have de:sizeLine=2 ^ 24:=rfl
 let ig:Nat->Loc->Prop:=λj m'=>bM m' "above" (iC (kP ((c3.take j).foldl mx [])))/\∀x p,keep x=some p->bM m' x p
 refine tu (q:= .list (bF c3)) (ps:=bF c3) ig (Ev.name hm (by kernel_rfl)) cw.list lF (λp aa=>by refine ah (jG aa) λx _ a7=>?_;subst a7;exact d5) (.inl (qc ba (by decide) GA)) ⟨h0,λx p q=>(wy x p q).1⟩ ?_ ?_ (λ_=>rfl)
 ·intro j p m' aa ⟨af,rl⟩;rw[d7] at aa;replace aa:=aa;refine ah (Option.map_eq_some_iff.mp aa) λl sQ bk=>?_;subst bk;have w6:=ao l (eP sQ);have f6:(aB l).length<=sizeLine:=by rw[cz];exact bH ‹_› rfl
  generalize fK:(c3.take j).foldl mx []=kv at af;have FF:kv.length<=25:=by
   rw[<-fK];have:=Ib (c3.take j) [] λl e0=>ao l (mem_of_mem_take e0);have ae:(c3.take j).length<=5:=by rw[length_take];walk_at"o"
   simp only[length_nil] at this;walk_at"o"
  refine aE (yP (N:=(l.length:Int)) (by walk_at"o") (by walk_at"o")) λgG e3=>?_;have vo:iy 0 (l.length:Int) 1=l.length:=by unfold iy;rw[rangeSize_one];split<;>walk_at"o"
  let oH:Nat->Loc->Prop:=λi dE=>bM dE "above" (iC (kP ((range i).foldl (ku l) kv)))/\bM dE "ladder" (.list (aB l))/\∀x p,keep x=some p->bM dE x p
  refine bg.cons (tu (q:= .gY 0 l.length 1) (ps:=fR 0 l.length 1) oH
   (Ev.call (ft (qc ba (by decide) bf) qa (by exact rfl) (by decide+kernel) (by kernel_rfl)) (.inr (.inl ⟨"range",rfl⟩)) (aK.cons (p:= .int l.length) (Ev.call (ft (qc ba (by decide) hle) nv (by exact rfl) (by decide+kernel) (by kernel_rfl)) (.inl ⟨"len",rfl⟩) (aK.cons (Ev.name a5 (by kernel_rfl)) aK.nil rfl) (cz (a:=l)▸Cl.len f6) rfl rfl) aK.nil rfl) rM rfl rfl)
   (cw.gY gG e3) trivial ?_ (.inl (qc ba (by decide) ar)) ⟨bS (by kernel_rfl) af,a5,λx p q=>?_⟩ ?_ ?_ (λ_=>rfl))
  ·intro p aa;refine ah (bA.mp aa) λi _ bz=>?_;subst bz;exact trivial
  ·exact bS (ey.mpr (wy x p q).2.2.1) (rl x p q)
  ·intro i p dE aa ⟨l2,sH,jv⟩;have E1:i < l.length:=by
    have:=iL aa;simp only[fR,length_map,length_range,vo] at this;exact this
   have fS:p= .int (i:Nat):=by
    simp only[fR,getElem?_map] at aa;refine ah (Option.map_eq_some_iff.mp aa) λdG ab ae=>?_;have:dG=i:=by
     rw[getElem?_range (by walk_at"o")] at ab;cases ab;rfl
    subst this;rw[<-ae];have BV:(0:Int)+(dG:Nat)*1=dG:=by walk_at"o"
    rw[BV]
   subst fS;generalize uz:(range i).foldl (ku l) kv=m4 at l2;have Ox:m4.length<=30:=by
    rw[<-uz];have:=Cf l (range i) kv;simp only[length_range] at this;walk_at"o"
   refine bg.cons (yh (kv:=kP m4) (y:=l.getD i "") (p:= .str ((l++[("":Str)]).getD (i+1) "")) (bS (by kernel_rfl) l2) (by kernel_rfl) ?_ ?_ trivial (by(rw[bO];exact bH ‹_› rfl)) (bg.nil ⟨?_,?_,?_⟩) rfl)
   ·refine Ev.item (k:= .int ((i:Nat)+1)) (d6 (p:= .list (aB l)) (q:= .list (aB [""])) (z:= .list (aB l++aB [""])) (Ev.name (bS (by kernel_rfl) sH) (by kernel_rfl)) (Ev.list (aK.cons Ev.str aK.nil rfl) (show(1:Nat)<=_ by decide)) (ts (by simp;walk_at"o"))) (d6 (Ev.name a5 (by kernel_rfl)) Ev.int p6) Typed.list fD.lookup (cA.item (by walk_at"o") ?_ (by simp;walk_at"o")) λ_ _=>rfl;rw[<-jH,d7];have e:((i:Int)+1).toNat=i+1:=by walk_at"o"
    rw[e,List.getD,cm (show i+1 < (l++[("":Str)]).length by simp;assumption)];rfl
   ·refine Ev.item (k:= .int (i:Nat)) (Ev.name (bS (by kernel_rfl) sH) (by kernel_rfl)) (Ev.name a5 (by kernel_rfl)) Typed.list fD.lookup (cA.item (by exact Int.natCast_nonneg _) ?_ f6) λ_ _=>rfl;rw[Int.toNat_natCast,d7,List.getD,cm E1];rfl
   ·show bM _ _ _;rw[range_succ,foldl_append,uz];show bM _ _ (iC (kP (ku l m4 i)));rw[show kP (ku l m4 i)=ea (kP m4) (l.getD i "") (.str ((l++[("":Str)]).getD (i+1) "")) from yM.symm];exact a5
   ·exact bS (by kernel_rfl) (bS (by kernel_rfl) sH)
   ·intro x p q;exact bS (ey.mpr (wy x p q).2.1) (bS (ey.mpr (wy x p q).2.2.2) (jv x p q))
  ·intro dE ⟨ab,_,aD⟩;refine bg.nil (bg.nil ⟨?_,aD⟩);show bM _ _ _;have ax:(fR 0 (l.length:Int) 1).length=l.length:=by simp only[fR,length_map,length_range,vo]
   rw[ax] at ab;rw[take_add_one,sQ,foldl_append,fK];exact ab
 ·intro m' ⟨ab,ae⟩;rw[bO,take_length] at ab;exact bg.nil (done m' ab ae)
variable {cK:List (Str×Int)} {above:List (Str×Str)}
theorem EN{α:Type}{φ:α->ak}{l:List α}{f:ak->ak}{d:α->Bool}{g:α->ak}(aM:∀x,t (φ x)=d x)(hf:∀x,f (φ x)=g x):((l.map φ).filter t).map f=(l.filter d).map g:=by
 induction l with
 |nil=>rfl
 |cons x r aw=>
  rw[map_cons,filter_cons,filter_cons,aM];cases d x
  ·exact aw
  ·show f (φ x)::_=_;rw[hf];show _::((r.map φ).filter t).map f=_;rw[aw];rfl
theorem Cn{kv:List (Str×Int)}{name y:Str}:((gP order cK above heads kv name).lookup y).isSome=(decide (y=name)||(kv.lookup y).isSome):=by
 unfold gP;split
 ·rw[jE,jE];by_cases e:y=name<;>simp[e]
 ·rw[jE];by_cases e:y=name<;>simp[e]
theorem ID{kv:List (Str×Int)}{name:Str}:(gP order cK above heads kv name).length<=kv.length+2:=by
 unfold gP;split
 ·have ab:=tJ (kv:=ea kv name (nr order above kv name)) (x:=name) (p:=(cK.lookup name).getD 0);have ae:=tJ (kv:=kv) (x:=name) (p:=nr order above kv name);walk_at"o"
 ·have ae:=tJ (kv:=kv) (x:=name) (p:=nr order above kv name);walk_at"o"
theorem Ie:∀(l:List Str) (kv:List (Str×Int)),(l.foldl (gP order cK above heads) kv).length<=kv.length+2*l.length:=by
 intro a9;induction a9 with
 |nil=>
  intro kv;simp
 |cons a r aw=>
  intro kv;have ab:=aw (gP order cK above heads kv a);have ae:=ID (order:=order) (cK:=cK) (above:=above) (heads:=heads) (kv:=kv) (name:=a);rw[foldl_cons,dI];walk_at"o"
theorem Ce{y:Str}:∀(l:List Str) (kv:List (Str×Int)),(y∈l\/(kv.lookup y).isSome=true)->((l.foldl (gP order cK above heads) kv).lookup y).isSome=true:=by
 intro a9;induction a9 with
 |nil=>
  intro kv h;rcases h with h |h;exact absurd h b8;exact h
 |cons a r aw=>
  intro kv h;rw[foldl_cons];refine aw _ ?_;rcases h with h |h
  ·rcases bI.mp h with rfl |h
   ·exact .inr (by rw[Cn];simp)
   ·exact .inl h
  ·exact .inr (by rw[Cn,h,Bool.or_true])
theorem MF:∀y q,List.lookup y ([]:Loc)=some q->m.lookup y=some q:=λy q e=>by injection e
theorem vY{x:Str}{p:ak}(h:bM m x p)(r:∀y q,m'.lookup y=some q->m.lookup y=some q):∀y q,List.lookup y ((x,p)::m')=some q->m.lookup y=some q:=λy q e=>by
 rw[di] at e;replace e:=e;induction av:y==x with
 |true=>rw[av] at e;obtain rfl:=bT e;rw[eq_of_beq av];exact h
 |false=>rw[av] at e;exact r y q e
noncomputable def xb:ak->ak
 | .list (x::_)=>x
 |_=> .none
theorem Me(h:∀l∈ls,0 < l.length):((bF ls).filter λ_=>true).map xb=aB (ls.map λl=>l.getD 0 ""):=by
 rw[filter_all,dW,aB,dW];refine map_congr_left λl ao=>?_;induction l with
 |nil=>exact absurd (h _ ao) (by simp)
 |cons a r=>rfl
theorem oQ{kv:List (Str×Int)}{x:Str}(h:(kv.lookup x).isSome=true):dictAt ((gu kv).map (·.1)) ((gu kv).map (·.2)) x=some (.int ((kv.lookup x).getD 0)):=by
 rw[Ck,lookup_map2];refine aP (Option.isSome_iff_exists.mp h) λv aq=>?_;rw[aq];rfl
theorem MY{kv:List (Str×Str)}{x:Str}(h:(kv.lookup x).isSome=true):dictAt ((kP kv).map (·.1)) ((kP kv).map (·.2)) x=some (.str ((kv.lookup x).getD "")):=by
 rw[Ck,lookup_map2];refine aP (Option.isSome_iff_exists.mp h) λv aq=>?_;rw[aq];rfl
theorem L5(ao:∀l∈c3,l.length<=5)(lX:∀l∈c3,0 < l.length)(su:c3.length<=5)(aj:order.length<=100)(e1:∀x∈order,PyData.strOk x=true)(Pp:∀l∈c3,∀x∈l,PyData.strOk x=true)
  (u9:∀one∈order,((jI c3).lookup one).isSome=true) (BD:∀j name,(order++[("":Str)])[j]? =some name->∀one∈order,((jI c3).lookup one).getD ""=name->one∈(order++[("":Str)]).take j) (b5:∀x∈order,(cK.lookup x).isSome=true) (xY:("":Str)∉c3.map λl=>l.getD 0 ""):
  dY prog w 3 261 [.list (aB order),fx cK,.list (bF c3)] (.int (qg order cK c3)):=by
 refine dY.of (names:=["order","price","ladders"]) (m:=[("order",.list (aB order)),("price",fx cK),("ladders",.list (bF c3))]) (c:=260) (by exact⟨rfl,rfl,rfl,rfl,rfl,rfl,rfl,ee (by kernel_rfl),rfl,rfl,rfl,kinds_of (by kernel_rfl),rfl,rfl,rfl,by dsimp only,by dsimp only,by kernel_rfl⟩) (OF λa b c=>by exact rfl) (by exact rfl) ⟨d5,rS,lF,trivial⟩ (by exact rfl) ?_;intro env ba d8 fw d3;have de:sizeLine=2 ^ 24:=rfl;refine bg.cons (yg (by walk_at"e") (lookup_miss (by kernel_rfl) (lookup_miss (by kernel_rfl) (lookup_miss (by kernel_rfl) rfl))) ?_ rfl)
 let keep:Str->Option ak:=λx=>if x="order" then some (.list (aB order)) else if x="price" then some (fx cK) else if x="ladders" then some (.list (bF c3)) else none
 refine bg.cons (LF (c3:=c3) (keep:=keep) ba (by kernel_rfl) (by kernel_rfl) (by kernel_rfl) (by kernel_rfl) ao su (by walk_at"e") a5 ?_ ?_)
 ·intro x p q;simp only[keep] at q;replace q:=q;split at q
  ·rename_i e;subst e;obtain rfl:=bT q;exact⟨by walk_at"e",by decide+kernel,by decide+kernel,by decide+kernel⟩
  ·split at q
   ·rename_i e;subst e;obtain rfl:=bT q;exact⟨by walk_at"e",by decide+kernel,by decide+kernel,by decide+kernel⟩
   ·split at q
    ·rename_i e;subst e;obtain rfl:=bT q;exact⟨by walk_at"e",by decide+kernel,by decide+kernel,by decide+kernel⟩
    ·injection q
 intro mi N0 mT;have pG:bM mi "order" (.list (aB order)):=mT _ _ (aQ rfl);have RE:bM mi "price" (fx cK):=mT _ _ (by show(if _ then _ else _:Option ak)=_;rw[aI (by decide+kernel),aQ rfl]);have u6:bM mi "ladders" (.list (bF c3)):=mT _ _ (by show(if _ then _ else _:Option ak)=_;rw[aI (by decide+kernel),aI (by decide+kernel),aQ rfl]);generalize AP:(c3.map λl=>l.getD 0 "")=heads at xY;generalize Sf:jI c3=above at*;refine bg.cons (rI (x:="ladder") (c:=false) (q:= .list (bF c3)) (ps:=bF c3) (t:=λ_=>true) (f:=xb) (mf:=[]) ba (Ev.name u6 (by kernel_rfl)) cw.list ⟨λ_ _=>rfl,λ_=>rfl,by kernel_rfl,by kernel_rfl,by decide+kernel,rfl⟩ sO (by rw[bO];exact bH ‹_› rfl) ?_ (λp _ cenv _=>fX.nil) ?_ (.inl (by walk_at"e")) ?_ (p9 ba (by kernel_rfl) rfl (by kernel_rfl)) (λ_=>rfl))
 ·intro p aa _;refine ah (jG aa) λl lr aU=>?_;subst aU;induction l with
  |nil=>exact trivial
  |cons a r=>exact trivial
 ·intro p aa _ cenv dQ;refine ah (jG aa) λl lr a7=>?_;subst a7;have uA:=lX l lr;have dz:=ao l lr;refine Ev.item (k:= .int 0) (Ev.name a5 (by kernel_rfl)) Ev.int Typed.list fD.lookup (cA.item (by decide) ?_ (by rw[cz];exact bH ‹_› rfl)) λ_ _=>rfl;induction l with
  |nil=>exact absurd uA (by simp)
  |cons a r=>rfl
 rw[Me lX,AP];refine bg.sub (m':=[("heads",.list (aB heads)),("above",iC (kP above)),("order",.list (aB order)),("price",fx cK)]) ?_ (vY a5 (vY (bS (by kernel_rfl) N0) (vY (bS (by kernel_rfl) pG) (vY (bS (by kernel_rfl) RE) MF))));refine bg.cons (yg (by walk_at"e") (lookup_miss (by kernel_rfl) (lookup_miss (by kernel_rfl) (lookup_miss (by kernel_rfl) (lookup_miss (by kernel_rfl) rfl)))) ?_ rfl);have TG:(aB order).length<=sizeLine:=by rw[cz];exact bH ‹_› rfl
 have Rr:∀x∈heads,PyData.strOk x=true:=λx ag=>by
  rw[<-AP] at ag;refine ah (bA.mp ag) λl lr bk=>?_;subst bk;refine Pp l lr _ ?_;have uA:=lX l lr;rw[List.getD,cm uA];exact getElem_mem uA
 let ig:Nat->Loc->Prop:=λj m'=>bM m' "least" (mW (((order++[("":Str)]).take j).foldl (gP order cK above heads) []))/\bM m' "above" (iC (kP above))/\bM m' "order" (.list (aB order))/\bM m' "price" (fx cK)/\bM m' "heads" (.list (aB heads))
 refine bg.cons (tu (q:= .list (aB (order++[("":Str)]))) (ps:=aB (order++[("":Str)])) ig
  (jH (a:=order) (b:=[("":Str)])▸d6 (q:= .list (aB [""])) (by walk_at"e") (Ev.list (aK.cons Ev.str aK.nil rfl) (show(1:Nat)<=_ by decide)) (ts (by simp;walk_at"o"))) cw.list d5 (λp aa=>by refine ah (hv aa) λx _ bz=>?_;subst bz;exact trivial) (by walk_at"e") ⟨a5,by walk_at"e",by walk_at"e",by walk_at"e",by walk_at"e"⟩ ?_ ?_ (λ_=>rfl))
 ·intro j p m' aa ⟨ew,gv,kl,xT,xC⟩;refine L3 λpK hQ=>?_;rw[d7] at aa;replace aa:=aa;refine ah (Option.map_eq_some_iff.mp aa) λx xt b7=>?_;subst b7;generalize fK:((order++[("":Str)]).take j).foldl (gP order cK above heads) []=kv at ew;have FF:kv.length<=300:=by
   rw[<-fK];have:=Ie (order:=order) (cK:=cK) (above:=above) (heads:=heads) ((order++[("":Str)]).take j) [];have ae:((order++[("":Str)]).take j).length<=101:=by rw[length_take,length_append];simp;walk_at"o"
   simp only[length_nil] at this;walk_at"o"
  have Ru:∀y∈(order++[("":Str)]).take j,(kv.lookup y).isSome=true:=λy av=>by rw[<-fK];exact Ce _ _ (.inl av)
  have xv:x≠""->x∈order:=λbY=>by
   have:=eP xt;rcases List.mem_append.mp this with h |h
   ·exact h
   ·exact absurd (cQ.mp h) bY
  have F7:PyData.strOk x=true:=by
   by_cases e:x=""
   ·rw[e];decide+kernel
   ·exact e1 x (xv e)
  generalize GJ:nr order above kv x=hn;have oZ:gP order cK above heads kv x=if heads.any (· ==x)||(x != ""&&decide ((cK.lookup x).getD 0 < hn)) then ea (ea kv x hn) x ((cK.lookup x).getD 0) else ea kv x hn:=by unfold gP;rw[GJ]
  refine bg.cons (yh (kv:=gu kv) (y:=x) (p:= .int hn) (by walk_at"e") (by kernel_rfl) ?_ (Ev.name a5 (by kernel_rfl)) trivial (by simp;exact bH ‹_› rfl) ?_ rfl)
  ·have Qx:hn=(((order.filter λone=>(above.lookup one).getD ""==x).map λone=>(kv.lookup one).getD 0)).sum:=GJ.symm;rw[Qx];refine Ev.call (ps:=[.list (cp ((order.filter λone=>(above.lookup one).getD ""==x).map λone=>(kv.lookup one).getD 0))]) (ft (by walk_at"e") D1 (by exact rfl) (by decide+kernel) (by kernel_rfl)) (.inl ⟨"sum",rfl⟩) (aK.cons ?_ aK.nil rfl) (Cl.sum cw.list) rfl rfl;have e:(.list (cp ((order.filter λone=>(above.lookup one).getD ""==x).map λone=>(kv.lookup one).getD 0)):ak)= .list (((aB order).filter (pF λone=>(above.lookup one).getD ""==x)).map (oi λone=> .int ((kv.lookup one).getD 0))):=by
    rw[tZ];unfold cp;rw[dW];rfl
   rw[e];refine kr (x:="one") (c:=false) (mf:=[("above",iC (kP above)),("least",mW kv),("name",.str x)]) ba (by walk_at"e") cw.list ⟨λ_ _=>rfl,λ_=>rfl,by kernel_rfl,by kernel_rfl,by decide+kernel,rfl⟩ (Ga (by walk_at"e") (by kernel_rfl) (by walk_at"e") (by kernel_rfl) (by walk_at"e") (by kernel_rfl)) TG ?_ ?_ ?_ (λ_=>rfl)
   ·intro p aa _;refine ah (hv aa) λy _ cC=>?_;subst cC;exact trivial
   ·intro p aa cenv dQ;refine ah (hv aa) λy av c2=>?_;subst c2;exact fX.one (bV.cmp (Ev.item (by walk_at"e") (Ev.name a5 (by kernel_rfl)) Typed.eH slot_dict_getitem.lookup (rK (MY (u9 y av))) λ_ _=>rfl) (by walk_at"e") tC (by with_unfolding_all rfl))
   ·intro p aa aM cenv dQ;refine ah (hv aa) λy av c1=>?_;subst c1;have T4:(above.lookup y).getD ""=x:=eq_of_beq aM;exact Ev.item (by walk_at"e") (Ev.name a5 (by kernel_rfl)) Typed.eH slot_dict_getitem.lookup (rK (oQ (Ru y (BD j x xt y av T4)))) λ_ _=>rfl
  ·have ax:iC (ea (gu kv) x (.int hn))=mW (ea kv x hn):=by rw[show ea (gu kv) x (.int hn)=gu (ea kv x hn) from yM]
   rw[ax];have Fo:((ea kv x hn).lookup x)=some hn:=by rw[jE,aQ rfl]
   have mT:((ea kv x hn).lookup x).isSome=true:=by rw[Fo];rfl
   have U7:(ea kv x hn).length<=301:=Nat.le_trans tJ (by walk_at"o");refine bg.cons (j7 (c:=heads.any (· ==x)||(x != ""&&decide ((cK.lookup x).getD 0 < hn))) (rY (x:=heads.any (· ==x)) (y:=x != ""&&decide ((cK.lookup x).getD 0 < hn)) (rW (l:=heads) (x:=x)▸bV.cmp (by walk_at"e") (by walk_at"e") (tB (mw Rr) F7) (by with_unfolding_all rfl)) λ_=>bV.and (x:=x != "") (y:=decide ((cK.lookup x).getD 0 < hn)) (by exact bV.cmp (by walk_at"e") (by walk_at"e") (by walk_at"e") (by with_unfolding_all rfl)) λbY=>bV.cmp (p:= .int ((cK.lookup x).getD 0)) (q:= .int hn) (Ev.item (by walk_at"e") (by walk_at"e") Typed.dict slot_dict_getitem.lookup (tn (oQ (b5 x (xv (by simpa using bY))))) λ_ _=>rfl)
    (Ev.item (by walk_at"e") (by walk_at"e") Typed.eH slot_dict_getitem.lookup (rK (by rw[oQ mT,Fo];rfl)) λ_ _=>rfl) yB (by with_unfolding_all rfl)) (λh=>?_) λh=>?_)
   ·have Pb:x∈order:=by
     rcases Bool.or_eq_true_iff.mp h with h |h
     ·refine ah (List.any_eq_true.mp h) λz hz Sb=>?_;have:z=x:=eq_of_beq Sb;subst this;exact xv λq=>xY (q▸hz)
     ·exact xv (by have:=(Bool.and_eq_true_iff.mp h).1;simpa using this)
    subst hQ;refine bg.cons (yh (kv:=gu (ea kv x hn)) (y:=x) (p:= .int ((cK.lookup x).getD 0)) (by walk_at"e") (by kernel_rfl) (Ev.item (by walk_at"e") (by walk_at"e") Typed.dict slot_dict_getitem.lookup (tn (oQ (b5 x Pb))) λ_ _=>rfl) (by walk_at"e") trivial (by simp;exact bH ‹_› rfl) (bg.nil (bg.nil ⟨?_,by walk_at"e",by walk_at"e",by walk_at"e",by walk_at"e"⟩)) rfl);rw[take_add_one,xt,foldl_append,fK];show bM _ _ (mW (gP order cK above heads kv x));have aC:iC (ea (gu (ea kv x hn)) x (.int ((cK.lookup x).getD 0)))=mW (ea (ea kv x hn) x ((cK.lookup x).getD 0)):=by rw[show ea (gu (ea kv x hn)) x (.int ((cK.lookup x).getD 0))=gu (ea (ea kv x hn) x ((cK.lookup x).getD 0)) from yM]
    rw[oZ,aQ h, <-aC];exact a5
   ·subst hQ;refine bg.nil (bg.nil ⟨?_,by walk_at"e",by walk_at"e",by walk_at"e",by walk_at"e"⟩);rw[take_add_one,xt,foldl_append,fK];show bM _ _ (mW (gP order cK above heads kv x));rw[oZ,aI (by rw[h];decide)];exact a5
 ·intro m' ⟨ew,_⟩;rw[cz,take_length] at ew;refine bg.nil (bg.cons (df.ret (p:= .int (qg order cK c3)) ?_ trivial rfl));have hle:qg order cK c3=((((order++[("":Str)]).foldl (gP order cK above heads) [])).lookup ("":Str)).getD 0:=by unfold qg;rw[Sf,AP]
  rw[hle];exact Ev.item (by walk_at"e") Ev.str Typed.eH slot_dict_getitem.lookup (rK (oQ (Ce _ _ (.inl (by simp))))) λ_ _=>rfl
theorem Nn:nsIn (KF w) 3 "min"=some none:=by kernel_rfl
noncomputable def qs(kv:List (Str×Int))(fit:List Str):Int:=bestOf (λa b=>decide (a < b)) (fit.map λx=>(kv.lookup x).getD 0)
noncomputable def mD(kv:List (Str×Int))(fit:List Str):List (Str×Int):=(kv.map (·.1)).map λy=>(y,if fit.any (· ==y) then(kv.lookup y).getD 0 - qs kv fit else(kv.lookup y).getD 0)
theorem yf{α:Type}{kv:List (Str×α)}{x:Str}(h:x∈kv.map (·.1)):(kv.lookup x).isSome=true:=by
 induction kv with
 |nil=>exact absurd h b8
 |cons z r aw=>
  rw[di];induction e:x==z.1 with
  |true=>rfl
  |false=>
   rcases bI.mp h with h |h
   ·rw[h] at e;simp at e
   ·exact aw h
theorem Nq{t:Int}{kv:List (Str×Int)}{fit:List Str}(TP:0 < fit.length)(hf:fit.length<=100)(fK:kv.length<=100)(Sq:∀x∈fit,(kv.lookup x).isSome=true)(bo:(kv.map (·.1)).Nodup)(e1:∀x∈fit,PyData.strOk x=true)(Qv:∀x∈kv.map (·.1),PyData.strOk x=true):
  dY prog w 3 266 [.list [.int t,fx kv],.list (aB fit)] (.list [.int (t+qs kv fit),fx (mD kv fit)]):=by
 refine dY.of (names:=["state","fit"]) (m:=[("state",.list [.int t,fx kv]),("fit",.list (aB fit))]) (c:=265) (by exact⟨rfl,rfl,rfl,rfl,rfl,rfl,rfl,ee (by kernel_rfl),rfl,rfl,rfl,kinds_of (by kernel_rfl),rfl,rfl,rfl,by dsimp only,by dsimp only,by kernel_rfl⟩) (r7 λa b=>by exact rfl) (by exact rfl) ⟨⟨trivial,rS,trivial⟩,d5,trivial⟩ (by exact rfl) ?_;intro env ba d8 fw d3;have de:sizeLine=2 ^ 24:=rfl;have RU:(aB fit).length<=sizeLine:=by rw[cz];exact bH ‹_› rfl
 have hM:([.int t,fx kv]:List ak).length<=sizeLine:=by show(2:Nat)<=_;decide
 refine bg.cons (jb (p:= .int (qs kv fit)) (Ev.call (ps:=[.list (cp (fit.map λx=>(kv.lookup x).getD 0))]) (ft (by walk_at"e") Nn (by exact rfl) (by decide+kernel) (by kernel_rfl)) (.inl ⟨"min",rfl⟩) (aK.cons ?_ aK.nil rfl) (K8 cw.list (by simpa using TP)) rfl rfl) trivial (by walk_at"e") ?_ rfl)
 ·have e:(.list (cp (fit.map λx=>(kv.lookup x).getD 0)):ak)= .list (((aB fit).filter (pF λ_=>true)).map (oi λx=> .int ((kv.lookup x).getD 0))):=by
   rw[tZ,filter_all];unfold cp;rw[dW];rfl
  rw[e];refine kr (x:="name") (c:=false) (mf:=[("state",.list [.int t,fx kv])]) ba (by walk_at"e") cw.list ⟨λ_ _=>rfl,λ_=>rfl,by kernel_rfl,by kernel_rfl,by decide+kernel,rfl⟩ (mX (by walk_at"e") (by kernel_rfl)) RU ?_ ?_ ?_ (λ_=>rfl)
  ·intro p aa _;refine ah (hv aa) λy _ aU=>?_;subst aU;exact trivial
  ·intro p aa cenv dQ;refine ah (hv aa) λy _ a7=>?_;subst a7;exact fX.nil
  ·intro p aa _ cenv dQ;refine ah (hv aa) λy av bk=>?_;subst bk;exact Ev.item (Ev.item (k:= .int 1) (by walk_at"e") Ev.int Typed.list fD.lookup (cA.item (by decide) rfl hM) λ_ _=>rfl) (Ev.name a5 (by kernel_rfl)) Typed.dict slot_dict_getitem.lookup (tn (oQ (Sq y av))) λ_ _=>rfl
 ·generalize Tv:qs kv fit=most;refine bg.cons (df.ret (p:= .list [.int (t+most),fx (mD kv fit)]) (Ev.list (aK.cons (d6 (p:= .int t) (Ev.item (k:= .int 0) (by walk_at"e") Ev.int Typed.list fD.lookup (cA.item (by decide) rfl hM) λ_ _=>rfl) (by walk_at"e") p6) (aK.cons ?_ aK.nil rfl) rfl) (show(2:Nat)<=_ by decide)) ⟨trivial,rS,trivial⟩ rfl);have e:fx (mD kv fit)=rB ((kv.map (·.1)).map λy=>(y,.int (if fit.any (· ==y) then(kv.lookup y).getD 0 - most else(kv.lookup y).getD 0))):=by
   unfold fx gu mD;rw[dW,Tv];rfl
  rw[e];have f9:cw prog w (fx kv) (aB (kv.map (·.1))):=by
   have:=cw.dict (prog:=prog) (w:=w) (ks:=(gu kv).map (·.1)) (l:=(gu kv).map (·.2));have ax:(gu kv).map (·.1)=kv.map (·.1):=by unfold gu;rw[dW];rfl
   unfold fx rB;rw[ax] at this ⊢;exact this
  refine Ir (x:="name") (c:=false) (q:=fx kv) (mf:=[("fit",.list (aB fit)),("most",.int most),("state",.list [.int t,fx kv])]) ba (Ev.item (k:= .int 1) (by walk_at"e") Ev.int Typed.list fD.lookup (cA.item (by decide) rfl hM) λ_ _=>rfl) f9 bo (by kernel_rfl) ⟨λ_ _=>rfl,λ_=>rfl,by kernel_rfl,by kernel_rfl,by decide+kernel,rfl⟩ (Ga (by walk_at"e") (by kernel_rfl) (by walk_at"e") (by kernel_rfl) (by walk_at"e") (by kernel_rfl)) (by simp;exact bH ‹_› rfl) (λy _=>trivial) ?_ (λ_=>rfl);intro y av cenv dQ;have GV:=yf av;refine CQ (c:=fit.any (· ==y)) (rW (l:=fit) (x:=y)▸bV.cmp (by walk_at"e") (by walk_at"e") (tB (mw e1) (Qv y av)) (by with_unfolding_all rfl)) (λh=>?_) λh=>?_
  ·rw[aQ h];exact d6 (p:= .int ((kv.lookup y).getD 0)) (Ev.item (Ev.item (k:= .int 1) (by walk_at"e") Ev.int Typed.list fD.lookup (cA.item (by decide) rfl hM) λ_ _=>rfl) (Ev.name a5 (by kernel_rfl)) Typed.dict slot_dict_getitem.lookup (tn (oQ GV)) λ_ _=>rfl) (by walk_at"e") rN
  ·rw[aI (by rw[h];decide)];exact Ev.item (Ev.item (k:= .int 1) (by walk_at"e") Ev.int Typed.list fD.lookup (cA.item (by decide) rfl hM) λ_ _=>rfl) (Ev.name a5 (by kernel_rfl)) Typed.dict slot_dict_getitem.lookup (tn (oQ GV)) λ_ _=>rfl
theorem C2{e:Expr}{b:Bool}(he:Ev prog w n env m e (.bool b)):Ev prog w n env m (.UnaryOp .Not e pos) (.bool (!b)):=λW A s Q E ai x h=>by
 refine wpAny_UnaryOp (he W A s _ E ai x λv au aq az aF=>?_);rw[show v= .bool b from aq];unfold unaryOp;refine wpAny_holding ?_;show wpAny _ _ (do return Value.bool (!(<-truthy (.bool b)))) _ _ _;exact aH (wpAny_truthy_bool (bu (h _ _ rfl az aF)))
theorem CY{a b:Expr}{x y:Bool}(af:Ev prog w n env m a (.bool x))(I:x=true->Ev prog w n env m b (.bool y)):Ev prog w n env m (.BoolOp .And [a,b] pos) (.bool (x&&y)):=λW A s Q E ai st h=>by
 refine PyProof.Rows.BoolOp_and (af W A s _ E ai st λv au aq az aF=>?_);rw[show v= .bool x from aq];refine wpAny_truthy_bool ?_;induction x with
 |false=>exact h _ _ rfl az aF
 |true=>exact PyProof.Rows.BoolOp_one (I rfl W A au Q E ai (st.ext az aF) λv s' aq e g=>h v s' aq (az.trans e) g)
noncomputable def four(name:Str):List (Str×Str):=[(("w":Str)++name,(".":Str)++name),(("w.":Str)++name,name),(("w.":Str)++name++(".7":Str),(".":Str)++name),(("w.":Str)++name++(".70":Str),(".":Str)++name)]
noncomputable def two(name:Str):List (Str×Str):=[(("w.":Str)++name,(".":Str)++name),(("w.":Str)++name++(".x":Str),(".":Str)++name)]
noncomputable def qq(name:Str):Bool:= !Txt.endswith name ".7"&& !Txt.endswith name "."
noncomputable def oW(jY:Str->Str->Bool)(name:Str):Bool:=
 if(four name).all (λz=> !jY z.1 z.2) then(jY (("w.":Str)++name) ((".":Str)++name)==qq name)&&(jY (("w.":Str)++name++(".x":Str)) ((".":Str)++name)==qq name) else false
theorem MI{name:Str}{jY:Str->Str->Bool}(aA:name.length<=100)(h:∀z∈four name++two name,dY prog w 2 57 [.str z.1,.str z.2] (.bool (jY z.1 z.2))):dY prog w 3 241 [.str name] (.bool (oW jY name)):=by
 refine dY.of (names:=["name"]) (m:=[("name",.str name)]) (c:=240) (by exact⟨rfl,rfl,rfl,rfl,rfl,rfl,rfl,ee (by kernel_rfl),rfl,rfl,rfl,kinds_of (by kernel_rfl),rfl,rfl,rfl,by dsimp only,by dsimp only,by kernel_rfl⟩) (bind1 λa=>by exact rfl) (by exact rfl) ⟨trivial,trivial⟩ (by exact rfl) ?_;intro env ba d8 fw d3;have de:sizeLine=2 ^ 24:=rfl;have dH:((".":Str)).length=1:=by kernel_rfl
 have dh:(("w":Str)).length=1:=by kernel_rfl
 have ox:(("w.":Str)).length=2:=by kernel_rfl
 have jA:((".7":Str)).length=2:=by kernel_rfl
 have ie:((".70":Str)).length=3:=by kernel_rfl
 have V6:((".x":Str)).length=2:=by kernel_rfl
 have eF:∀a b:Str,(a++b).length=a.length+b.length:=λa b=>by show(a.cps++b.cps).size=_;exact Array.size_append ..
 have lw:(("w.":Str)++name).length<=102:=by rw[eF];walk_at"o"
 refine bg.cons (jb (p:= .str ((".":Str)++name)) (d6 Ev.str (by walk_at"e") (kZ (by walk_at"o"))) trivial (.inl (by walk_at"e")) ?_ rfl)
 let ig:Nat->Loc->Prop:=λj m'=>bM m' "name" (.str name)/\bM m' "dotted" (.str ((".":Str)++name))/\((four name).take j).all (λz=> !jY z.1 z.2)=true
 refine bg.cons (CV (ps:=(four name).map λz=>(ak.str z.1,ak.str z.2)) ig
  (IS (Ev.tuple (aK.cons (Ev.tuple (aK.cons (d6 Ev.str (by walk_at"e") (kZ (by walk_at"o"))) (aK.cons (by walk_at"e") aK.nil rfl) rfl) (show(2:Nat)<=_ by decide)) (aK.cons (Ev.tuple (aK.cons (d6 Ev.str (by walk_at"e") (kZ (by walk_at"o"))) (aK.cons (by walk_at"e") aK.nil rfl) rfl) (show(2:Nat)<=_ by decide))
   (aK.cons (Ev.tuple (aK.cons (d6 (d6 Ev.str (by walk_at"e") (kZ (by walk_at"o"))) Ev.str (kZ (by walk_at"o"))) (aK.cons (by walk_at"e") aK.nil rfl) rfl) (show(2:Nat)<=_ by decide)) (aK.cons (Ev.tuple (aK.cons (d6 (d6 Ev.str (by walk_at"e") (kZ (by walk_at"o"))) Ev.str (kZ (by walk_at"o"))) (aK.cons (by walk_at"e") aK.nil rfl) rfl) (show(2:Nat)<=_ by decide)) aK.nil rfl) rfl) rfl) rfl) (show(4:Nat)<=_ by decide)))
  (λp aa=>by refine ah (bA.mp aa) λz _ aU=>?_;subst aU;exact⟨trivial,trivial⟩) (.inl (by walk_at"e")) (.inl (by walk_at"e")) ⟨by walk_at"e",a5,rfl⟩ ?_ ?_ (λ_=>rfl))
 ·intro j p q m' q7 ⟨ew,gv,kl⟩;rw[d7] at q7;refine ah (Option.map_eq_some_iff.mp q7) λz hz e=>?_;cases e
  have G2:z∈four name:=eP hz;refine bg.cons (j7 (c:= !(jY z.1 z.2==false)) (bV.cmp (Ev.call (fC (by walk_at"e") tS (by kernel_rfl)) (.inr (.inr ⟨57,_,_,rfl,rfl,rfl⟩)) (aK.cons (by walk_at"e") (aK.cons (by walk_at"e") aK.nil rfl) rfl) (h z (b6 _ G2)).cl rfl rfl) Ev.bool Cs (by with_unfolding_all rfl)) (λU=>?_) λU=>?_)
  ·refine bg.cons (df.ret (p:= .bool false) Ev.bool trivial ?_);show ak.bool false=_;unfold oW;rw[aI];intro q;have:=List.all_eq_true.mp q z G2;cases hd:jY z.1 z.2<;>rw[hd] at U this<;>simp at U this
  ·refine bg.nil (bg.nil ⟨by walk_at"e",by walk_at"e",?_⟩);rw[take_add_one,hz,all_append,kl];cases hd:jY z.1 z.2
   ·simp[hd]
   ·rw[hd] at U;simp at U
 ·intro m' ⟨ew,gv,kl⟩;rw[bO,take_length] at kl;refine bg.nil (bg.cons (jb (p:= .bool (qq name)) (CY (C2 (jF Dq (by walk_at"e") Typed.str (aK.cons Ev.str aK.nil rfl) Cj rfl rfl rfl rfl)) λ_=>C2 (jF Dq (by walk_at"e") Typed.str (aK.cons Ev.str aK.nil rfl) Cj rfl rfl rfl rfl)) trivial (.inl (by walk_at"e")) ?_ rfl));refine bg.cons (df.ret (p:= .bool (oW jY name)) ?_ trivial rfl);have e:oW jY name=((jY (("w.":Str)++name) ((".":Str)++name)==qq name)&&(jY (("w.":Str)++name++(".x":Str)) ((".":Str)++name)==qq name)):=by unfold oW;rw[aQ kl]
  rw[e];have t1:=h (("w.":Str)++name,(".":Str)++name) (b9 _ (by simp[two]));have e7:=h (("w.":Str)++name++(".x":Str),(".":Str)++name) (b9 _ (by simp[two]));refine CY (Ev.cmp (Ev.call (fC (by walk_at"e") tS (by kernel_rfl)) (.inr (.inr ⟨57,_,_,rfl,rfl,rfl⟩)) (aK.cons (d6 Ev.str (by walk_at"e") (kZ (by walk_at"o"))) (aK.cons (by walk_at"e") aK.nil rfl) rfl) t1.cl rfl rfl) (by walk_at"e") tw (by with_unfolding_all rfl)) λ_=>Ev.cmp (Ev.call (fC (by walk_at"e") tS (by kernel_rfl)) (.inr (.inr ⟨57,_,_,rfl,rfl,rfl⟩)) (aK.cons (d6 (d6 Ev.str (by walk_at"e") (kZ (by walk_at"o"))) Ev.str (kZ (by walk_at"o"))) (aK.cons (by walk_at"e") aK.nil rfl) rfl) e7.cl rfl rfl) (by walk_at"e") tw (by with_unfolding_all rfl)
variable {params:Arguments}
section
variable {prog:Program} {w:World} {n:Nat} {env:Env} {m:Loc} {Φ:dn->Loc->Prop}
theorem NQ(w:World):nsOkIn (KF w) 3=true:=by kernel_rfl
theorem FJ(w:World):nsIn (KF w) 3 "__builtins__"=some (some (.ref 4)):=by kernel_rfl
theorem yv{K:Frag}{N:Addr}{pZ:Str->Option Value}{n:Str}{v:Value}(X:K.In h)(H:h.Ns N pZ)(e:nsIn K N n=some (some v)):pZ n=some v:=by
 refine cg H λo es ep aj hd _ hf=>?_;unfold nsIn at e;split at e
 ·rename_i c d jx hZ bQ q;have:=X _ _ q;rw[aj] at this;obtain rfl:=bT this
  (injection hd with bB;subst bB)
  split at e
  ·rename_i ck he
   (injection e with bB;injection bB with bB;subst bB)
   rw[<-hf];unfold nsFind findBy;rw[<-Array.find?_toList,he];rfl
  ·split at e<;>cases e
 ·injection e
theorem G.glob(g:G w h):∃pZ,h.Ns mainGlobals pZ/\pZ "__builtins__"=some (.ref 4):=by
 have H:h.Ns mainGlobals (h.nsMap 3):= .of_isNs (isNs_of_in g.K (NQ w));exact⟨_,H,yv g.K H (FJ w)⟩
def qC(P:Addr)(pos:Pos)(qual:Str):Prop:=(P=217/\pos.line=203/\pos.col=18/\qual="_law_climb.<locals>.<lambda>")\/(P=253/\pos.line=245/\pos.col=29/\qual="_law_order.<locals>.<lambda>")
theorem qC.i4{P:Addr}(x:qC P pos qual):cf P:=by
 rcases x with⟨rfl,_⟩ |⟨rfl,_⟩
 ·exact .inl rfl
 ·exact .inr rfl
theorem G.tab{P:Addr}(g:G w h)(ag:ExtBut P h h')(L:qC P pos qual)(U:h'.get? c'=some cP)(aG:qu cP qual)(b5:h'.get? P=some (tabObj #[rawInt pos.line,rawInt pos.col,.ref c'])):G w h' where
 K:=λb ob e=>ag b ob (λq=>Fv e (q▸L.i4)) (g.K b ob e)
 B:=by
  refine ah g.B λlA x y=>?_;have:builtinsNs≠P:=λq=>by
   refine gm x λo es ep e hd _=>?_;refine ah (g.T P L.i4) λps aO _=>?_;rw[q,aO] at e;obtain rfl:=bT e;injection hd
  exact⟨lA,x.at' λo e=>ag _ _ this e,y⟩
 M:=by
  refine ah g.M λo e r=>?_;exact⟨o,ag _ _ (λq=>by have:=L.i4;rw[<-q] at this;rcases this with z |z<;>exact absurd z (by decide)) e,r⟩
 T:=λb I=>by
  by_cases q:b=P
  ·subst q;refine⟨_,b5,.inr ⟨c',?_⟩⟩;obtain⟨ax,vs,t,aC,a8⟩:=aG;rcases L with⟨e,dH,dh,rfl⟩ |⟨e,dH,dh,rfl⟩
   ·exact .inl ⟨e,by rw[dH,dh];rfl,cP,vs,t,U,ax,aC,a8⟩
   ·exact .inr ⟨e,by rw[dH,dh];rfl,cP,vs,t,U,ax,aC,a8⟩
  ·refine ah (g.T b I) λps e t=>?_;refine⟨ps,ag _ _ q e,t.of λc o U e=>ag _ _ (λq=>?_) e⟩;refine ah (g.T P L.i4) λVS aO _=>?_;rw[q,aO] at e;obtain rfl:=bT e;injection U
theorem DL{M:Model}{name:Str}{body:FuncBody}{c P:Addr} 
  (g:G w s.heap) (d8:env.code= .ref c) (gk:codeHdIn (KF w) c P=true) (L:qC P pos qual)
  (h:∀c' cP s',Ext s s'->G w s'.heap->s'.heap.get? c'=some cP->qu cP qual->Q (.ref c') s'):
  wpAny M A (functionCode env pos firstLine name qual params scope body) Q E s:=by
 have C:=codeHd_of_K g.K gk;refine ah (g.T P L.i4) λps b5 aM=>?_;rcases aM with rfl |⟨c₀,aM⟩
 ·refine wpAny_functionCodeX d8 (C.code b5 trivial) (C.tab b5) rfl λc' h' tk ag VO cu _ Pe Si AS=>?_;refine h7 AS λBE _ _ aU _=>?_;refine h8 aU λcP vs ax aC a8 _=>?_;refine wM Pe λc₂ VQ eh t bN sR hd aq=>?_
  (injection bN with bB;subst bB)
  rw[ax] at sR;obtain rfl:=bT sR;have q:qu cP qual:=⟨aC,eh,t,hd,aq⟩
  have gh:G w h':=g.tab ag L ax q (by exact Si.2);exact h c' cP _ ⟨⟨h',tk,rfl⟩,λb o I e=>ag b o (λq=>I (q▸L.i4)) e⟩ gh ax q
 ·have key:ps= #[rawInt pos.line,rawInt pos.col,.ref c₀]/\tQ s.heap c₀ qual:=by
   rcases L with⟨e,dH,dh,rfl⟩ |⟨e,dH,dh,rfl⟩<;>rcases aM with⟨aO,aa,U⟩ |⟨aO,aa,U⟩
   ·exact⟨by rw[aa,dH,dh];rfl,U⟩
   ·rw[e] at aO;exact absurd aO (by decide)
   ·rw[e] at aO;exact absurd aO (by decide)
   ·exact⟨by rw[aa,dH,dh];rfl,U⟩
  obtain⟨a7,o,vs,t,ab,ae,aD,bc⟩:=key;subst a7;refine wpAny_functionCode_hit (c':= .ref c₀) d8 (C.code b5 trivial) ?_ (h c₀ o s (.refl s) g ab ⟨ae,vs,t,aD,bc⟩);simp[codeAmong,rawInt]
theorem DE{M:Model}{name:Str}{body:Expr}{wK:List (Str×Addr)}{c P:Addr} 
  (g:G w s.heap) (et:closureFor scope env=pure wK) (u4:env.globals=3) (d8:env.code= .ref c) (gk:codeHdIn (KF w) c P=true) (L:qC P pos qual)
  (h:∀f c' pm iV cP s',Ext s s'->G w s'.heap->s.heap.get? f=none->s'.heap.get? f=some (kla_obj name qual params body scope wK pm c' iV)->s'.heap.get? c'=some cP->qu cP qual->Q (.ref f) s'):
  wpAny M A (makeFunction name qual params (.expr body) scope env [] [] [] pos firstLine) Q E s:=by
 rw[makeFunction_eq];simp only[zip_nil_right,filterMap_nil,isEmpty_nil,if_true,pure_bind];unfold makeTail;rw[et,u4];refine aH (bu ?_);have fin:∀(iV:Value) (au:Shared) (c':Addr) (cP:Obj) (aL:Shared),Ext s au->Ext au aL->G w aL.heap->aL.heap.get? c'=some cP->qu cP qual->∀pm,Q (.ref aL.heap.objs.size) {aL with heap:=aL.heap.push (kla_obj name qual params body scope wK pm c' iV)}:=λiV au c' cP aL az aR aY U aG pm=>by
  refine h _ c' pm iV cP _ ((az.trans aR).trans (.push ..)) (aY.push _) ?_ (dc _ rfl) (dV _ U) aG;induction e:s.heap.get? aL.heap.objs.size with
  |none=>rfl
  |some o=>
   have:=(az.trans aR).keep _ _ (aY.fu (er _)) e;rw[er] at this;injection this
 induction wK with
 |nil=>
  simp only[isEmpty_nil,if_true];refine aH (bu ?_);refine aH (DL g d8 gk L λc' cP aL aR aY U aG=>?_);refine ah aY.glob λpZ dj I=>?_;refine h7 aY.M λo aj ab ae aD=>?_;refine aH (wpAny_builtinsFor dj I (by decide) aj ab ae aD ?_);refine aH (wpAny_nsGet dj ?_);exact aH (bu (wpAny_newObj_type (fin .none s c' cP aL (.refl s) aR aY U aG _) (by size_fits)))
 |cons q r=>
  simp only[isEmpty_cons,Bool.false_eq_true,if_false];refine aH (wpAny_newTextTuple ?_);refine aH (DL (g.push _) d8 gk L λc' cP aL aR aY U aG=>?_);refine ah aY.glob λpZ dj I=>?_;refine h7 aY.M λo aj ab ae aD=>?_;refine aH (wpAny_builtinsFor dj I (by decide) aj ab ae aD ?_);refine aH (wpAny_nsGet dj ?_);exact aH (bu (wpAny_newObj_type (fin _ _ c' cP aL (.push ..) aR aY U aG _) (by size_fits)))
theorem Ev.lam{body:Expr}{c P:Addr}(d8:env.code= .ref c)(gk:codeHdIn (KF w) c P=true)(L:qC P pos (env.qual++"<lambda>"))(t6:defaultsOf params env=([],[]))(pd:(scope.names.all λx=>x.2 != .free)=true):
  Ev prog w n env m (.Lambda params body scope pos) (.lam λfd=>∃pm il iV,fd=kla_fn "<lambda>" (env.qual++"<lambda>") params body scope [] pm il iV):=λW A s Q E ai x h=>by
 have et:closureFor scope env=pure []:=by
  rw[yA (λz hz ar=>?_)]
  ·congr 1;have:∀(names:List (Str×NameKind)) (acc:List (Str×Addr)),(names.all λx=>x.2 != .free)=true->fH env.cells names acc=acc:=by
    intro names;induction names with
    |nil=>intro acc _;rfl
    |cons z r aw=>
     intro acc hz;simp only[all_cons,Bool.and_eq_true] at hz;replace hz:=hz;obtain⟨y,k⟩:=z;have ar:(k==NameKind.free)=false:=by have:=hz.1;simpa using this
     unfold fH;rw[ar];exact aw acc hz.2
   exact this _ _ pd
  ·have:=List.all_eq_true.mp pd z hz;rw[ar] at this;(focus (injection this;done))
 refine kla_eval t6 (DE x.g et x.gl d8 gk L λf c' pm iV cP s' e g aA hf U aG=>h _ s' ⟨f,_,_,c',cP,rfl,⟨λq=>?_,hf,rfl⟩,⟨λq=>?_,U,aG⟩,rfl,rfl,pm,_,iV,rfl⟩ e g)
 ·exact x.low.not aA q
 ·refine aE ((x.low.kt e.keep) c' q) λbk _=>?_;refine ah bk λo aO cY=>?_;rw[U] at aO;obtain rfl:=bT aO;obtain⟨dy,vs,t,bN,_⟩:=aG;rcases cY with cY |cY
  ·exact cY dy
  ·exact cY _ bN
end
theorem HN:∀{l:List (Str×Value)} {x:Str} {v:Value},(l.map (·.1)).Nodup->(x,v)∈l->l.reverse.lookup x=some v:=by
 intro l x v aA hm;have gF:(l.reverse.map (·.1)).Nodup:=by rw[map_reverse];exact List.pairwise_reverse.mpr (aA.imp Ne.symm)
 exact vz (y:=(x,v)) gF (List.mem_reverse.mpr hm)
theorem pO.lam{P:FuncData->Prop}{p:ak}{body:Expr}(b5:∀fd,P fd->fd.body= .expr body/\fd.scope=scope/\fd.closure=[]/\fd.globals=3/\fd.builtins=0/\∀vs:List Value,vs.length=names.length->bindArgs fd ⟨vs,[]⟩=pure (names.zip vs))
  (hlen:args.length=names.length) (bo:names.Nodup) (FU:∀x∈names,scope.names.lookup x=some .local) (wC:∀x∈scope.names,x.2≠ .cell) (pd:(scope.names.all λx=>x.2 != .free)=true)
  (iT:scope.kind= .function) (qM:scope.isCoroutine=false) (qN:scope.isGenerator=false) (cN:dA args) (aa:cb p) (h:∀env:Env,c6 env scope->Ev prog w n env (names.zip args) body p):pO prog w (n+1) (.lam P) args p:=by
 intro W A s f vs Q E ai g low hf bb a4;refine Ri hf λa o fd c cP aU a7 bk hd U RP=>?_;subst aU;refine cB a7 λll aj _=>?_;refine cB bk λVX rh aG=>?_;refine ud (b5 fd RP) λab ae aD bc dz i8=>?_;obtain⟨_,il,kX,dC,uZ⟩:=aG;have sP:vs.length=names.length:=by rw[<-bb.len,hlen]
 have sj:((names.zip vs).map (·.1))=names:=vG sP;refine wpAny_call (kla_callFunE ai.lim aj hd (by rw[ae];exact qM) (by rw[ae];exact qN) ab ⟨c,cP,il,kX,U,rh,dC,uZ⟩ ?_);rw[i8 vs sP];refine bu ?_;rw[ae,aD,bc,dz];refine wpAny_newFunctionEnv wC (λx ag=>FU x.1 ?_) (λh₁ pD bL=>⟨g.lim.fresh _ bL,?_⟩) iT
 ·have:=fO (f:=(·.1)) ag
  rwa [sj] at this
 ·generalize kE:newEnv scope s.heap.objs.size 3 [] (fd.qualname++".<locals>.") (some a) fd.code none 0=env;induction env using jf;rename_i env
  have ax:env.locals=s.heap.objs.size:=by rw[<-kE];rfl
  have aC:env.cells=[]:=by rw[<-kE];rfl
  have a8:env.globals=3:=by rw[<-kE];rfl
  have bX:env.builtins=0:=by rw[<-kE];rfl
  have d4:env.scope=scope:=by rw[<-kE];rfl
  have cJ:∀x,env.kindOf x=scope.names.lookup x:=λx=>by rw[<-kE];rfl
  have wu:∀b o,s.heap.get? b=some o->h₁.get? b=some o:=λb o e=>bL.extBut b o (Nat.ne_of_lt (lt_size e)) (dV _ e);have aF:G w h₁:=g.keeps wu;have tR:∀y,scope.names.lookup y≠some .free:=λy q=>by
   have:=List.all_eq_true.mp pd _ (mem_of_lookup q)
   (focus (injection this;done))
  have NV:∀y,scope.names.lookup y≠some .cell:=λy q=>wC _ (mem_of_lookup q) rfl;have ba:c6 env scope:=⟨λy k _ e=>by rw[cJ];exact e,λy q=>absurd q (tR y),λy q=>q.elim (λq=>absurd q (NV y)) λq=>absurd q (tR y),by rw[d4];exact iT⟩
  have st:St w env (λb=>W b\/b=s.heap.objs.size) (names.zip args) h₁:=by
   refine⟨by rw[d4];exact iT,a8,bX,aF,λb I=>?_,by rw[ax];exact g.fu (er _),λnm ru kh=>(by rw[aC] at kh;injection kh),λx q ag=>?_⟩
   ·rcases I with I |rfl
    ·refine aE (low b I) λbz kO=>?_;refine ah bz λob e cF=>?_;exact⟨⟨ob,wu _ _ e,cF⟩,kO⟩
    ·refine ah (my pD) λob e AN=>?_;exact⟨⟨ob,e,.inr AN⟩,g.fu (er _)⟩
   ·refine ah (CT bb ag) λv hm aq=>?_;have m3:x∈names:=by
     have:=fO (f:=(·.1)) hm
     rwa [sj] at this
    refine⟨v,.inl ⟨by rw[cJ];exact FU x m3,_,ax▸pD,HN (by rw[sj];exact bo) hm⟩,?_⟩;refine aq.upd (λb ob I _ e=>⟨wu _ _ e,λq=>?_⟩) (nt cN (p4 ag));rcases q with q |rfl
    ·exact I q
    ·rw[er] at e;injection e
  refine kla_codeExpr (h env ba _ _ {s with heap:=h₁,toks:=s.toks+(names.zip vs).length} _ _ ai.in st λv s' aq e gh=>?_);refine a4 v s' (aq.upd (λb ob I _ e=>⟨e,λq=>I (.inl q)⟩) aa) ((Ext.keeps wu).trans e) gh
theorem PH(w:World):(KF w).lookup 66=some {cls:= .type "tuple",data:= .seq #[.ref 65]}:=by kernel_rfl
theorem F5{st:Stmt}{Φ:dn->Loc->Prop}{J:Addr->Prop}{ad:Str->Addr}{Q:Flow->Shared->Prop}(h:df prog w n env m st Φ)(ai:bK n A)(F:b1 w s₀ env W₀ ad J m s)(aG:∀f s',Out w s₀ env W₀ J Φ (b4 env m ad) s f s'->Q f s'):wpAny (model prog w) A (exec st env) Q E s:=wpAny_mono (h s₀ W₀ J ad A s E ai F) aG λ_ _ e=>e
theorem Dk{seq:ak}{l0:List ak}{acc:Nat->ak}(h0:acc 0= .list l0)(aG:Eh w q)(AV:cb q)(f9:cw prog w seq ps)(Au:cb seq)(eT:∀p∈ps,cb p)(sq:∀j,j<=ps.length->cb (acc j))(oZ:∀j p,ps[j]? =some p->pO prog w (n+1) q [acc j,p] (acc (j+1))):
  dY prog w (n+2) 73 [q,seq,acc 0] (acc ps.length):=by
 refine dY.m1 (args:=[q,seq,acc 0]) (names:=["function","sequence","initial"]) (m:=[("function",q),("sequence",seq),("initial",acc 0)]) (c:=72) (by exact⟨rfl,rfl,rfl,rfl,rfl,rfl,rfl,ee (by kernel_rfl),rfl,rfl,rfl,kinds_of (by kernel_rfl),rfl,rfl,rfl,by dsimp only,by dsimp only,by kernel_rfl⟩) (by exact rfl) ⟨AV,Au,sq 0 (c0 _),trivial⟩ (by exact rfl) ?_ ?_
 ·intro W A s vs cI c5 g low bb a4;have lQ:=bb;refine bj bb λv1 _ ax _ aU=>?_;refine bj aU λv2 _ aC _ dq=>?_;refine bj dq λoD _ a8 _ bX=>?_;subst ax aC a8;rw[show _=[] from bX] at lQ ⊢;show wpAny _ _ (seqItems? (.ref 66) >>=_) _ _ _;refine aH (wpAny_seqItems (g.K _ _ (PH w)) rfl ?_);exact wpAny_of_eq (a:=([("function",v1),("sequence",v2),("initial",oD)]:List (Str×Value))) (by rfl) (a4 [v1,v2,oD] s lQ (.refl s) g)
 intro env ba d8 fw d3;intro s₀ W₀ J ad A s E ai F;refine nW λcI jZ=>?_;refine wpAny_execs_cons (wpAny_Assign_Name ?_ rfl);show wpAny _ _ (do callWith _ (<-eval _ env) [] _ _) _ _ _;refine aH ((ft (n:=n+1) (v:= .builtin "iter") (by walk_at"e") DC (by exact rfl) (by decide+kernel) (by kernel_rfl)) _ A s _ E ai F.st λBB Wf AM ff ga=>?_);rw[show BB= .builtin "iter" from AM];have Fa:=F.ext ff ga;refine Cr (ps:=[seq]) (es:=[.Name "sequence" _]) ai Fa.st (aK.cons (by walk_at"e") aK.nil rfl) rfl λvs au bb az aF=>?_;have aX:=Fa.ext az aF;refine bj bb λv _ aC aq a8=>?_;subst aC;rw[show _=[] from a8];refine Ky (f9 _ A.in1 au v _ E (ai.in1.le (c0 _)) aF aX.st.low aq λbh fp wr P T aL aR aY aW bE fb dP dC kf b5=>?_);have bp:b1 w s₀ env W₀ ad (λa=>J a\/a∈wr) _ aL:=aX.nL aR aY (λa af=> .inl af) λa af aN=>by
  have af:=af.resolve_left aN;exact⟨fb a af,dC 0 _ bE a af,(dP a (aW.sub a af)).2⟩
 refine bp.put (p:= .val (.ref bh)) rfl trivial (.inl (by walk_at"e")) λeb du fZ=>?_;refine wpAny_execs_cons (F5 (Φ:=λej m'=>match ej with | .next=>m'=(("value",acc 0)::("it",.val (.ref bh))::[("function",q),("sequence",seq),("initial",acc 0)]:Loc) |_=>False) (j7 (c:=false) (bV.cmp (p:= .list l0) (h0▸Ev.name (bS (by decide+kernel) (by walk_at"e")) (by kernel_rfl)) (fC (by walk_at"e") IY (by kernel_rfl)) H2 (by with_unfolding_all rfl)) (λh=>by injection h) (λ_=>bg.cons (jb (p:=acc 0) (by walk_at"e") (sq 0 (c0 _)) (.inl (by walk_at"e")) (bg.nil rfl) rfl))) ai du λej c9 o=>?_);induction ej with
 |next=>
  refine bj o λa3 m' f3 lP n8=>?_;have n8:m'=_:=n8;subst n8;have uQ:∀{a3 m' s'},b1 w s₀ env W₀ a3 (λa=>J a\/a∈wr) m' s'->∀b∈wr,¬b4 env m' a3 b:=λaS b I z=>by
   refine eK (aS.ec b (.inr I)) λab ae aD bc=>?_;rcases z with z |⟨nm,z⟩ |⟨y,av,z⟩
   ·exact ae z
   ·exact aD nm b z rfl
   ·exact bc y av z
  have Bd:=fZ.trans lP;have rj:T 0 c9.heap:=aW.frame 0 _ _ bE λb I o e=>by
   have aM:=(dP b I).2;rcases kf b I with z |⟨⟨bZ,aO⟩,z⟩
   ·exact(Bd b o (uQ bp b z) aM e).1
   ·exact(Bd b o (λy=>z Au y.j2) aM e).1
  refine wpAny_execs_cons (wpAny_For ?_ (λ_=>rfl));refine(Ev.name (prog:=prog) (w:=w) (n:=n+1) (m:=(("value",acc 0)::("it",.val (.ref bh))::[("function",q),("sequence",seq),("initial",acc 0)]:Loc)) (p:= .val (.ref bh)) (by walk_at"e") (by kernel_rfl)) _ A c9 _ E ai f3.st λUw gD mb jO ji=>?_;rw[show Uw= .ref bh from mb];have iv:=f3.ext jO ji;have rg:T 0 gD.heap:=aW.frame 0 _ _ rj λb I o e=>jO.keep _ _ (dP b I).2 e;refine aW.of_in1.self 0 gD _ E rg ?_;refine codeAny_mono (DR (prog:=prog) (E:=E) (x:="element") (orelse:=[]) (Φ:=λej m'=>match ej with | .next=>bM m' "value" (acc ps.length) |_=>False) (λj m'=>bM m' "value" (acc j)/\bM m' "function" q) ai aF (λa af=>aE (aX.st.low a (.dw af)) λQo _=>ah Qo λo e cF=>⟨o,e⟩) iv (((bC.ext aR).trans Bd).trans (.ext jO)) aW.of_in1 rg fb (λb I=>(dP b I).2) dC (λb I=>(kf b I).imp id λQr=>aE Qr λa c=>⟨a,c Au⟩) b5 eT (.inl (by walk_at"e")) ⟨a5,by walk_at"e"⟩
   (λj p m' aa Qc=>aE Qc λew gv=>bg.cons (jb (p:=acc (j+1)) (Ju (Ev.name (bS (by kernel_rfl) gv) (by kernel_rfl)) aG (aK.cons (Ev.name (bS (by kernel_rfl) ew) (by kernel_rfl)) (aK.cons (Ev.name a5 (by kernel_rfl)) aK.nil rfl) rfl) (oZ j p aa) rfl rfl) (sq (j+1) (iL aa)) (.inl (by walk_at"e")) (bg.nil ⟨a5,bS (by kernel_rfl) (bS (by kernel_rfl) gv)⟩) rfl)) (λm' Rg=>aE Rg λew _=>bg.nil ew)) λr lS o=>?_
  induction r with
  |error e=>exact o
  |ok f=>
   induction f with
   |next=>
    refine bj o λVz UK xQ _ Bu=>?_;have Bu:bM UK "value" (acc ps.length):=Bu;refine wpAny_execs_cons (F5 (Φ:=λej _=>match ej with | .ret z=>z=acc ps.length |_=>False) (df.ret (Ev.name Bu (by kernel_rfl)) (sq _ (Nat.le_refl _)) rfl) ai xQ λej nN o=>?_);induction ej with
    |next=>refine bj o λ_ _ _ _ z=>?_;exact z.elim
    |brk=>refine bj o λ_ _ _ _ z=>?_;exact z.elim
    |cont=>refine bj o λ_ _ _ _ z=>?_;exact z.elim
    |ret v=>exact jZ _ _ o
   |brk=>refine bj o λ_ _ _ _ z=>?_;exact z.elim
   |cont=>refine bj o λ_ _ _ _ z=>?_;exact z.elim
   |ret v=>refine mO o λ_ _ _ _ _ z=>?_;exact z.elim
 |brk=>refine bj o λ_ _ _ _ z=>?_;exact z.elim
 |cont=>refine bj o λ_ _ _ _ z=>?_;exact z.elim
 |ret v=>refine mO o λ_ _ _ _ _ z=>?_;exact z.elim
theorem CJ:nsIn (KF w) 3 "reduce"=some (some (.ref 73)):=by kernel_rfl
noncomputable def mv(rf:Str->Str)(row:List Str)(turn:Nat):List Str:=if rf (row.getD (row.length - 1) "") != row.getD (row.length - 1) "" then row++[Txt.slice (rf (row.getD turn "")) (some 1) none] else row
noncomputable def dT(rf:Str->Str)(host:Str):Nat->List Str
 |0=>[host]
 |j+1=>mv rf (dT rf host j) j
theorem Kx(rf:Str->Str)(host:Str)(j:Nat):∃r,dT rf host (j+1)=dT rf host j++r:=by
 show∃r,mv rf (dT rf host j) j=_;unfold mv;split
 ·exact⟨_,rfl⟩
 ·exact⟨[],by simp⟩
theorem Jy(rf:Str->Str)(host:Str)(j:Nat):∀d,∃r,dT rf host (j+d)=dT rf host j++r:=by
 intro a9;induction a9 with
 |zero=>
  exact⟨[],by simp⟩
 |succ d aw=>
  refine aP aw λr h=>?_;refine aP (Kx rf host (j+d)) λr' h'=>?_;exact⟨r++r',by rw[<-Nat.add_assoc,h',h,append_assoc]⟩
theorem vO(rf:Str->Str)(host:Str):∀j,(dT rf host j).length=j+1\/(0 < (dT rf host j).length/\(dT rf host j).length<=j+1/\(rf ((dT rf host j).getD ((dT rf host j).length - 1) "") != (dT rf host j).getD ((dT rf host j).length - 1) "")=false):=by
 intro a9;induction a9 with
 |zero=>
  exact .inl rfl
 |succ j aw=>
  have e:dT rf host (j+1)=mv rf (dT rf host j) j:=rfl;induction I:(rf ((dT rf host j).getD ((dT rf host j).length - 1) "") != (dT rf host j).getD ((dT rf host j).length - 1) "") with
  |true=>
   rcases aw with h |⟨_,_,h⟩
   ·left
    rw[e];unfold mv;rw[aQ I,length_append,h];rfl
   ·rw[I] at h;injection h
  |false=>
   have aC:dT rf host (j+1)=dT rf host j:=by rw[e];unfold mv;rw[aI (by rw[I];decide)]
   right
   rw[aC];rcases aw with h |⟨ab,ae,aD⟩
   ·exact⟨by walk_at"o",by walk_at"o",I⟩
   ·exact⟨ab,by walk_at"o",I⟩
theorem L9{rf:Str->Str}(bf:∀y∈dT rf host 5,dY prog w 2 64 [.str y] (.str (rf y)))(hz:∀y∈dT rf host 5,(rf y).length<=sizeLine):dY prog w 5 222 [.str host] (.list (aB (dT rf host 5))):=by
 refine dY.of (names:=["host"]) (m:=[("host",.str host)]) (c:=221) (by exact⟨rfl,rfl,rfl,rfl,rfl,rfl,rfl,ee (by kernel_rfl),rfl,rfl,rfl,kinds_of (by kernel_rfl),rfl,rfl,rfl,by dsimp only,by dsimp only,by kernel_rfl⟩) (bind1 λa=>by exact rfl) (by exact rfl) ⟨trivial,trivial⟩ (by exact rfl) ?_;intro env ba d8 fw d3;have aG:env.qual++("<lambda>":Str)="_law_climb.<locals>.<lambda>":=by rw[fw];decide+kernel
 have d4:iy 0 5 1=5:=by kernel_rfl
 have hlen:(fR 0 5 1).length=5:=by unfold fR;rw[bO,length_range,d4]
 have sl:∀j,j<=5->∀y∈dT rf host j,y∈dT rf host 5:=λj aN y av=>by
  refine aP (Jy rf host j (5 - j)) λr h=>?_;rw[show j+(5 - j)=5 by walk_at"o"] at h;rw[h];exact b6 _ av
 have de:sizeLine=2 ^ 24:=rfl;refine bg.cons (df.ret (p:= .list (aB (dT rf host 5))) (Ev.call (ps:=[_,.gY 0 5 1,.list (aB (dT rf host 0))]) (fC (by walk_at"e") CJ (by kernel_rfl)) (.inr (.inr ⟨73,_,_,rfl,rfl,rfl⟩))
  (aK.cons (Ev.lam d8 (P:=217) (by kernel_rfl) (.inl ⟨rfl,rfl,rfl,aG⟩) rfl (by kernel_rfl)) (aK.cons (Ev.call (ft (by walk_at"e") qa (by exact rfl) (by decide+kernel) (by kernel_rfl)) (.inr (.inl ⟨"range",rfl⟩)) (aK.cons Ev.int aK.nil rfl) rM rfl rfl) (aK.cons (Ev.list (aK.cons (by walk_at"e") aK.nil rfl) (show(1:Nat)<=_ by decide)) aK.nil rfl) rfl) rfl) ?_ rfl rfl) d5 rfl)
 have key:∀P:FuncData->Prop,(∀j,j < 5->pO prog w 3 (.lam P) [.list (aB (dT rf host j)),.int j] (.list (aB (dT rf host (j+1)))))->Cl prog w 4 (.ref 73) [.lam P,.gY 0 5 1,.list (aB (dT rf host 0))] (.list (aB (dT rf host 5))):=λP b5=>by
  have red:=Dk (prog:=prog) (w:=w) (n:=2) (q:= .lam P) (seq:= .gY 0 5 1) (ps:=fR 0 5 1) (acc:=λj=> .list (aB (dT rf host j))) rfl (.inr ⟨_,rfl⟩) trivial (cw.gY (by kernel_rfl) (by decide+kernel)) trivial (λp aa=>by refine ah (bA.mp aa) λi _ aU=>?_;subst aU;exact trivial) (λj _=>d5) ?_
  ·rw[hlen] at red;exact red.cl
  ·intro j p aa;have Gd:j < 5:=by have:=iL aa;exact GB ‹_› rfl
   have gL:p= .int j:=by
    unfold fR at aa;rw[d7] at aa;refine ah (Option.map_eq_some_iff.mp aa) λi hi a7=>?_;subst a7;rw[getElem?_range (by rw[d4];exact Gd)] at hi;obtain rfl:=bT hi;congr 1;walk_at"o"
   subst gL;exact b5 j Gd
 refine key _ λj aN=>?_;refine pO.lam (names:=["row","turn"]) (by rintro fd ⟨pm,il,iV,rfl⟩;exact⟨rfl,rfl,rfl,rfl,rfl,r7 λa b=>by exact rfl⟩) rfl (by decide+kernel) (by decide+kernel) (by decide+kernel) (by kernel_rfl) rfl rfl rfl ⟨d5,trivial,trivial⟩ d5 ?_;intro mM tf;show Ev prog w 2 mM [("row",ak.list (aB (dT rf host j))),("turn",ak.int j)] _ _;have BI:(aB (dT rf host j)).length<=sizeLine:=by rw[cz];rcases vO rf host j with h |⟨_,h,_⟩<;>walk_at"o"
 have ue:0 < (dT rf host j).length:=by rcases vO rf host j with h |⟨h,_,_⟩<;>walk_at"o"
 have fg:=sl j (by exact Nat.le_of_lt ‹_›);generalize kH:dT rf host j=row at*;have z3:∀i,i < row.length->row.getD i ""∈row/\(aB row)[i]? =some (.str (row.getD i "")):=λi hi=>by
  rw[c8,cm hi];exact⟨getElem_mem hi,by simp[aB,getElem?_map,getElem?_eq_getElem hi]⟩
 have Ey:∀{bW cc fN fy:Pos} {k:Nat},Ev prog w 2 mM [("row",ak.list (aB row)),("turn",ak.int j)] (.Subscript (.Name "row" bW) (.UnaryOp .USub (.Constant (.int 1) k cc) fN) fy) (.str (row.getD (row.length - 1) "")):=by
  intros
  refine Ev.item (k:= .int (-1)) (Ev.name (by exact rfl) (by kernel_rfl)) (k1 Ev.int) Typed.list fD.lookup (Cm (by decide) (by rw[cz];walk_at"o") ?_ BI) λ_ _=>rfl;rw[cz,show((-1:Int)+(row.length:Nat)).toNat=row.length - 1 by walk_at"o"];exact(z3 _ (by walk_at"o")).2
 have EE:∀{e:Expr} {y:Str} {bW pos:Pos} (he:Ev prog w 2 mM [("row",ak.list (aB row)),("turn",ak.int j)] e (.str y)) (hs:starEach [e] mM=[(false,eval e mM)]) (fo:eval (.Call (.Name "reach" bW) [e] [] pos) mM=(do callWith pos (<-eval (.Name "reach" bW) mM) [] (backTo pos (starEach [e] mM)) (backToKw pos (keywordEach [] mM)))),y∈row->Ev prog w 2 mM [("row",ak.list (aB row)),("turn",ak.int j)] (.Call (.Name "reach" bW) [e] [] pos) (.str (rf y)):=by
  intro e y bW pos he hs fo av;exact Ev.call (fC (qc tf (by decide) (by kernel_rfl)) Ke (by kernel_rfl)) (.inr (.inr ⟨64,_,_,rfl,rfl,rfl⟩)) (aK.cons he aK.nil (by rw[hs];rfl)) (bf y (fg y av)).cl (by rw[hs];rfl) fo
 have O4:dT rf host (j+1)=mv rf row j:=by rw[<-kH];rfl
 rw[O4];unfold mv;refine CQ (c:=rf (row.getD (row.length - 1) "") != row.getD (row.length - 1) "") (bV.cmp (EE Ey rfl rfl (z3 _ (by walk_at"o")).1) Ey Dp (by with_unfolding_all rfl)) (λU=>?_) λU=>?_
 ·rw[aQ U,jH];have pz:j < row.length:=by
   have:=vO rf host j;rw[kH] at this;rcases this with h |⟨_,_,h⟩
   ·walk_at"o"
   ·rw[U] at h;injection h
  have Bx:=z3 j pz;refine d6 (Ev.name (by exact rfl) (by kernel_rfl)) (Ev.list (ps:=[.str (Txt.slice (rf (row.getD j "")) (some 1) none)]) (aK.cons (yk (EE (Ev.item (k:= .int j) (Ev.name (by exact rfl) (by kernel_rfl)) (Ev.name (by exact rfl) (by kernel_rfl)) Typed.list fD.lookup (cA.item (by exact Int.natCast_nonneg _) (by rw[Int.toNat_natCast];exact Bx.2) BI) λ_ _=>rfl) rfl rfl Bx.1) Ev.int (hz _ (fg _ Bx.1))) aK.nil rfl) (show(1:Nat)<=_ by decide)) (ts (by show _+1<=_;rw[cz] at BI ⊢;rcases vO rf host j with h |⟨_,h,_⟩<;>rw[kH] at h<;>walk_at"o"))
 ·rw[aI (by rw[U];decide)];exact Ev.name (by exact rfl) (by kernel_rfl)
open AutoSeq1 (wpAny_loadPart')
open MeetsSeq MeetsSeq3
noncomputable abbrev dh(x y:Value)(n:Nat):Obj:={cls:= .type "list",data:= .seq #[x,y] n}
noncomputable def k8(x y gf gM:Int):Bool:=decide (x < gf)||(x==gf&&decide (y < gM))
theorem D7{a b:Int}{t:Tok}(h:Q (.bool (decide (a < b))) s):wpAny (model prog w) A (richCompare .Lt (.int a t) (.int b u)) Q E s:=by
 have:=PyProof.Rows.lt_int (prog:=prog) (w:=w) (A:=A) (s:=s) (a:=a) (b:=b) (t:=t) (u:=u) (Q:=Q) (E:=E) h;exact this
section
variable {a b:Addr} {x y gf gM:Int} {t1 e7 t3 kV:Tok} {n hZ:Nat}
theorem Ln:Meets (Builtin.«list.__eq__.loop» ⟨[.ref a,.ref b,rawInt 2,rawInt 0],[]⟩)
  (λ_ R s=>s.heap.get? a=some (dh (.int x t1) (.int y e7) n)/\s.heap.get? b=some (dh (.int gf t3) (.int gM kV) hZ)/\R (.ok (.ret (.bool false))) s):=by
 intro prog w A R s h;obtain⟨aa,g,d,tk,os⟩:=s;refine cB h λao I h=>?_
 wp_walk using wpAny_loadPart' ao,wpAny_loadPart' I
 exact h
theorem L0:Meets (Builtin.«list.__eq__.loop» ⟨[.ref a,.ref b,rawInt 1,rawInt 0],[]⟩)
  (λ_ R s=>s.heap.get? a=some (dh (.int x t1) (.int y e7) n)/\s.heap.get? b=some (dh (.int gf t3) (.int gM kV) hZ)/\R (.ok (.ret (.bool (decide (y < gM))))) s):=by
 intro prog w A R s h;obtain⟨aa,g,d,tk,os⟩:=s;refine cB h λao I h=>?_
 wp_walk using wpAny_loadPart' ao,wpAny_loadPart' I
 show wpAny _ _ (eqBool (.int y e7) (.int gM kV)) _ _ _;refine wpAny_eqBool_int ?_;by_cases e:y=gM
 ·subst e;rw[beq_self_eq_true]
  wp_walk
  exact⟨plainId_quiet plain_eq_loop _,codeAny_builtin entry_eq_loop (by
   rw[Around.under_plainId plain_eq_loop _];exact Ln prog w A R _ ⟨ao,I,by simpa using h⟩)⟩
 ·rw[ey.mpr e,aI (by decide)];refine aH (listItems_at ao rfl (aH (listItems_at I rfl ?_)));show wpAny _ _ (do let r<-richCompare .Lt (.int y e7) (.int gM kV);ret r) _ _ _;exact aH (D7 (bu h))
theorem Li:Meets (Builtin.«list.__eq__.loop» ⟨[.ref a,.ref b,rawInt 0,rawInt 0],[]⟩)
  (λ_ R s=>s.heap.get? a=some (dh (.int x t1) (.int y e7) n)/\s.heap.get? b=some (dh (.int gf t3) (.int gM kV) hZ)/\R (.ok (.ret (.bool (k8 x y gf gM)))) s):=by
 intro prog w A R s h;obtain⟨aa,g,d,tk,os⟩:=s;refine cB h λao I h=>?_;unfold k8 at h
 wp_walk using wpAny_loadPart' ao,wpAny_loadPart' I
 show wpAny _ _ (eqBool (.int x t1) (.int gf t3)) _ _ _;refine wpAny_eqBool_int ?_;by_cases e:x=gf
 ·subst e;rw[beq_self_eq_true]
  wp_walk
  exact⟨plainId_quiet plain_eq_loop _,codeAny_builtin entry_eq_loop (by
   rw[Around.under_plainId plain_eq_loop _];exact L0 prog w A R _ ⟨ao,I,by simpa using h⟩)⟩
 ·rw[ey.mpr e] at h;rw[ey.mpr e,aI (by decide)];refine aH (listItems_at ao rfl (aH (listItems_at I rfl ?_)));show wpAny _ _ (do let r<-richCompare .Lt (.int x t1) (.int gf t3);ret r) _ _ _;exact aH (D7 (bu (by simpa using h)))
theorem Ld:Meets (Builtin.«list.__lt__» ⟨[.ref a,.ref b],[]⟩)
  (λ_ R s=>s.heap.get? a=some (dh (.int x t1) (.int y e7) n)/\s.heap.get? b=some (dh (.int gf t3) (.int gM kV) hZ)/\R (.ok (.ret (.bool (k8 x y gf gM)))) s):=by
 intro prog w A R s h;obtain⟨aa,g,d,tk,os⟩:=s;refine cB h λao I h=>?_;have sZ:=AutoSeq1.sub_list_list
 wp_walk using wpAny_loadPart' ao,wpAny_loadPart' I
 exact⟨plainId_quiet plain_eq_loop _,codeAny_builtin entry_eq_loop (by
  rw[Around.under_plainId plain_eq_loop _];exact Li prog w A R _ ⟨ao,I,h⟩)⟩
theorem LG{Q:Bool->Shared->Prop}(bD:A.units < cLine)(af:s.heap.get? a=some (dh (.int x t1) (.int y e7) n))(I:s.heap.get? b=some (dh (.int gf t3) (.int gM kV) hZ))(h:Q (k8 x y gf gM) s):
  wpAny (model prog w) A (oneLt' true (.ref a) (.ref b)) Q E s:=by
 rw[oneLt'_eq];simp only[if_true];refine aH (wpAny_cRoomFor bD ?_);refine aH (wpAny_callSpecialIfBound?_slot (T:="list") ⟨_,af,rfl⟩ PySem.F.slot_list_lt (call_meets PySem.F.slot_list_lt ⟨_,af,rfl⟩ PySem.F.entry_list_lt (PySem.F.args_list_lt_2 _ _) Ld ⟨af,I,?_⟩));exact wpAny_truthy_bool h
end
noncomputable def kv(K:Nat->Int)(p:Array Nat)(i:Nat):Int:=K (p.getD i 0)
def jm(K:Nat->Int)(p:Array Nat)(m:Nat):Prop:=∀i j,i < j->j < m->kv K p i < kv K p j
def zX(K:Nat->Int)(p:Array Nat)(m:Nat):Prop:=∀i j,i < j->j < m->kv K p j < kv K p i
structure fG (n:Nat) (p:Array Nat):Prop where
 size:p.size=n
 perm:p.toList.Perm (range n)
section
variable {K:Nat->Int} {n:Nat} {cmp:Nat->Nat->(Bool->Shared->Prop)->Shared->Prop} {s:Shared}
theorem fG.lt{p:Array Nat}(h:fG n p)(hi:i < n):p.getD i 0 < n:=by
 have fl:i < p.size:=by rw[h.size];exact hi
 have e:p.getD i 0=p[i]:=by simp[Array.getD,fl]
 rw[e];exact List.mem_range.mp (h.perm.mem_iff.mp (by simp))
theorem fG.inj{p:Array Nat}(h:fG n p){j:Nat}(hi:i < n)(aN:j < n)(e:p.getD i 0=p.getD j 0):i=j:=by
 have fl:i < p.size:=by rw[h.size];exact hi
 have pz:j < p.size:=by rw[h.size];exact aN
 have BF:p.getD i 0=p[i]:=by simp[Array.getD,fl]
 have BH:p.getD j 0=p[j]:=by simp[Array.getD,pz]
 rw[BF,BH] at e;have nd:p.toList.Nodup:=h.perm.nodup_iff.mpr nodup_range;exact(getElem_inj (xs:=p.toList) (h₀:=by exact fl) (h₁:=by exact pz) nd).mp (by exact e)
theorem fG.ne(bx:∀i j,i < n->j < n->K i=K j->i=j){p:Array Nat}(h:fG n p){j:Nat}(hi:i < n)(aN:j < n)(e:i≠j):kv K p i≠kv K p j:=λq=>e (h.inj hi aN (bx _ _ (h.lt hi) (h.lt aN) q))
theorem fG.of{p q:Array Nat}(h:fG n p)(aG:q.Perm p):fG n q:=⟨by rw[aG.size_eq,h.size],(Array.perm_iff_toList_perm.mp aG).trans h.perm⟩
theorem vX{p q:Array Nat}{j:Nat}(e:p[i]? =q[j]?):kv K p i=kv K q j:=by
 unfold kv;rw[Array.getD_eq_getD_getElem?,Array.getD_eq_getD_getElem?,e]
variable (bx:∀i j,i < n->j < n->K i=K j->i=j) (U:∀i j C,i < n->j < n->C (decide (K i < K j)) s->cmp i j C s)
include bx U
theorem D0:∀(f:Nat) (p:Array Nat) (m:Nat) {Q:Nat->Shared->Prop},fG n p->jm K p m->1<=m->m+f=n->(∀m',m<=m'->m'<=n->jm K p m'->(m'=n\/(m' < n/\kv K p m' < kv K p (m' - 1)))->Q m' s)->(kas_asc p f m).kasWp cmp Q s:=by
 intro a9;induction a9 with
 |zero=>
  intro p m Q aa hi ab hm h;exact h m (Nat.le_refl _) (by walk_at"o") hi (.inl (by walk_at"o"))
 |succ f aw=>
  intro p m Q aa hi ab hm h;show cmp (p.getD m 0) (p.getD (m - 1) 0) (λc s'=>(if c=true then .ret m else kas_asc p f (m+1):KasT Nat).kasWp cmp Q s') s;refine U _ _ _ (aa.lt (by walk_at"o")) (aa.lt (by walk_at"o")) ?_;by_cases cu:kv K p m < kv K p (m - 1)
  ·rw[el (show K (p.getD m 0) < K (p.getD (m - 1) 0) from cu)];show KasT.kasWp cmp (if true=true then _ else _) Q s;rw[aQ rfl];exact h m (Nat.le_refl _) (by walk_at"o") hi (.inr ⟨by walk_at"o",cu⟩)
  ·rw[decide_eq_false (show¬K (p.getD m 0) < K (p.getD (m - 1) 0) from cu)];show KasT.kasWp cmp (if false=true then _ else _) Q s;rw[aI (by decide)];have bY:=aa.ne bx (i:=m) (j:=m - 1) (by walk_at"o") (by walk_at"o") (by walk_at"o");refine aw p (m+1) aa (λi j m7 aN=>?_) (by exact fW rfl) (by walk_at"o") λm' a b c d=>h m' (by exact Nat.le_of_succ_le ‹_›) b c d;by_cases e:j=m
   ·subst e;by_cases aC:i=j - 1
    ·subst aC;walk_at"o"
    ·have:=hi i (j - 1) (by walk_at"o") (by walk_at"o");walk_at"o"
   ·exact hi i j m7 (by walk_at"o")
theorem LB:∀(f:Nat) (p:Array Nat) (m:Nat) {Q:Array Nat×Nat×Nat->Shared->Prop},fG n p->zX K p m->2<=m->m+f=n->(∀m',m<=m'->m'<=n->zX K p m'->Q (p,m',0) s)->(kas_desc f p m 0).kasWp cmp Q s:=by
 intro a9;induction a9 with
 |zero=>
  intro p m Q aa hi ab hm h;exact h m (Nat.le_refl _) (by walk_at"o") hi
 |succ f aw=>
  intro p m Q aa hi ab hm h;show cmp (p.getD m 0) (p.getD (m - 1) 0) (λc s'=>(if c=true then(if 0 > 0 then kas_desc f (kas_rev p (m - (0+1)) m) (m+1) 0 else kas_desc f p (m+1) 0)
   else .ask (p.getD (m - 1) 0) (p.getD m 0) λd=>if d=true then .ret (p,m,0) else kas_desc f p (m+1) (0+1):KasT _).kasWp cmp Q s') s
  refine U _ _ _ (aa.lt (by walk_at"o")) (aa.lt (by walk_at"o")) ?_;have bY:=aa.ne bx (i:=m) (j:=m - 1) (by walk_at"o") (by walk_at"o") (by walk_at"o");by_cases cu:kv K p m < kv K p (m - 1)
  ·rw[el (show K (p.getD m 0) < K (p.getD (m - 1) 0) from cu)];show KasT.kasWp cmp (if true=true then _ else _) Q s;rw[aQ rfl,aI (by decide)];refine aw p (m+1) aa (λi j m7 aN=>?_) (by walk_at"o") (by walk_at"o") λm' a b c=>h m' (by exact Nat.le_of_succ_le ‹_›) b c;by_cases e:j=m
   ·subst e;by_cases aC:i=j - 1
    ·subst aC;exact cu
    ·have:=hi i (j - 1) (by walk_at"o") (by walk_at"o");walk_at"o"
   ·exact hi i j m7 (by walk_at"o")
  ·rw[decide_eq_false (show¬K (p.getD m 0) < K (p.getD (m - 1) 0) from cu)];show KasT.kasWp cmp (if false=true then _ else _) Q s;rw[aI (by decide)];refine U _ _ _ (aa.lt (by walk_at"o")) (aa.lt (by walk_at"o")) ?_;rw[el (show K (p.getD (m - 1) 0) < K (p.getD m 0) by show kv K p (m - 1) < kv K p m;walk_at"o")];show KasT.kasWp cmp (if true=true then _ else _) Q s;rw[aQ rfl];exact h m (Nat.le_refl _) (by walk_at"o") hi
theorem Kj{p:Array Nat}{m:Nat}{Q:Nat×Array Nat->Shared->Prop}(aa:fG n p)(hi:zX K p m)(ab:1<=m)(hm:m<=n)(h:∀m' q,1<=m'->m'<=n->fG n q->jm K q m'->Q (m',q) s):(kas_tail3 m n p).kasWp cmp Q s:=by
 unfold kas_tail3;rw[KasT.kasWp_bind];have aG:fG n (kas_rev p 0 m):=aa.of (mirror_perm _ _ _ _);have qJ:jm K (kas_rev p 0 m) m:=λi j m7 aN=>by
  have e:∀k,k < m->kv K (kas_rev p 0 m) k=kv K p (m - 1 - k):=λk ar=>vX (by
   unfold kas_rev;rw[getElem?_mirror_all (by rw[aa.size];exact hm),aQ ⟨c0 _,ar⟩];congr 1;walk_at"o")
  rw[e i (by exact Nat.lt_trans ‹_› ‹_›),e j aN];exact hi _ _ (by walk_at"o") (by walk_at"o")
 exact D0 bx U _ _ m aG qJ ab (by walk_at"o") λm' a b c d=>h m' _ (by walk_at"o") b aG c
theorem J6{p:Array Nat}{Q:Nat×Array Nat->Shared->Prop}(aa:fG n p)(ae:2<=n)(h:∀m' q,1<=m'->m'<=n->fG n q->jm K q m'->Q (m',q) s):(kas_count n p).kasWp cmp Q s:=by
 unfold kas_count;rw[KasT.kasWp_bind];refine D0 bx U _ p 1 aa (λi j m7 aN=>by walk_at"o") (by exact fW rfl) (by walk_at"o") λm a b hi d=>?_;by_cases e:m=n
 ·rw[aQ (by walk_at"o")];exact h m p a b aa hi
 ·rw[aI (by walk_at"o")];have d:=d.resolve_left e;by_cases g:m > 1
  ·rw[aQ g];refine U _ _ _ (aa.lt (by walk_at"o")) (aa.lt (by walk_at"o")) ?_;rw[el (show K (p.getD 0 0) < K (p.getD (m - 1) 0) from hi 0 (m - 1) (by walk_at"o") (by walk_at"o"))];show KasT.kasWp cmp (if true=true then _ else _) Q s;rw[aQ rfl];exact h m p a b aa hi
  ·rw[aI g];have hm:m=1:=by walk_at"o"
   subst hm;unfold kas_descPart;rw[KasT.kasWp_bind];refine LB bx U _ p 2 aa (λi j m7 aN=>?_) (by exact fW rfl) (by walk_at"o") λm' nh BJ hd=>?_
   ·have:i=0:=by walk_at"o"
    have:j=1:=by walk_at"o"
    subst i j;exact d.2
   ·dsimp only;rw[aI (by decide)];exact Kj bx U aa hd (by exact Nat.le_of_succ_le ‹_›) BJ h
theorem Kn{p:Array Nat}{k:Nat}(aa:fG n p)(ar:k < n):∀(f l r:Nat) {Q:Nat->Shared->Prop},l<=r->r<=k->r - l<=f->(∀i,i < l->kv K p i < kv K p k)->(∀i,r<=i->i < k->kv K p k < kv K p i)->jm K p k->(∀l',l'<=k->(∀i,i < l'->kv K p i < kv K p k)->(∀i,l'<=i->i < k->kv K p k < kv K p i)->Q l' s)->(kas_place p k f l r).kasWp cmp Q s:=by
 intro a9;induction a9 with
 |zero=>
  intro l r Q Sm n3 hf hF iU qJ h;exact h l (by walk_at"o") hF λi a b=>iU i (by walk_at"o") b
 |succ f aw=>
  intro l r Q Sm n3 hf hF iU qJ h;unfold kas_place;by_cases g:l>=r
  ·rw[aQ g];exact h l (by walk_at"o") hF λi a b=>iU i (by walk_at"o") b
  ·rw[aI g];refine U _ _ _ (aa.lt ar) (aa.lt (by walk_at"o")) ?_;have wI:(l+r) / 2 < k:=by walk_at"o"
   have bY:=aa.ne bx (i:=k) (j:=(l+r) / 2) ar (by exact Nat.lt_trans ‹_› ‹_›) (by walk_at"o");by_cases cu:kv K p k < kv K p ((l+r) / 2)
   ·rw[el (show K (p.getD k 0) < K (p.getD ((l+r) / 2) 0) from cu)];show KasT.kasWp cmp (if true=true then _ else _) Q s;rw[aQ rfl];refine aw l ((l+r) / 2) (by walk_at"o") (by exact Nat.le_of_lt ‹_›) (by walk_at"o") hF (λi a b=>?_) qJ h;by_cases e:i=(l+r) / 2
    ·subst e;exact cu
    ·have:=qJ ((l+r) / 2) i (by walk_at"o") b;walk_at"o"
   ·rw[decide_eq_false (show¬K (p.getD k 0) < K (p.getD ((l+r) / 2) 0) from cu)];show KasT.kasWp cmp (if false=true then _ else _) Q s;rw[aI (by decide)];refine aw ((l+r) / 2+1) r (by walk_at"o") (by assumption) (by walk_at"o") (λi a=>?_) iU qJ h;by_cases e:i=(l+r) / 2
    ·subst e;walk_at"o"
    ·have:=qJ i ((l+r) / 2) (by walk_at"o") wI;walk_at"o"
theorem My:∀(f:Nat) (p:Array Nat) (k:Nat) {Q:Array Nat->Shared->Prop},fG n p->jm K p k->k+f=n->(∀q,fG n q->jm K q n->Q q s)->(kas_bin f p k).kasWp cmp Q s:=by
 intro a9;induction a9 with
 |zero=>
  intro p k Q aa hi ar h;exact h p aa (by rw[<-ar];exact hi)
 |succ f aw=>
  intro p k Q aa hi ar h;show((kas_place p k k 0 k).bind λl=>kas_bin f (bubble p k (k - l)) (k+1)).kasWp cmp Q s;rw[KasT.kasWp_bind];refine Kn bx U aa (by walk_at"o") k 0 k (by exact fW rfl) (by walk_at"o") (by walk_at"o") (λi a=>by walk_at"o") (λi a b=>by walk_at"o") hi λl ao hF iU=>?_;refine aw _ (k+1) (aa.of (bubble_perm _ _ _)) (λi j m7 aN=>?_) (by walk_at"o") h;have e:∀i,i<=k->kv K (bubble p k (k - l)) i=if i=l then kv K p k else if l < i then kv K p (i - 1) else kv K p i:=λi hi=>by
   have g:=getElem?_bubble (xs:=p) (src:=k) (by rw[aa.size];walk_at"o") (k - l) (by walk_at"o") i;rw[show k - (k - l)=l by walk_at"o"] at g;replace g:=g;by_cases ab:i=l
   ·rw[aQ ab] at g ⊢;exact vX g
   ·rw[aI ab] at g ⊢;replace g:=g;by_cases ae:l < i
    ·rw[aQ ⟨ae,hi⟩] at g;rw[aQ ae];exact vX g
    ·rw[aI (λq=>ae q.1)] at g;rw[aI ae];exact vX g
  rw[e i (by walk_at"o"),e j (by walk_at"o")];by_cases hl:i=l
  ·rw[aQ hl,aI (by walk_at"o"),aQ (by walk_at"o")];exact iU _ (by walk_at"o") (by walk_at"o")
  ·rw[aI hl];by_cases hK:l < i
   ·rw[aQ hK,aI (by walk_at"o"),aQ (by exact Nat.lt_trans ‹_› ‹_›)];exact hi _ _ (by walk_at"o") (by walk_at"o")
   ·rw[aI hK];by_cases oF:j=l
    ·rw[aQ oF];exact hF _ (by exact Nat.lt_of_lt_of_eq ‹_› ‹_›)
    ·rw[aI oF];by_cases xy:l < j
     ·rw[aQ xy];by_cases BS:i < j - 1
      ·exact hi _ _ BS (by walk_at"o")
      ·walk_at"o"
     ·rw[aI xy];exact hi _ _ m7 (by walk_at"o")
theorem Mf{Q:Array Nat->Shared->Prop}(ae:2<=n)(h:∀q,fG n q->jm K q n->Q q s):(kas_sort n).kasWp cmp Q s:=by
 unfold kas_sort;rw[KasT.kasWp_bind];have aa:fG n (List.toArray (range n)):=⟨by simp,by simp⟩
 refine J6 bx U aa ae λm q ab hm aG hi=>?_;dsimp only;by_cases g:m < n
 ·rw[aQ g,show max m 1=m by walk_at"o"];exact My bx U _ q m aG hi (by walk_at"o") h
 ·rw[aI g];have:m=n:=by exact Nat.le_antisymm ‹_› (Nat.not_lt.mp ‹_›)
  subst this;exact h q aG hi
end
section
variable {prog:Program} {w:World}
theorem wc{b:Addr}{o:Obj}(g:G w s.heap)(e:Ext s s')(gh:G w s'.heap)(aA:s.heap.get? b=none)(aj:s'.heap.get? b=some o)(hd:∀vs,o.data≠ .fields vs)(hs:SameBut b s'.heap h'):
  Ext s {s' with heap:=h',toks:=tk}/\G w h':=by
 refine cn e.same λh₁ Vc az=>?_;refine⟨⟨⟨h',tk,by rw[az]⟩,λc cP U q=>?_⟩,g.set gh aA aj hd hs⟩;exact hs.extBut c cP (λz=>by subst z;rw[aA] at q;injection q) (e.keep c cP U q)
structure xB (w:World) (s:Shared) (W:Addr->Prop) (a kS:Addr) (g5 gZ:Nat->Int) (xs:Array Value) (ax:Nat) (j:Nat) (s':Shared):Prop where
 ext:Ext s s'
 g:G w s'.heap
 na:s.heap.get? a=Option.none
 md:s.heap.get? kS=Option.none
 ne:a≠kS
 eF:s'.heap.get? a=some (seqObj "list" xs ax)
 lk:∃ks c,s'.heap.get? kS=some (seqObj "list" (List.toArray ks) c)/\ks.length=j/\∀i v,ks[i]? =some v->∃k t1 e7 n,v= .ref k/\k≠a/\k≠kS/\s'.heap.get? k=some (dh (.int (g5 i) t1) (.int (gZ i) e7) n)
theorem rZ{c:String} :∀vs,(seqObj c xs n).data≠ .fields vs:=λvs q=>by injection q
def M8(w:World)(s:Shared)(vs:List Value)(K:Nat->Int)(Q:Value->Shared->Prop):Prop:=
 ∀D out n p s',Ext s s'->G w s'.heap->s.heap.get? D=none->s'.heap.get? D=some (seqObj "list" (List.toArray out) n)->fG vs.length p->jm K p vs.length->out=p.toList.map (λi=>vs.getD i Value.none)->Q (.ref D) s'
variable {s:Shared} {W:Addr->Prop} {g5 gZ K:Nat->Int} {vs:List Value} {A:Around} {E:Value->Shared->Prop} {Q:Value->Shared->Prop} {a kS:Addr} {ax:Nat}
theorem D5{st:SortSt}{p:Array Nat}{P:PySem.Fin->Shared->Prop}(g:G w s.heap)(l3:vs.length < 64)(H:xB w s W a kS g5 gZ #[] ax vs.length s')(aa:fG vs.length p)(hi:jm K p vs.length)(Bw:(arrOf st).map (·.2)=List.toArray (p.toList.map λi=>vs.getD i Value.none))(hf:failedOf st=none)
  (h:∀out n s',Ext s s'->G w s'.heap->s'.heap.get? a=some (seqObj "list" (List.toArray out) n)->fG vs.length p->jm K p vs.length->out=p.toList.map (λi=>vs.getD i Value.none)->P (.done (.ret .none)) s'):wpAny (model prog w) A (ksk_tail a false ax (.ref kS) st) P E s':=by
 refine bj H.lk λks c ar ao _=>?_;have s1:=SameBut.update s'.heap kS (Obj.mapSeq λ_=>(#[]:Array Value));have ng:=wc (tk:=s'.toks) g H.ext H.g H.md ar rZ s1;have xq:(s'.heap.update kS (Obj.mapSeq λ_=>(#[]:Array Value))).get? a=some (seqObj "list" #[] ax):=(s1.2 a H.ne).trans H.eF;have s2:=SameBut.update (s'.heap.update kS (Obj.mapSeq λ_=>(#[]:Array Value))) a (Obj.mapSeq λ_=>List.toArray (p.toList.map λi=>vs.getD i Value.none));have HL:=wc (tk:=s'.toks) g ng.1 ng.2 H.na xq rZ s2;have de:sizeLine=2 ^ 24:=rfl;unfold ksk_tail
 try dsimp only
 rw[Bw];refine aH (listUpdate_at ar rfl ?_ (by rw[List.size_toArray];walk_at"o") (c0 _));refine aH (wpAny_letGo ?_);refine aH (seqEpoch_at xq rfl ?_);refine aH (listUpdate_at xq rfl ?_ (c0 _) (by simp only[Bool.false_eq_true,if_false,List.size_toArray,length_map,Array.length_toList,aa.size];exact bH (Nat.le_of_lt ‹_›) rfl));rw[hf];simp only[bne_self_eq_false,Bool.false_eq_true,if_false];exact bu (h _ _ _ HL.1 HL.2 (get?_update_seq xq _) aa hi rfl)
theorem ND{P:PySem.Fin->Shared->Prop}(g:G w s.heap)(l3:vs.length < 64)(ai:A.units < cLine){ks:List Value}{c:Nat}(H:xB w s W a kS g5 gZ #[] ax vs.length s')(ar:s'.heap.get? kS=some (seqObj "list" (List.toArray ks) c))(ao:ks.length=vs.length)(q1:∀i v,ks[i]? =some v->∃k t1 e7 n,v= .ref k/\s'.heap.get? k=some (dh (.int (g5 i) t1) (.int (gZ i) e7) n))
  (bx:∀i j,i < vs.length->j < vs.length->K i=K j->i=j) (lR:∀i j,i < vs.length->j < vs.length->k8 (g5 i) (gZ i) (g5 j) (gZ j)=decide (K i < K j))
  (h:∀p out n s',Ext s s'->G w s'.heap->s'.heap.get? a=some (seqObj "list" (List.toArray out) n)->fG vs.length p->jm K p vs.length->out=p.toList.map (λi=>vs.getD i Value.none)->P (.done (.ret .none)) s'):wpAny (model prog w) A (ksk_end a false vs.toArray ax (.ref kS) (List.toArray ks)) P E s':=by
 unfold ksk_end
 try dsimp only
 simp only[Bool.false_eq_true,if_false];by_cases ae:vs.toArray.size < 2
 ·rw[aQ ae,aQ ae];refine aH (bu ?_);rw[StateT.run_pure];refine aH (bu ?_)
  try dsimp only
  rw[List.size_toArray] at ae;have aa:fG vs.length (List.toArray (range vs.length)):=⟨by simp,by simp⟩
  refine D5 g l3 H aa (λi j ab aD=>by walk_at"o") ?_ rfl (h _);have e:=kas_range ((List.toArray ks).zip vs.toArray);rw[show((List.toArray ks).zip vs.toArray).size=vs.length by simp[ao]] at e;exact kat_snds ao (by rw[e])
 ·rw[aI ae,aI ae];rw[List.size_toArray] at ae;refine aH (kas_kind (T:= .type "list") (by walk_at"o") (λv aq=>?_) (by decide) (by decide) ?_)
  ·refine aP (List.mem_iff_getElem?.mp aq) λi hi=>?_;refine wR (q1 i v hi) λk t1 e7 n aU Bg=>?_;subst aU;exact(Looks.ld Bg).andThen .now
  refine aH (wpAny_mono (kat_run (ks:=ks) (vs:=vs) (κ:=oneType') (Q:=λso b2=>b2=s'/\∃p:Array Nat,fG vs.length p/\jm K p vs.length/\arrOf so=p.map (kas_item ((List.toArray ks).zip vs.toArray))/\failedOf so=none) (G:=λp b2=>b2=s'/\fG vs.length p/\jm K p vs.length) ao (by walk_at"o") l3 (λp so b2 ax aC a8 bX=>⟨bX.1,p,bX.2.1,bX.2.2,aC,a8⟩) ?_) ?_ λ_ _ x=>x)
  ·refine Mf bx ?_ (by walk_at"o") λq ab aD=>⟨rfl,ab,aD⟩
   intro i j C hi aN gk;obtain⟨UU,Vn,VL,V3,BF,oq⟩:=q1 i ks[i] (cm (by walk_at"o"));obtain⟨Wb,VF,VE,s9,BH,UI⟩:=q1 j ks[j] (cm (by walk_at"o"));show wpAny _ _ (keyLt' oneType' (ks.getD i Value.none) (ks.getD j Value.none)) C _ _;rw[c8,c8,cm (by walk_at"o"),cm (show j < ks.length by walk_at"o"),getD_some,getD_some,BF,BH,keyLt'_oneType];exact LG ai oq UI (by rw[lR i j hi aN];exact gk)
  ·intro dg b2 eZ;obtain⟨dq,so⟩:=dg;obtain⟨⟩:=dq;obtain⟨e2,p,aa,hi,Bw,hf⟩:=eZ;subst e2
   try dsimp only
   exact D5 g l3 H aa hi (kat_snds ao Bw) hf (h p)
theorem Ms{f:Value}{P:PySem.Fin->Shared->Prop}(g:G w s.heap)(l3:vs.length < 64)(ai:A.units < cLine)(H:xB w s W a kS g5 gZ #[] ax 0 au)
  (bx:∀i j,i < vs.length->j < vs.length->K i=K j->i=j) (lR:∀i j,i < vs.length->j < vs.length->k8 (g5 i) (gZ i) (g5 j) (gZ j)=decide (K i < K j))
  (turn:∀i v,vs[i]? =some v->∀(X:Addr->Prop) s',(∀b,X b->s.heap.get? b=none)->(∀b,X b->(∃o,s'.heap.get? b=some o/\cx o)/\¬cf b)->Ext s s'->G w s'.heap->∀(cI:Value->Shared->Prop) (c5:Value->Shared->Prop),(∀u b2,a6 w b2.heap (λb=>W b\/X b) (.list [.int (g5 i),.int (gZ i)]) u->Ext s' b2->G w b2.heap->cI u b2)->wpAny (model prog w) A (call f [v]) cI c5 s')
  (h:∀p out n s',Ext s s'->G w s'.heap->s'.heap.get? a=some (seqObj "list" (List.toArray out) n)->fG vs.length p->jm K p vs.length->out=p.toList.map (λi=>vs.getD i Value.none)->P (.done (.ret .none)) s'):wpAny (model prog w) A (ksk_rest a f false vs.toArray ax (.ref kS)) P E au:=by
 have de:sizeLine=2 ^ 24:=rfl;unfold ksk_rest;refine aH (wpAny_rule ?_)
 first
  |rw[List.forIn_toArray]
  |(rw[<-Array.forIn_toList];simp only[List.toList_toArray])
  |rw[<-Array.forIn_toList]
 refine aH (ksk_fold (λi s'=>xB w s W a kS g5 gZ #[] ax i s') vs 0 au H ?step ?done)
 case step=>
  intro j x s' ag hL;rw[Nat.zero_add] at hL ⊢;replace hL:=hL;have aN:j < vs.length:=iL ag;have wz:∀{b},s.heap.get? b=none->¬cf b:=λI=>g.fu I;refine bj hL.lk λks c ar ao q1=>?_;refine aH (wpAny_attempt (turn j x ag (λb=>b=a\/b=kS) s' (λb I=>I.elim (λe=>e▸hL.na) λe=>e▸hL.md) (λb I=>?_) hL.ext hL.g _ _ λu b2 bD e Bm=>?_))
  ·rcases I with rfl |rfl
   ·exact⟨⟨_,hL.eF,.inr rZ⟩,wz hL.na⟩
   ·exact⟨⟨_,ar,.inr rZ⟩,wz hL.md⟩
  ·refine cg bD λk Hs n a7 Gp TU aq=>?_;subst a7;refine bj aq λv1 gG dy bk b7=>?_;refine bj b7 λv2 e3 bN bz hq=>?_;refine aP bk λt1 uV=>?_;refine aP bz λe7 RT=>?_;have hq:e3=[]:=hq;subst hq uV RT bN dy;have cj:=e.keep _ _ (wz hL.md) ar;have ju:=e.keep _ _ (wz hL.na) hL.eF;have bY:k≠a/\k≠kS:=⟨λq=>Gp (.inr (.inl q)),λq=>Gp (.inr (.inr q))⟩
   have s1:=SameBut.update b2.heap kS (Obj.mapSeq (·.push (.ref k)));have ng:=wc (tk:=b2.toks) g (hL.ext.trans e) Bm hL.md cj rZ s1
   try dsimp only
   refine aH (listUpdate_at cj rfl ?_ (by rw[List.size_toArray];walk_at"o") (by rw[Array.size_push,List.size_toArray];walk_at"o"));obtain⟨hK,sv⟩:∃hK,(b2.heap.update kS (Obj.mapSeq (·.push (.ref k)))).get? kS=some (seqObj "list" (List.toArray (ks++[.ref k])) hK):=⟨_,by rw[show List.toArray (ks++[.ref k])=(List.toArray ks).push (.ref k) by simp];exact get?_update_seq cj (·.push (.ref k))⟩
   refine bu ⟨rfl,ng.1,ng.2,hL.na,hL.md,hL.ne,(s1.2 a hL.ne).trans ju,ks++[.ref k],hK,sv,by simp[ao],λi v mb=>?_⟩
   ·by_cases hi:i < ks.length
    ·rw[getElem?_append_left hi] at mb;refine wM (q1 i v mb) λk' Ug UX hZ cC ab ae aD=>?_;subst cC;have Ah:=e.keep _ _ (hL.g.fY aD eG) aD;exact⟨k',Ug,UX,hZ,rfl,ab,ae,(s1.2 k' ae).trans Ah⟩
    ·rw[getElem?_append_right (by walk_at"o")] at mb;replace mb:=mb;have Bn:i - ks.length=0:=by
      induction q:i - ks.length with
      |zero=>rfl
      |succ m=>rw[q] at mb;(focus (injection mb;done))
     rw[Bn] at mb;obtain rfl:=bT mb;have:i=j:=by walk_at"o"
     subst this;exact⟨k,t1,e7,n,rfl,bY.1,bY.2,(s1.2 k bY.2).trans TU⟩
 case done=>
  intro s' vi;rw[Nat.zero_add] at vi;replace vi:=vi;refine bj vi.lk λks c ar ao q1=>?_
  try dsimp only
  refine aH (listItems_at ar rfl ?_);exact ND g l3 ai vi ar ao (λi v q=>wM (q1 i v q) λk t1 e7 n rC _ _ BU=>⟨k,t1,e7,n,rC,BU⟩) bx lR h
theorem J3{l:Addr}{rq:Nat}{f:Value}(g:G w s.heap)(ao:s.heap.get? l=some {cls:= .type "list",data:= .seq ⟨vs⟩ rq})(l3:vs.length < 64)(ai:A.in1.in1.units < cLine)
  (aM:∀x,Builtin.«list.sort» ⟨[.ref x],[(Str.ofString "key",f)]⟩=ksk_tree x f false)
  (bx:∀i j,i < vs.length->j < vs.length->K i=K j->i=j) (lR:∀i j,i < vs.length->j < vs.length->k8 (g5 i) (gZ i) (g5 j) (gZ j)=decide (K i < K j))
  (turn:∀i v,vs[i]? =some v->∀(X:Addr->Prop) s',(∀b,X b->s.heap.get? b=none)->(∀b,X b->(∃o,s'.heap.get? b=some o/\cx o)/\¬cf b)->Ext s s'->G w s'.heap->∀(cI:Value->Shared->Prop) (c5:Value->Shared->Prop),(∀u b2,a6 w b2.heap (λb=>W b\/X b) (.list [.int (g5 i),.int (gZ i)]) u->Ext s' b2->G w b2.heap->cI u b2)->wpAny (model prog w) A.in1.in1 (call f [v]) cI c5 s')
  (h:M8 w s vs K Q):wpAny (model prog w) A (call (.builtin "sorted") [.ref l] [(Str.ofString "key",f)]) Q E s:=by
 have de:sizeLine=2 ^ 24:=rfl;refine call_function_entry_kw kind_sorted plain_sorted entry_sorted (ksk_s1 _ _) ?_;unfold Builtin.«sorted»;refine aH (m:=checkCount "sorted" 1 1 _) (bu ?_);refine aH (collect_list (vs:=vs) ⟨_,ao,rfl,rq,rfl⟩ ?_ (by exact bH (Nat.le_of_lt ‹_›) rfl));refine aH (wpAny_newList ?_ (by exact bH (Nat.le_of_lt ‹_›) rfl));have hg:((s.heap.push (seqObj "list" #[] 0)).update s.heap.objs.size (Obj.mapSeq (· ++vs.toArray))).objs.size=s.heap.objs.size+1:=by
  rw[size_update,size_push']
 have uO:(((s.heap.push (seqObj "list" #[] 0)).update s.heap.objs.size (Obj.mapSeq (· ++vs.toArray))).push (seqObj "list" vs.toArray 0)).get? (s.heap.objs.size+1)=some (seqObj "list" vs.toArray 0):=by
  rw[<-hg];exact dc _ rfl
 have keep:∀b o,s.heap.get? b=some o->(((s.heap.push (seqObj "list" #[] 0)).update s.heap.objs.size (Obj.mapSeq (· ++vs.toArray))).push (seqObj "list" vs.toArray 0)).get? b=some o:=λb o q=>by
  have cu:b < s.heap.objs.size:=lt_size q;rw[get?_push_ne _ _ _ (by rw[hg];exact Nat.ne_of_lt (Nat.lt_succ_of_lt cu)),get?_update_ne _ _ _ _ (Nat.ne_of_lt cu),get?_push_ne _ _ _ (Nat.ne_of_lt cu)];exact q
 have vm:s.heap.get? (s.heap.objs.size+1)=none:=get?_none_of_le (Nat.le_succ _);show wpAny _ _ _ _ _ {s with heap:=((s.heap.push (seqObj "list" #[] 0)).update s.heap.objs.size (Obj.mapSeq (· ++vs.toArray))).push (seqObj "list" vs.toArray 0)};rw[hg];generalize dr:((s.heap.push (seqObj "list" #[] 0)).update s.heap.objs.size (Obj.mapSeq (· ++vs.toArray))).push (seqObj "list" vs.toArray 0)=h₁ at*;generalize s.heap.objs.size+1=a at*;refine aH (wpAny_holding (wpAny_call_entry_kw slot_list_sort ⟨_,uO,rfl⟩ entry_list_sort ?body (ksk_l1 _ _)));show wpAny (model prog w) A.in1.in1 (Builtin.«list.sort» ⟨[.ref a],_⟩) _ _ _;rw[aM];have s1:=SameBut.update h₁ a (Obj.mapSeq λ_=>(#[]:Array Value));have HK:Ext s {s with heap:=h₁}/\G w h₁:=⟨.keeps keep,g.keeps keep⟩
 have ng:=wc (tk:=s.toks) g HK.1 HK.2 vm uO rZ s1;have pG:=get?_update_seq uO λ_=>(#[]:Array Value)
 generalize Vu:(if(#[]:Array Value).size==vs.toArray.size then 0 else 0+1)=ax at pG;unfold ksk_tree;refine aH (listItems_at uO rfl ?_);refine aH (listUpdate_at uO rfl ?_ (by rw[List.size_toArray];exact bH (Nat.le_of_lt ‹_›) rfl) (c0 _));generalize Vt:h₁.update a (Obj.mapSeq λ_=>(#[]:Array Value))=cX at*;refine aH (seqEpoch_at pG rfl ?_);refine aH (wpAny_newTuple ?_ (by show vs.length<=_;exact bH (Nat.le_of_lt ‹_›) rfl));refine aH (wpAny_newList ?_ (c0 _));refine wpAny_holding ?_;have gy:∀b o,cX.get? b=some o->((cX.push (seqObj "tuple" vs.toArray 0)).push (seqObj "list" #[] 0)).get? b=some o:=λb o q=>dV _ (dV _ q);have md:cX.get? (cX.push (seqObj "tuple" vs.toArray 0)).objs.size=none:=get?_none_of_le (by rw[size_push];exact Nat.le_succ _);have Ry:s.heap.get? (cX.push (seqObj "tuple" vs.toArray 0)).objs.size=none:=by
  induction q:s.heap.get? (cX.push (seqObj "tuple" vs.toArray 0)).objs.size with
  |none=>rfl
  |some o=>
   have:=ng.1.keep _ _ (ng.2.fu md) q;rw[show({s with heap:=cX,toks:=s.toks}:Shared).heap=cX from rfl,md] at this;injection this
 refine Ms (W:=W) (kS:=(cX.push (seqObj "tuple" vs.toArray 0)).objs.size) g l3 ai ⟨ng.1.trans (.keeps (tk:=s.toks) gy),ng.2.keeps gy,vm,Ry,λq=>?_,gy _ _ pG,[],0,dc _ rfl,rfl,λi v q=>by(focus (injection q;done))⟩ bx lR turn λp out n s' rC U4 UO BU Uh Ul=>⟨_,rfl,bu ⟨_,rfl,h a out n p s' rC U4 vm UO BU Uh Ul⟩⟩
 rw[<-q,pG] at md;injection md
end
theorem KO{sc:Scope}{x:Str}(S:iK scope sc x true)(ba:c6 env sc)(jV:cenv.scope=scope)(hF:cenv.locals=C)(u4:cenv.globals=env.globals)(uX:cenv.builtins=env.builtins)(pq:cenv.cells=(x,C+1)::fH env.cells scope.names [])
  {W W':Addr->Prop} {mf:Loc} {p:ak} {v:Value} {h₁ h:Heap} (c4:St w env W m h₁)
  (f7:∀y p,mf.lookup y=some p->m.lookup y=some p/\scope.names.lookup y=some .free) (keep:gd h₁ h) (g:G w h) (low:eB W' h) (gk:¬cf C) (Bi:¬cf (C+1)) (sL:∀b o,o.cls≠ .none->h₁.get? b=some o->(W b↔W' b)) (ag:h.IsCell (C+1) (some v)) (aa:a6 w h W' p v):
  c6 cenv scope/\St w cenv W' ((x,p)::mf) h:=by
 have fr:=S.frees ba;have kM:c6 cenv scope:=by
  refine⟨λy k ar e=>by show cenv.scope.names.lookup y=_;rw[jV];exact e,λy e=> .inl (by show cenv.scope.names.lookup y=_;rw[jV];exact e),λy q=>?_,by rw[jV];exact S.fn⟩;have e:cenv.cells=cellsFrom (C+1) scope.names (fH env.cells scope.names []):=by rw[pq,S.xV];rfl
  rw[e];refine cellsFrom_some ?_;rcases q with q |q
  ·exact .inr q
  ·left
   rw[vQ S.nd q];rfl
 refine⟨kM,by rw[jV];exact S.fn,u4.trans c4.gl,uX.trans c4.bi,g,low,by rw[hF];exact gk,λnm a af=>?_,λy q aG=>?_⟩
 ·rw[pq,di] at af;replace af:=af;induction av:nm==x with
  |true=>rw[av] at af;obtain rfl:=bT af;exact Bi
  |false=>
   rw[av] at af;rcases CZ af (λz hz ar=>(fr z hz ar).1) with q |q
   ·injection q
   ·exact c4.cY _ _ q
 ·by_cases e:y=x
  ·subst e;rw[a5] at aG;obtain rfl:=bT aG;refine⟨v,.inr ⟨.inl (kM.kind _ _ (by decide) S.ag),C+1,by rw[pq,di,beq_self_eq_true],ag⟩,aa⟩
  ·rw[j4 e] at aG;refine aE (f7 y q aG) λab ae=>?_;refine ah (c4.has y q ab) λu bD eS=>?_;refine cB (fr (y,.free) (mem_of_lookup ae) rfl) λf1 f2 sZ=>?_;refine⟨u,?_,eS.chg λb o U ct=>⟨c4.g.mc keep b o U ct,sL b o U ct⟩⟩;rcases bD with⟨bP,_⟩ |⟨_,c',fq,o,aj,hd⟩
   ·rcases f2 with f2 |f2<;>(rw[bP] at f2;exact absurd f2 (by decide))
   ·refine .inr ⟨.inr ⟨by show cenv.scope.names.lookup y=_;rw[jV];exact ae,sZ⟩,c',?_,o,keep _ _ (c4.cY _ _ fq) aj,hd⟩;rw[pq,di,ey.mpr e,vQ S.nd ae,fq];rfl
theorem Kb{sc:Scope}{x:Str}{p:ak}{body:Expr}{pm iV:Value}{f:Addr}{v:Value} 
  (S:iK scope sc x true) (ba:c6 env sc) (qM:scope.isCoroutine=false) (qN:scope.isGenerator=false) (ai:bK (n+1) A) (st:St w env W m s.heap)
  (hf:s.heap.get? f=some (kla_obj "<lambda>" qual params body scope (fH env.cells scope.names []) pm c' iV)) (U:s.heap.get? c'=some cP) (aG:qu cP qual) (jK:bindArgs (kla_fn "<lambda>" qual params body scope (fH env.cells scope.names []) pm (.ref c') iV) ⟨[v],[]⟩=pure [(x,v)])
  (f7:∀y p,mf.lookup y=some p->m.lookup y=some p/\scope.names.lookup y=some .free) (aq:a6 w s.heap W p v) (aa:cb p) (AV:cb q) (h:∀cenv,c6 cenv scope->Ev prog w n cenv ((x,p)::mf) body q)
  (a4:∀hV s',a6 w s'.heap W q hV->Ext s s'->G w s'.heap->Q hV s'):wpAny (model prog w) A (call (.ref f) [v]) Q E s:=by
 obtain⟨_,il,kX,dC,uZ⟩:=aG;refine wpAny_call (kla_callFunE (fd:=kla_fn "<lambda>" qual params body scope (fH env.cells scope.names []) pm (.ref c') iV) ai.lim hf rfl qM qN rfl ⟨c',cP,il,kX,rfl,U,dC,uZ⟩ ?_);rw[jK];refine bu ?_;show wpAny _ _ (newFunctionEnv scope 3 (fH env.cells scope.names []) [(x,v)] _ _ _ none 0) _ _ _;simp only[newFunctionEnv,isSome_none,Bool.false_eq_true,if_false];refine aH (wpAny_alloc ?_);refine aH (wpAny_layCells _ (λname kind cells=>by cases A1:kind==NameKind.cell<;>exact rfl) _ _ _ _ ?_);rw[show({s with heap:=s.heap.push {cls:= .type "frame",data:= .dict #[]}}:Shared).heap.objs.size=s.heap.objs.size+1 from size_push ..];rw[S.xV];show wpAny _ _ _ _ _ {s with heap:=pushCells (s.heap.push _) scope.names};rw[S.pc];simp only[if_true];have wC:((s.heap.push {cls:= .type "frame",data:= .dict #[]}).push {cls:= .type "cell",data:= .cell none}).IsCell (s.heap.objs.size+1) none:=by
  have e:=size_push s.heap {cls:= .type "frame",data:= .dict #[]};rw[<-e];exact⟨_,dc _ rfl,rfl⟩
 have bP:∀b o,s.heap.get? b=some o->((s.heap.push {cls:= .type "frame",data:= .dict #[]}).push {cls:= .type "cell",data:= .cell none}).get? b=some o:=λb o e=>dV _ (dV _ e);have d3:((s.heap.push {cls:= .type "frame",data:= .dict #[]}).push {cls:= .type "cell",data:= .cell none}).get? s.heap.objs.size=some {cls:= .type "frame",data:= .dict #[]}:=dV _ (dc _ rfl);generalize ((s.heap.push {cls:= .type "frame",data:= .dict #[]}).push {cls:= .type "cell",data:= .cell none})=h₁ at*;refine aH ?_;rw[forIn_cons];refine aH (aH (wpAny_storeName_cell (c:=s.heap.objs.size+1) S.fn S.ag ?_ wC λcX EU E4=>?_))
 ·exact di.trans (by rw[beq_self_eq_true])
 ·refine bu ?_;show wpAny _ _ (forIn [] _ _) _ _ _;rw[forIn_nil];refine bu (bu ?_);have rq:s.heap.get? s.heap.objs.size=none:=er _;have km:s.heap.get? (s.heap.objs.size+1)=none:=get?_none_of_le (Nat.le_succ _);have tV:∀b o,s.heap.get? b=some o->cX.get? b=some o:=λb o e=>E4.extBut b o (λq=>by rw[q,km] at e;injection e) (bP _ _ e);have aY:G w cX:=st.g.keeps tV;refine⟨aY.lim,?_⟩;obtain⟨cenv,kE⟩:∃cenv:Env,{scope:=scope,locals:=s.heap.objs.size,globals:=3,cells:=(x,s.heap.objs.size+1)::fH env.cells scope.names [],qual:=qual++".<locals>.",func:=some f,code:= .ref c',frame:=some s.heap.objs.size,builtins:=0}=cenv:=⟨_,rfl⟩
  show codeAny _ _ (.expr body {scope:=scope,locals:=s.heap.objs.size,globals:=3,cells:=(x,s.heap.objs.size+1)::fH env.cells scope.names [],qual:=qual++".<locals>.",func:=some f,code:= .ref c',frame:=some s.heap.objs.size,builtins:=0}) _ _;rw[kE];have dN:cenv.scope=scope:=by rw[<-kE]
  have ax:cenv.locals=s.heap.objs.size:=by rw[<-kE]
  have aC:cenv.cells=(x,s.heap.objs.size+1)::fH env.cells scope.names []:=by rw[<-kE]
  have a8:cenv.globals=env.globals:=by rw[<-kE];exact st.gl.symm
  have bX:cenv.builtins=env.builtins:=by rw[<-kE];exact st.bi.symm
  have aW:∀b,(W b\/b=s.heap.objs.size\/b=s.heap.objs.size+1)->(∃o,s.heap.get? b=some o)->W b:=λb I fm=>by
   refine aP fm λo e=>?_;rcases I with I |rfl |rfl
   ·exact I
   ·rw[rq] at e;injection e
   ·rw[km] at e;injection e
  have N2:eB (λb=>W b\/b=s.heap.objs.size\/b=s.heap.objs.size+1) cX:=λb I=>by
   rcases I with I |rfl |rfl
   ·refine aE (st.low b I) λaU kO=>?_;refine ah aU λob e cF=>?_;exact⟨⟨ob,tV _ _ e,cF⟩,kO⟩
   ·exact⟨⟨_,E4.extBut _ _ (Nat.ne_of_lt (Nat.lt_succ_self _)) d3,.inr λvs q=>by injection q⟩,st.g.fu rq⟩
   ·refine ah (tm EU) λo aj hd=>?_;exact⟨⟨o,aj,.inr hd⟩,st.g.fu km⟩
  obtain⟨kM,wq⟩:=KO (cenv:=cenv) (W':=λb=>W b\/b=s.heap.objs.size\/b=s.heap.objs.size+1) (p:=p) (v:=v) S ba dN ax a8 bX aC st f7 (.of tV) aY N2 (st.g.fu rq) (st.g.fu km) (λb o _ e=>⟨.inl,λq=>aW b q ⟨o,e⟩⟩) EU
   (aq.upd (λb ob I _ e=>⟨tV _ _ e,λq=>I (aW b q ⟨ob,e⟩)⟩) aa)
  refine kla_codeExpr (h cenv kM _ _ {s with heap:=cX} _ _ ai.in wq λhV s' jr aO gh=>?_);exact a4 hV s' (jr.upd (λb ob I _ e=>⟨e,λq=>I (.inl q)⟩) AV) ((Ext.keeps tV).trans aO) gh
theorem Ip{α:Type}{K:α->Int}:∀{l l':List α},l.Perm l'->l.Pairwise (λa b=>K a < K b)->l'.Pairwise (λa b=>K a < K b)->l=l':=by
 intro a9;induction a9 with
 |nil=>
  intro l' p _ _;exact p.nil_eq
 |cons a r aw=>
  intro l' p h h';induction l' with
  |nil=>exact absurd p.length_eq (by exact nofun)
  |cons b r'=>
   have e:a=b:=by
    have af:a∈b::r':=p.mem_iff.mp cM;have I:b∈a::r:=p.mem_iff.mpr cM;rcases bI.mp af with e |af
    ·exact e
    ·rcases bI.mp I with e |I
     ·exact e.symm
     ·have ab:=(List.pairwise_cons.mp h).1 b I;have ae:=(List.pairwise_cons.mp h').1 a af;omega
   subst e;rw[aw (Perm.cons_inv p) (List.pairwise_cons.mp h).2 (List.pairwise_cons.mp h').2]
theorem JT:nsIn (KF w) 3 "sorted"=some none:=by kernel_rfl
theorem bJ.getD{l:List ak}(x:bJ w h W l vs):∀rE:List Nat,(∀j∈rE,j < l.length)->bJ w h W (rE.map λj=>l.getD j .none) (rE.map λj=>vs.getD j Value.none):=by
 intro a9;induction a9 with
 |nil=>
  intro _;exact rfl
 |cons j r aw=>
  intro aN;obtain⟨v,aq,aa⟩:=x.at (i:=j) (p:=l[j]'(aN j cM)) (cm _);refine⟨_,_,rfl,?_,aw λk ar=>aN k (en _ ar)⟩;show a6 w h W (l.getD j ak.none) (vs.getD j Value.none);rw[c8,c8,aq,cm (aN j cM)];exact aa
theorem Ig{sc:Scope}{x:Str}{ax body:Expr}{ue zI:Pos}{g5 gZ K:Str->Int}{c P:Addr}
  (ba:c6 env sc) (ar:env.kindOf "sorted"=some .globalImplicit) (he:Ev prog w (n+4) env m ax (.list (aB names))) (l3:names.length < 64) (bo:names.Nodup) (S:iK scope sc x true) (qM:scope.isCoroutine=false) (qN:scope.isGenerator=false)
  (d8:env.code= .ref c) (gk:codeHdIn (KF w) c P=true) (L:qC P ue (env.qual++"<lambda>")) (t6:defaultsOf params env=([],[]))
  (jK:∀(qual:Str) (cl:List (Str×Addr)) (pm il iV v:Value),bindArgs (kla_fn "<lambda>" qual params body scope cl pm il iV) ⟨[v],[]⟩=pure [(x,v)])
  (f7:∀y p,mf.lookup y=some p->m.lookup y=some p/\scope.names.lookup y=some .free)
  (h:∀y∈names,∀cenv,c6 cenv scope->Ev prog w n cenv ((x,.str y)::mf) body (.list [.int (g5 y),.int (gZ y)]))
  (bx:∀y∈names,∀z∈names,K y=K z->y=z) (lR:∀y∈names,∀z∈names,k8 (g5 y) (gZ y) (g5 z) (gZ z)=decide (K y < K z))
  (aa:out.Perm names) (hs:out.Pairwise λa b=>K a < K b) (cv:starEach [ax] env=[(false,eval ax env)])
  (fo:eval (.Call (.Name "sorted" bW) [ax] [⟨some "key",.Lambda params body scope ue,zI⟩] pos) env=(do callWith pos (<-eval (.Name "sorted" bW) env) [] (backTo pos (starEach [ax] env)) (backToKw pos (keywordEach [⟨some "key",.Lambda params body scope ue,zI⟩] env)))):
  Ev prog w (n+4) env m (.Call (.Name "sorted" bW) [ax] [⟨some "key",.Lambda params body scope ue,zI⟩] pos) (.list (aB out)):=λW A s Q E ai hy a4=>by
 rw[fo];refine aH (ft ar JT (v:= .builtin "sorted") (by exact rfl) (by decide+kernel) (by kernel_rfl) W A s _ E ai hy λBB au AM ff ga=>?_);rw[show BB= .builtin "sorted" from AM];have c4:=hy.ext ff ga;have I:backTo pos (starEach [ax] env)=(false,eval ax env)::backTo pos (starEach [] env)\/True:= .inr trivial;refine callWith_kw ?_ ?_ ?_ rfl rfl
 rotate_left
 ·rw[cv];rfl
 ·rw[cv];rfl
 refine aK.cons he aK.nil (by rw[cv];rfl) W A au _ E ai c4 λvs aL bb ct kn=>?_;have wX:=c4.ext ct kn;refine kwAll_cons (kla_eval t6 ?_);have et:closureFor scope env=pure (fH env.cells scope.names []):=yA λz hz ar=>(S.frees ba z hz ar).1;refine DE kn et wX.gl d8 gk L λf c' pm iV cP eb vq s7 aA hf U aG=>?_;refine kwAll_nil ?_;have uy:=wX.ext vq s7;have Nu:=bb.ext kn vq;refine bj Nu λv r Se aq aC=>?_;have aC:r=[]:=aC;subst aC Se;refine cg aq λl us rq aU Vr ao hU=>?_;subst aU;show wpAny _ _ (PySem.call (.builtin "sorted") [.ref l] [(Str.ofString "key",.ref f)]) _ _ _;have Ap:us.length=names.length:=by have:=hU.len;simpa using this.symm
 have SW:∀i v,us[i]? =some v->i < names.length/\∃t,v= .str (names.getD i "") t:=λi v hi=>by
  have cu:i < names.length:=by rw[<-Ap];exact iL hi
  refine⟨cu,?_⟩;refine ah (hU.at' hi) λp aa jT=>?_;rw[d7,cm cu] at aa;obtain rfl:=bT aa;rw[c8,cm cu];exact jT
 have t4:∀i,i < names.length->names.getD i ""∈names:=λi hi=>by
  rw[c8,cm hi];exact getElem_mem hi
 have PB:A.in1.in1.units < cLine:=((ai.le (Nat.le_add_left 2 (n+2))).in1.in1).line;refine J3 (W:=W) (g5:=λi=>g5 (names.getD i "")) (gZ:=λi=>gZ (names.getD i "")) (K:=λi=>K (names.getD i "")) s7 ao (by omega) PB (λa=>ksk_t1 f a) (λi j hi aN e=>?_) (λi j hi aN=>lR _ (t4 i (by exact Nat.lt_of_lt_of_eq ‹_› ‹_›)) _ (t4 j (by exact Nat.lt_of_lt_of_eq ‹_› ‹_›))) ?_ ?_
 ·rw[Ap] at hi aN;replace hi:=hi;replace aN:=aN;have:=bx _ (t4 i hi) _ (t4 j aN) e;rw[c8,cm hi,c8,cm aN] at this;exact(getElem_inj bo).mp this
 ·intro i v hi X s' xu Tw aO gh cI c5 Ss;obtain⟨cu,t,a7⟩:=SW i v hi;subst a7;have uG:∀b o,o.cls≠Value.none->eb.heap.get? b=some o->(W b↔(W b\/X b)):=λb o _ e=>⟨.inl,λq=>q.elim id λq=>by rw[xu b q] at e;injection e⟩
  have so:St w env (λb=>W b\/X b) m s'.heap:=by
   have y:=uy.ext aO gh;refine⟨y.fn,y.gl,y.bi,gh,λb I=>I.elim (λq=>y.low b q) λq=>Tw b q,y.nl,y.cY,λz q hz=>?_⟩;refine ah (uy.has z q hz) λu bD eS=>?_;exact⟨u,bD.kt aO.keep uy.nl uy.cY,eS.chg λb o U ct=>⟨s7.mc aO.keep b o U ct,uG b o U ct⟩⟩
  have gX:=aO.keep _ _ (s7.fY hf eG) hf;have fq:=aO.keep _ _ (s7.fY U (by rw[aG.1];exact eG)) U;exact Kb (n:=n) (W:=λb=>W b\/X b) (p:= .str (names.getD i "")) (q:= .list [.int (g5 (names.getD i "")),.int (gZ (names.getD i ""))]) S ba qM qN ((ai.le (show n+1+1+1<=n+4 by omega)).in1.in1) so gX fq aG (jK ..) f7 ⟨t,rfl⟩ trivial ⟨trivial,trivial,trivial⟩ (h _ (t4 i cu)) Ss
 ·intro D res km p s' aO gh gg An Bt S3 PD;refine a4 _ s' ⟨D,res,km,rfl,λq=>?_,An,?_⟩ (((ff.trans ct).trans vq).trans aO) gh
  ·exact(uy.low.not gg) q
  ·have pI:∀j∈p.toList,j < names.length:=λj aN=>by have:=List.mem_range.mp (Bt.perm.mem_iff.mp aN);exact Nat.lt_of_lt_of_eq ‹_› ‹_›
   have e:aB out=p.toList.map λj=>(aB names).getD j .none:=by
    have ab:out=p.toList.map λj=>names.getD j "":=by
     refine Ip (K:=K) ?_ hs ?_
     ·refine aa.trans ?_;have ae:(p.toList.map λj=>names.getD j "").Perm ((range names.length).map λj=>names.getD j ""):=(by rw[<-Ap];exact Bt.perm.map _)
      refine Perm.trans (Perm.of_eq ?_) ae.symm;refine ext_getElem (by simp) λi ab ae=>?_;simp;rw[cm ab];rfl
     ·rw[pairwise_map,pairwise_iff_getElem];intro i j hi aN m7;have hg:p.toList.length=us.length:=by rw[Array.length_toList];exact Bt.size
      have dr:=S3 i j m7 (by exact Nat.lt_of_lt_of_eq ‹_› ‹_›);have xO:∀k (ar:k < p.toList.length),p.getD k 0=p.toList[k]:=λk ar=>by
       have cj:k < p.size:=by exact ar
       simp[Array.getD,cj]
      unfold kv at dr;rw[xO i hi,xO j aN] at dr;exact dr
    rw[ab,aB,dW];refine map_congr_left λj aN=>?_;have:=pI j aN;rw[c8,d7,cm this];show ak.str (names.getD j "")=_;rw[c8,cm this];rfl
   rw[e,PD];have wJ:=hU.ext s7 aO;exact wJ.getD _ λj aN=>by rw[bO];exact pI j aN
theorem El:nsIn (KF w) 3 "max"=some none:=by kernel_rfl
noncomputable def w7(d:Int->Bool):ak->Bool
 | .int x=>d x
 |_=>false
theorem tU{l:List Int}{d:Int->Bool}{g:Int->ak}:((cp l).filter (w7 d)).map (n2 g)=(l.filter d).map g:=EN (λ_=>rfl) λ_=>rfl
theorem lI{l:List Int}{p:ak}(h:p∈cp l):∃x∈l,p= .int x:=by
 refine ah (bA.mp h) λx ag aU=>?_;subst aU;exact⟨x,ag,rfl⟩
noncomputable def sy(d:List Str->Bool):ak->Bool
 | .list l=>d (l.map λp=>match p with | .str x=>x |_=>"")
 |_=>false
theorem Ec{d:List Str->Bool}{l:List Str}:sy d (.list (aB l))=d l:=by
 show d ((aB l).map _)=d l;congr 1;rw[aB,dW];exact(map_congr_left (g:=id) λ_ _=>rfl).trans (List.map_id _)
theorem EJ{l:List (List Str)}{d:List Str->Bool}:((bF l).filter (sy d)).map id=bF (l.filter d):=by
 have:=EN (φ:=λx:List Str=>ak.list (aB x)) (l:=l) (t:=sy d) (f:=id) (d:=d) (g:=λx=> .list (aB x)) (λ_=>Ec) λ_=>rfl;exact this
theorem vS:∀{a b:List Str},PyData.eqvAll (dX (aB a)) (dX (aB b))=(a==b):=by
 intro a;induction a with
 |nil=>intro b;rcases b with _ |⟨y,b⟩<;>rfl
 |cons x a aw=>
  intro b;rcases b with _ |⟨y,b⟩
  ·rfl
  show(x==y&&PyData.eqvAll (dX (aB a)) (dX (aB b)))=_;rw[aw];rfl
theorem C6:∀{a b:List (List Str)},PyData.eqvAll (dX (bF a)) (dX (bF b))=(a==b):=by
 intro a;induction a with
 |nil=>intro b;rcases b with _ |⟨y,b⟩<;>rfl
 |cons x a aw=>
  intro b;rcases b with _ |⟨y,b⟩
  ·rfl
  show(PyData.eqvAll (dX (aB x)) (dX (aB y))&&PyData.eqvAll (dX (bF a)) (dX (bF b)))=_;rw[vS,aw];rfl
theorem vW{l:List (List Str)}(h:∀x∈l,∀y∈x,PyData.strOk y=true):gJ (bF l):=by
 induction l with
 |nil=>trivial
 |cons a r aw=>exact⟨mw (h a cM),aw λx ag=>h x (en _ ag)⟩
theorem Dt{l:List Str}:(e6 (.list (aB l))).depth<=64:=by
 have:∀l:List Str,PyData.depthAll (dX (aB l))=0:=λl=>by
  induction l with
  |nil=>rfl
  |cons a r aw=>show max _ (PyData.depthAll (dX (aB r)))=0;rw[aw];rfl
 show PyData.depthAll (dX (aB l))+1<=64;rw[this];decide
noncomputable def mN:List Int:=[0,1,2,3,4]
theorem PK:fR 0 5 1=cp mN:=by
 unfold fR;rw[show iy 0 5 1=5 by kernel_rfl];rfl
theorem MM{α:Type}{l:List α}(h:l.length<=5):(cL l (some 1) none none).length<=5:=by
 have key:∀n:Nat,n<=5->(sliceRange (sliceBounds (some 1) none none n).1 (sliceBounds (some 1) none none n).2.1 (sliceBounds (some 1) none none n).2.2).length<=5:=by decide+kernel
 exact Nat.le_trans (NH _ _ _ _) (key _ h)
noncomputable def qA(ls:List (List Str))(k:Int):Nat:=ls.findIdx (· ==ls.getD k.toNat [])
noncomputable def oU(ls:List (List Str)):List Int:=mN.filter λk=>(qA ls k:Int)==k
noncomputable def sb(ls:List (List Str))(k:Int):Bool:=(ls.filter λone=>(cL one (some 1) none none).any (· ==(ls.getD k.toNat []).getD 0 ""))==[]
noncomputable def oR(ls:List (List Str)):List Int:=(oU ls).filter (sb ls)
noncomputable def nz(ls:List (List Str))(name:Str):List Int:=(oR ls).filter λk=>(ls.getD k.toNat []).any (· ==name)
noncomputable def gC(ls:List (List Str))(name:Str):Int:=bestOf (λa b=>decide (b < a)) (nz ls name)
noncomputable def lh(name:Str):Int:= -(Txt.count name ".")
noncomputable def keyOf(ls:List (List Str))(name:Str):Int:=10*gC ls name+lh name
theorem zi{k:Int}(ab:k.toNat < ls.length):(bF ls)[k.toNat]? =some (.list (aB (ls.getD k.toNat []))):=by
 rw[d7,c8,cm ab];rfl
theorem yn{v:Expr}{lo st:Option Expr}{l:List Str}{a b c:Option Int}(aq:Ev prog w n env m v (.list (aB l)))(hF:jt prog w n env m lo a)(iU:jt prog w n env m hi b)(cv:jt prog w n env m st c)(h0:c≠some 0)(hz:l.length<=sizeLine):
  Ev prog w n env m (.Subscript v (.Slice lo hi st sp) pos) (.list (aB (cL l a b c))):=by
 have:=tr (sp:=sp) (pos:=pos) aq hF iU cv h0 (by rw[cz];exact hz)
 rwa [aB,rR] at this
theorem LZ(dz:ls.length=5)(ao:∀l∈ls,l.length<=5)(lX:∀l∈ls,0 < l.length)(e1:∀l∈ls,∀x∈l,PyData.strOk x=true)(Pf:∀x∈names,PyData.strOk x=true)(l3:names.length < 64)(bo:names.Nodup)
  (dr:∀x∈names,0 < (nz ls x).length) (bx:∀y∈names,∀z∈names,keyOf ls y=keyOf ls z->y=z) (lR:∀y∈names,∀z∈names,k8 (gC ls y) (lh y) (gC ls z) (lh z)=decide (keyOf ls y < keyOf ls z)) (aa:out.Perm names) (hs:out.Pairwise λa b=>keyOf ls a < keyOf ls b):
  dY prog w 6 256 [.list (bF ls),.list (aB names)] (.list (aB out)):=by
 refine dY.of (names:=["ladders","names"]) (m:=[("ladders",.list (bF ls)),("names",.list (aB names))]) (c:=255) (by exact⟨rfl,rfl,rfl,rfl,rfl,rfl,rfl,ee (by kernel_rfl),rfl,rfl,rfl,kinds_of (by kernel_rfl),rfl,rfl,rfl,by dsimp only,by dsimp only,by kernel_rfl⟩) (r7 λa b=>by exact rfl) (by exact rfl) ⟨lF,d5,trivial⟩ (by exact rfl) ?_;intro env ba d8 fw d3;have de:sizeLine=2 ^ 24:=rfl;have f6:(bF ls).length<=sizeLine:=by rw[bO];exact bH (Nat.le_of_eq ‹_›) rfl
 have sl:∀k∈mN,0<=k/\k.toNat < 5:=by decide
 have AB:∀k∈mN,ls.getD k.toNat []∈ls:=λk ar=>by
  have:=(sl k ar).2;rw[c8,cm (by walk_at"o")];exact getElem_mem _
 refine bg.cons (jb (p:= .list (((cp mN).filter (w7 λk=>(qA ls k:Int)==k)).map (n2 .int)))
  (kr (x:="k") (c:=false) (q:= .gY 0 5 1) (ps:=cp mN) (mf:=[("ladders",.list (bF ls))]) ba (Ev.call (ft (by walk_at"e") qa (by exact rfl) (by decide+kernel) (by kernel_rfl)) (.inr (.inl ⟨"range",rfl⟩)) (aK.cons Ev.int aK.nil rfl) rM rfl rfl) (PK▸cw.gY (by kernel_rfl) (by decide+kernel)) ⟨λ_ _=>rfl,λ_=>rfl,by kernel_rfl,by kernel_rfl,by decide+kernel,rfl⟩ (mX (by walk_at"e") (by kernel_rfl)) (by decide) (λp aa _=>?_) (λp aa cenv dQ=>?_) (λp aa _ cenv dQ=>?_) (λ_=>rfl))
  ?_ (by walk_at"e") ?_ (DB ba (by kernel_rfl)))
 ·refine ah (lI aa) λx _ a7=>?_;subst a7;exact trivial
 ·refine ah (lI aa) λk ar bk=>?_;subst bk;refine aE (sl k ar) λq9 G8=>?_;have A0:k.toNat < ls.length:=by walk_at"o"
  have hm:=AB k ar;have mY:qA ls k < ls.length:=findIdx_lt_length_of_exists ⟨_,hm,by walk_at"o"⟩;refine fX.one (bV.cmp (p:= .int (qA ls k)) (q:= .int k) (jF N9 (Ev.name (bS (by kernel_rfl) a5) (by kernel_rfl)) Typed.list (aK.cons (Ev.item (k:= .int k) (Ev.name (bS (by kernel_rfl) a5) (by kernel_rfl)) (Ev.name a5 (by kernel_rfl)) Typed.list fD.lookup (cA.item q9 (zi A0) f6) λ_ _=>rfl) aK.nil rfl)
   (JQ (j:=qA ls k) (vW e1) (mw (e1 _ hm)) Dt f6 (by rw[bO];exact mY) ?_ ?_) rfl rfl rfl rfl) (Ev.name a5 (by kernel_rfl)) rP (by with_unfolding_all rfl))
  ·rw[getElem_map];show PyData.eqvAll (dX (aB _)) (dX (aB _))=true;rw[vS];exact findIdx_getElem (p:=(· ==ls.getD k.toNat [])) (w:=mY)
  ·intro j aN cu;rw[getElem_map];show PyData.eqvAll (dX (aB _)) (dX (aB _))=false;rw[vS];have:=not_of_lt_findIdx (p:=(· ==ls.getD k.toNat [])) cu;exact this
 ·refine ah (lI aa) λx _ bz=>?_;subst bz;exact Ev.name a5 (by kernel_rfl)
 ·rw[tU];exact qe
 rw[tU];show bg prog w 5 env (("lasts",.list (cp (oU ls)))::_) _ _;have Gg:∀k∈oU ls,k∈mN:=λk ar=>(List.mem_filter.mp ar).1;have l1z:(oU ls).length<=5:=length_filter_le _ _;refine bg.cons (jb (p:= .list (((cp (oU ls)).filter (w7 (sb ls))).map (n2 .int)))
  (kr (x:="k") (c:=true) (q:= .list (cp (oU ls))) (ps:=cp (oU ls)) (mf:=[("ladders",.list (bF ls))]) ba (by walk_at"e") cw.list ⟨λ_ _=>rfl,λ_=>rfl,by kernel_rfl,by kernel_rfl,by decide+kernel,rfl⟩ (mX (by walk_at"e") (by kernel_rfl)) (by rw[bO];exact bH ‹_› rfl) (λp aa _=>?_) (λp aa cenv dQ=>?_) (λp aa _ cenv dQ=>?_) (λ_=>rfl))
  ?_ (by walk_at"e") ?_ (DB ba (by kernel_rfl)))
 ·refine ah (lI aa) λx _ b7=>?_;subst b7;exact trivial
 ·refine ah (lI aa) λk ar cC=>?_;subst cC;have ar:=Gg k ar;refine aE (sl k ar) λq9 G8=>?_;have A0:k.toNat < ls.length:=by walk_at"o"
  have hm:=AB k ar;refine fX.one (bV.cmp (p:= .list (((bF ls).filter (sy λone=>(cL one (some 1) none none).any (· ==(ls.getD k.toNat []).getD 0 ""))).map id)) (q:= .list [])
   (kr (x:="one") (c:=false) (mf:=[("k",.int k),("ladders",.list (bF ls))]) dQ (Ev.name (bS (by kernel_rfl) a5) (by kernel_rfl)) cw.list ⟨λ_ _=>rfl,λ_=>rfl,by kernel_rfl,by kernel_rfl,by decide+kernel,rfl⟩ (w2 a5 (by kernel_rfl) (bS (by kernel_rfl) a5) (by kernel_rfl)) f6 (λp aa _=>?_) (λp aa zm Ay=>?_) (λp aa _ zm Ay=>?_) (λ_=>rfl))
   (Ev.list aK.nil (c0 _)) (by
    have:=Dm (prog:=prog) (w:=w) (p:= .list (((bF ls).filter (sy λone=>(cL one (some 1) none none).any (· ==(ls.getD k.toNat []).getD 0 ""))).map id)) (q:= .list []) (by rw[EJ];exact vW λx ag=>e1 x (List.mem_filter.mp ag).1) trivial (Nat.le_trans (Nat.min_le_right _ _) (by decide));show cA _ _ _ _ _ (.bool (sb ls k));rw[show sb ls k=PyData.eqv (e6 (.list (((bF ls).filter (sy λone=>(cL one (some 1) none none).any (· ==(ls.getD k.toNat []).getD 0 ""))).map id))) (e6 (.list [])) by rw[EJ];exact(C6 (b:=[])).symm];exact this) (by with_unfolding_all rfl))
  ·refine ah (jG aa) λl _ c2=>?_;subst c2;exact d5
  ·refine ah (jG aa) λone Fl c1=>?_;subst c1;have ab:=ao one Fl;have ae:=ao _ hm;have aD:=lX _ hm;have VI:=MM ab;have kI:∀x∈cL one (some 1) none none,x∈one:=λx ag=>by
    refine ah (List.mem_filterMap.mp ag) λj _ aN=>?_;exact eP aN
   have A9:(ls.getD k.toNat []).getD 0 ""∈ls.getD k.toNat []:=by
    rw[c8 (l:=ls.getD k.toNat []),cm aD];exact getElem_mem aD
   rw[Ec, <-rW];refine fX.one (bV.cmp (p:= .str ((ls.getD k.toNat []).getD 0 "")) (q:= .list (aB (cL one (some 1) none none))) (Ev.item (k:= .int 0) (Ev.item (k:= .int k) (Ev.name (bS (by kernel_rfl) (bS (by kernel_rfl) a5)) (by kernel_rfl)) (Ev.name (bS (by kernel_rfl) a5) (by kernel_rfl)) Typed.list fD.lookup (cA.item q9 (zi A0) f6) λ_ _=>rfl) Ev.int Typed.list fD.lookup (cA.item (by decide) ?_ (by rw[cz];exact bH ‹_› rfl)) λ_ _=>rfl)
    ?_ (tB (mw λx ag=>e1 _ Fl x (kI x ag)) (e1 _ hm _ A9)) (by with_unfolding_all rfl))
   ·show(aB _)[0]? =_;rw[d7,c8 (l:=ls.getD k.toNat []),cm aD];rfl
   ·exact yn (a:=some 1) (b:=none) (c:=none) (Ev.name a5 (by kernel_rfl)) Ev.int trivial trivial (by decide) (by exact bH ‹_› rfl)
  ·refine ah (jG aa) λl _ eM=>?_;subst eM;exact Ev.name a5 (by kernel_rfl)
 ·refine ah (lI aa) λx _ eJ=>?_;subst eJ;exact Ev.name a5 (by kernel_rfl)
 ·rw[tU];exact qe
 rw[tU];show bg prog w 5 env (("lasts",.list (cp (oR ls)))::_) _ _;have To:∀k∈oR ls,k∈mN:=λk ar=>Gg k (List.mem_filter.mp ar).1;have l2z:(oR ls).length<=5:=Nat.le_trans (length_filter_le _ _) l1z;have aG:env.qual++("<lambda>":Str)="_law_order.<locals>.<lambda>":=by rw[fw];decide+kernel
 refine bg.cons (df.ret (p:= .list (aB out)) (Ig (n:=1) (x:="name") (mf:=[("ladders",.list (bF ls)),("lasts",.list (cp (oR ls)))]) (names:=names) (g5:=gC ls) (gZ:=lh) (K:=keyOf ls) (P:=253) ba (by walk_at"e") (by walk_at"e") l3 bo ⟨λ_ _=>rfl,λ_=>rfl,by kernel_rfl,by kernel_rfl,by decide+kernel,rfl⟩ rfl rfl d8 (by kernel_rfl) (.inr ⟨rfl,rfl,rfl,aG⟩) rfl (λ_ _ _ _ _ _=>by exact rfl) (w2 (by walk_at"e") (by kernel_rfl) (by walk_at"e") (by kernel_rfl)) ?_ bx lR aa hs rfl rfl) d5 rfl);intro y av cenv dQ;refine Ev.list (ps:=[.int (gC ls y),.int (lh y)]) (aK.cons ?_ (aK.cons (k1 (jF NF (Ev.name a5 (by kernel_rfl)) Typed.str (aK.cons Ev.str aK.nil rfl) JJ rfl rfl rfl rfl)) aK.nil rfl) rfl) (show(2:Nat)<=_ by decide);refine Ev.call (ps:=[.list (((cp (oR ls)).filter (w7 λk=>(ls.getD k.toNat []).any (· ==y))).map (n2 .int))]) (ft (qc dQ (by decide) (by kernel_rfl)) El (by exact rfl) (by decide+kernel) (by kernel_rfl)) (.inl ⟨"max",rfl⟩) (aK.cons
  (kr (x:="k") (c:=false) (mf:=[("ladders",.list (bF ls)),("name",.str y)]) dQ (Ev.name (bS (by kernel_rfl) (bS (by kernel_rfl) a5)) (by kernel_rfl)) cw.list ⟨λ_ _=>rfl,λ_=>rfl,by kernel_rfl,by kernel_rfl,by decide+kernel,rfl⟩ (w2 (bS (by kernel_rfl) a5) (by kernel_rfl) a5 (by kernel_rfl)) (by rw[bO];exact bH ‹_› rfl) (λp aa _=>?_) (λp aa zm Ay=>?_) (λp aa _ zm Ay=>?_) (λ_=>rfl)) aK.nil rfl) ?_ rfl rfl
 ·refine ah (lI aa) λx _ fi=>?_;subst fi;exact trivial
 ·refine ah (lI aa) λk ar fJ=>?_;subst fJ;have ar:=To k ar;refine aE (sl k ar) λq9 G8=>?_;have hm:=AB k ar;show fX _ _ _ _ _ _ ((ls.getD k.toNat []).any (· ==y));rw[<-rW];exact fX.one (bV.cmp (Ev.name (bS (by kernel_rfl) (bS (by kernel_rfl) a5)) (by kernel_rfl)) (Ev.item (k:= .int k) (Ev.name (bS (by kernel_rfl) a5) (by kernel_rfl)) (Ev.name a5 (by kernel_rfl)) Typed.list fD.lookup (cA.item q9 (zi (by walk_at"o")) f6) λ_ _=>rfl) (tB (mw (e1 _ hm)) (Pf y av)) (by with_unfolding_all rfl))
 ·refine ah (lI aa) λx _ f5=>?_;subst f5;exact Ev.name a5 (by kernel_rfl)
 ·rw[tU];exact KY (l:=nz ls y) cw.list (dr y av)
structure Rs where
 J:Addr->Prop
 P:Heap->Prop
 st:∀h h',(∀b o,J b->h.get? b=some o->h'.get? b=some o)->P h->P h'
structure bR (w:World) (s₀:Shared) (env:Env) (W₀ aJ:Addr->Prop) (ad:Str->Addr) (m:Loc) (r:Rs) (s:Shared):Prop where
 F:b1 w s₀ env W₀ ad (λa=>aJ a\/r.J a) m s
 fM:∀a,aJ a->¬r.J a
 p:r.P s.heap
def cE(env:Env)(m:Loc)(ad:Str->Addr)(r:Rs)(a:Addr):Prop:=b4 env m ad a\/r.J a
def jk(w:World)(s₀:Shared)(env:Env)(W₀ aJ:Addr->Prop)(Φ:dn->Loc->Rs->Prop)(W:Addr->Prop)(s:Shared)(f:Flow)(s':Shared):Prop:=match f with
 | .next=>∃a3 m' r',bR w s₀ env W₀ aJ a3 m' r' s'/\bC W (cE env m' a3 r') s s'/\Φ .next m' r'
 | .brk=>∃a3 m' r',bR w s₀ env W₀ aJ a3 m' r' s'/\bC W (cE env m' a3 r') s s'/\Φ .brk m' r'
 | .cont=>∃a3 m' r',bR w s₀ env W₀ aJ a3 m' r' s'/\bC W (cE env m' a3 r') s s'/\Φ .cont m' r'
 | .ret v=>∃p r',a6 w s'.heap (λa=>W₀ a\/(aJ a\/r'.J a)) p v/\cb p/\Ext s₀ s'/\G w s'.heap/\r'.P s'.heap/\(∀a,r'.J a->s₀.heap.get? a=none/\(∃o,s'.heap.get? a=some o/\cx o)/\¬cf a)/\bC W r'.J s s'/\Φ (.ret p) [] r'
def bt(prog:Program)(w:World)(K:Around->Prop)(env:Env)(m:Loc)(r:Rs)(ss:List Stmt)(Φ:dn->Loc->Rs->Prop):Prop:=
 ∀(s₀:Shared) (W₀ aJ:Addr->Prop) (ad:Str->Addr) (A:Around) (s:Shared) (E:Value->Shared->Prop),K A->bR w s₀ env W₀ aJ ad m r s->wpAny (model prog w) A (execs ss env) (jk w s₀ env W₀ aJ Φ (cE env m ad r) s) E s
def dB(prog:Program)(w:World)(K:Around->Prop)(env:Env)(m:Loc)(r:Rs)(st:Stmt)(Φ:dn->Loc->Rs->Prop):Prop:=
 ∀(s₀:Shared) (W₀ aJ:Addr->Prop) (ad:Str->Addr) (A:Around) (s:Shared) (E:Value->Shared->Prop),K A->bR w s₀ env W₀ aJ ad m r s->wpAny (model prog w) A (exec st env) (jk w s₀ env W₀ aJ Φ (cE env m ad r) s) E s
abbrev aZ(prog:Program)(w:World)(n:Nat)(env:Env)(m:Loc)(r:Rs)(ss:List Stmt)(Φ:dn->Loc->Rs->Prop):Prop:=bt prog w (bK n) env m r ss Φ
abbrev ef(prog:Program)(w:World)(n:Nat)(env:Env)(m:Loc)(r:Rs)(st:Stmt)(Φ:dn->Loc->Rs->Prop):Prop:=dB prog w (bK n) env m r st Φ
abbrev ph(n:Nat)(fr:List Env):Around->Prop:=λA=>bK n A/\A.frames=some fr
abbrev G9(prog:Program)(w:World)(K:Around->Prop)(env:Env)(rest:List Stmt)(Φ:dn->Loc->Rs->Prop):dn->Loc->Rs->Prop:=λf m' r'=>match f with | .next=>bt prog w K env m' r' rest Φ |f=>Φ f m' r'
abbrev pN(bh:Loc->Rs->Prop)(Φ:dn->Loc->Rs->Prop):dn->Loc->Rs->Prop:=λej dE eR=>match ej with | .next=>bh dE eR | .cont=>bh dE eR | .brk=>Φ .next dE eR | .ret z=>Φ (.ret z) dE eR
abbrev GZ(Ψ:ak->Rs->Prop):dn->Loc->Rs->Prop:=λej _ r'=>match ej with | .ret p=>Ψ p r' | .next=>Ψ .none r' |_=>False
def aV(prog:Program)(w:World)(n:Nat)(env:Env)(m:Loc)(r:Rs)(e:Expr)(p:ak):Prop:=
 ∀(W:Addr->Prop) (A:Around) (s:Shared) (Q:Value->Shared->Prop) (E:Value->Shared->Prop),bK n A->St w env W m s.heap->(∀a,r.J a->W a)->r.P s.heap->
  (∀v s',a6 w s'.heap W p v->Ext s s'->G w s'.heap->Q v s')->wpAny (model prog w) A (eval e env) Q E s
def gr(prog:Program)(w:World)(n:Nat)(env:Env)(m:Loc)(r:Rs)(e:Expr)(b:Bool):Prop:=
 ∀(W:Addr->Prop) (A:Around) (s:Shared) (Q:Bool->Shared->Prop) (E:Value->Shared->Prop),bK n A->St w env W m s.heap->(∀a,r.J a->W a)->r.P s.heap->
  (∀s',Ext s s'->G w s'.heap->Q b s')->wpAny (model prog w) A (isTrue e env (eval e env)) Q E s
variable {Φ xa:dn->Loc->Rs->Prop} {r' eR:Rs}
section
variable {prog:Program} {w:World} {n:Nat} {env:Env} {m:Loc} {r:Rs} {Φ:dn->Loc->Rs->Prop}
theorem Ev.R{e:Expr}{p:ak}(h:Ev prog w n env m e p):aV prog w n env m r e p:=λW A s Q E ai x _ _ a4=>h W A s Q E ai x a4
theorem bV.R{e:Expr}{b:Bool}(h:bV prog w n env m e b):gr prog w n env m r e b:=λW A s Q E ai x _ _ a4=>h W A s Q E ai x a4
theorem Rs.ext{r:Rs}(a0:∀a,r.J a->W a)(low:eB W s.heap)(e:Ext s s')(h:r.P s.heap):r.P s'.heap:=r.st _ _ (λb o I q=>e.keep b o (low b (a0 b I)).2 q) h
theorem bR.dp{ad:Str->Addr}(x:bR w s₀ env W₀ aJ ad m r s):∀a,r.J a->bU W₀ env m ad (λa=>aJ a\/r.J a) a:=λa af=> .dw (.inr af)
theorem bR.ext{ad:Str->Addr}(x:bR w s₀ env W₀ aJ ad m r s)(e:Ext s s')(g:G w s'.heap):bR w s₀ env W₀ aJ ad m r s':=⟨x.F.ext e g,x.fM,Rs.ext x.dp x.F.st.low e x.p⟩
theorem jk.mono{f:Flow}(h:∀f m r,Φ f m r->xa f m r)(x:jk w s₀ env W₀ aJ Φ W s f s'):jk w s₀ env W₀ aJ xa W s f s':=by
 induction f with
 |next=>refine gm x λad m' r' a k b=>?_;exact⟨ad,m',r',a,k,h _ _ _ b⟩
 |brk=>refine gm x λad m' r' a k b=>?_;exact⟨ad,m',r',a,k,h _ _ _ b⟩
 |cont=>refine gm x λad m' r' a k b=>?_;exact⟨ad,m',r',a,k,h _ _ _ b⟩
 |ret v=>refine z2 x λp r' a b c d e f g i=>?_;exact⟨p,r',a,b,c,d,e,f,g,h _ _ _ i⟩
theorem jk.pre{f:Flow}(k:bC W W' s au)(x:jk w s₀ env W₀ aJ Φ W' au f s'):jk w s₀ env W₀ aJ Φ W s f s':=by
 induction f with
 |next=>refine gm x λad m' r' a k' b=>?_;exact⟨ad,m',r',a,k.trans k',b⟩
 |brk=>refine gm x λad m' r' a k' b=>?_;exact⟨ad,m',r',a,k.trans k',b⟩
 |cont=>refine gm x λad m' r' a k' b=>?_;exact⟨ad,m',r',a,k.trans k',b⟩
 |ret v=>refine z2 x λp r' a b c d e f g i=>?_;exact⟨p,r',a,b,c,d,e,f,k.trans g,i⟩
theorem dB.mono{K:Around->Prop}{st:Stmt}(x:dB prog w K env m r st Φ)(h:∀f m r,Φ f m r->xa f m r):dB prog w K env m r st xa:=λs₀ W₀ aJ ad A s E ai F=>wpAny_mono (x s₀ W₀ aJ ad A s E ai F) (λf s' o=>o.mono h) λ_ _ e=>e
theorem bt.nil{K:Around->Prop}(h:Φ .next m r):bt prog w K env m r [] Φ:=λs₀ W₀ aJ ad A s E ai F=>wpAny_execs_nil ⟨ad,m,r,F,.refl _ s,h⟩
theorem bt.cons{K:Around->Prop}{st:Stmt}(h:dB prog w K env m r st (G9 prog w K env rest Φ)):bt prog w K env m r (st::rest) Φ:=λs₀ W₀ aJ ad A s E ai F=>by
 refine wpAny_execs_cons (wpAny_mono (h s₀ W₀ aJ ad A s E ai F) (λf s' o=>?_) λ_ _ e=>e);induction f with
 |next=>refine gm o λa3 m' r' a k b=>?_;exact wpAny_mono (b s₀ W₀ aJ a3 A s' E ai a) (λf b2 o=>o.pre k) λ_ _ e=>e
 |brk=>exact o
 |cont=>exact o
 |ret v=>exact o
theorem bt.weak{K:Around->Prop}(h:bt prog w K env m r' ss Φ)(a0:∀a,r.J a↔r'.J a)(b5:∀h,r.P h->r'.P h):bt prog w K env m r ss Φ:=λs₀ W₀ aJ ad A s E ai F=>by
 have sW:r.J=r'.J:=funext λa=>propext (a0 a);have aS:bR w s₀ env W₀ aJ ad m r' s:=⟨sW▸F.F,sW▸F.fM,b5 _ F.p⟩
 refine wpAny_mono (h s₀ W₀ aJ ad A s E ai aS) (λf s' o=>?_) λ_ _ e=>e;have:cE env m ad r=cE env m ad r':=by unfold cE;rw[sW]
 rw[this];exact o
theorem bC.lift{ad:Str->Addr}(F:b1 w s₀ env W₀ ad (λa=>aJ a\/r.J a) m s)(k:bC (b4 env m ad) (b4 env m' a3) s s'):bC (cE env m ad r) (cE env m' a3 r) s s':=λb o I aM e=>
 ⟨(k b o (λq=>I (.inl q)) aM e).1,λq=>q.elim (k b o (λq=>I (.inl q)) aM e).2 λq=>I (.inr q)⟩
theorem b1.wD{J:Addr->Prop}{ad:Str->Addr}(F:b1 w s₀ env W₀ ad J m s){a:Addr}(af:J a):¬b4 env m ad a:=λq=>by
 refine eK (F.ec a af) λab ae aD bc=>?_;rcases q with q |⟨nm,q⟩ |⟨y,av,q⟩
 ·exact ae q
 ·exact aD nm a q rfl
 ·exact bc y av q
theorem bR.turn{ad:Str->Addr}(F:bR w s₀ env W₀ aJ ad m r s)(aS:b1 w s₀ env W₀ a3 (λa=>aJ a\/r.J a) m' s')(k:bC (b4 env m ad) (b4 env m' a3) s s'):bR w s₀ env W₀ aJ a3 m' r s'/\bC (cE env m ad r) (cE env m' a3 r) s s':=by
 refine⟨⟨aS,F.fM,r.st _ _ (λb o I e=>?_) F.p⟩,k.lift F.F⟩;exact(k b o (F.F.wD (.inr I)) (F.F.st.low b (.dw (.inr I))).2 e).1
theorem df.R{st:Stmt}{zp:dn->Loc->Prop}(h:df prog w n env m st zp)(bf:∀p m,¬zp (.ret p) m)(hE:∀f m',zp f m'->Φ f m' r):ef prog w n env m r st Φ:=λs₀ W₀ aJ ad A s E ai F=>by
 refine wpAny_mono (h s₀ W₀ _ ad A s E ai F.F) (λf s' o=>?_) λ_ _ e=>e;induction f with
 |next=>refine bj o λa3 m' aS k b=>?_;refine aE (F.turn aS k) λab ae=>?_;exact⟨a3,m',r,ab,ae,hE _ _ b⟩
 |brk=>refine bj o λa3 m' aS k b=>?_;refine aE (F.turn aS k) λab ae=>?_;exact⟨a3,m',r,ab,ae,hE _ _ b⟩
 |cont=>refine bj o λa3 m' aS k b=>?_;refine aE (F.turn aS k) λab ae=>?_;exact⟨a3,m',r,ab,ae,hE _ _ b⟩
 |ret v=>refine mO o λp _ _ _ _ b=>?_;exact absurd b (bf p [])
theorem lD{x:Str}{e:Expr}{p:ak}(he:aV prog w n env m r e p)(aa:cb p)(ar:env.kindOf x=some .local\/(env.kindOf x=some .cell/\(env.cells.lookup x).isSome=true))(h:Φ .next ((x,p)::m) r)
  (hs:swapsWith e (some (.Name x px)) pos.line env=pure false):ef prog w n env m r (.Assign [.Name x px] e pos) Φ:=λs₀ W₀ aJ ad A s E ai F=>by
 refine wpAny_Assign_Name (he _ A s _ E ai F.F.st F.dp F.p λv au aq az aF=>?_) hs;have aX:=F.ext az aF;exact aX.F.put aq aa ar λs' aS k=>aE (aX.turn aS k) λab ae=>⟨ad,_,r,ab,(bC.ext az).trans ae,h⟩
theorem nk{K:Around->Prop}(bx:∀A,K A->bK n A){t:Expr}{a b:List Stmt}{c:Bool}(aM:gr prog w n env m r t c)(af:c=true->bt prog w K env m r a Φ)(I:c=false->bt prog w K env m r b Φ):dB prog w K env m r (.If t a b pos) Φ:=λs₀ W₀ aJ ad A s E ai F=>by
 refine wpAny_If (aM _ A s _ E (bx A ai) F.F.st F.dp F.p λau az aF=>?_);induction c with
 |true=>exact wpAny_mono (af rfl s₀ W₀ aJ ad A au E ai (F.ext az aF)) (λf s' o=>o.pre (.ext az)) λ_ _ e=>e
 |false=>exact wpAny_mono (I rfl s₀ W₀ aJ ad A au E ai (F.ext az aF)) (λf s' o=>o.pre (.ext az)) λ_ _ e=>e
theorem bR.o4{ad:Str->Addr}(F:bR w s₀ env W₀ aJ ad m r s):∀a,r.J a->s₀.heap.get? a=none/\(∃o,s.heap.get? a=some o/\cx o)/\¬cf a:=λa af=>⟨(F.F.ec a (.inr af)).1,F.F.st.low a (.dw (.inr af))⟩
theorem ef.ret{e:Expr}{p:ak}(he:aV prog w n env m r e p)(aa:cb p)(h:Φ (.ret p) [] r):ef prog w n env m r (.Return (some e) pos) Φ:=λs₀ W₀ aJ ad A s E ai F=>by
 refine wpAny_Return_some (he _ A s _ E ai F.F.st F.dp F.p λv au aq az aF=>?_);have aX:=F.ext az aF;refine⟨p,r,?_,aa,F.F.r8.trans az,aF,aX.p,aX.o4,λb o I aM q=>⟨az.keep b o aM q,λz=>I (.inr z)⟩,h⟩;exact aq.upd (λb o I _ e=>⟨e,λq=>I (q.elim .inl λq=> .dw q)⟩) aa
theorem dB.brk{K:Around->Prop}(h:Φ .brk m r):dB prog w K env m r (.Break pos) Φ:=λs₀ W₀ aJ ad A s E ai F=>wpAny_Break ⟨ad,m,r,F,.refl _ s,h⟩
theorem dB.cont{K:Around->Prop}(h:Φ .cont m r):dB prog w K env m r (.Continue pos) Φ:=λs₀ W₀ aJ ad A s E ai F=>wpAny_Continue ⟨ad,m,r,F,.refl _ s,h⟩
theorem dB.of{K:Around->Prop}(bx:∀A,K A->bK n A){st:Stmt}(h:ef prog w n env m r st Φ):dB prog w K env m r st Φ:=λs₀ W₀ aJ ad A s E ai F=>h s₀ W₀ aJ ad A s E (bx A ai) F
theorem bt.of{K:Around->Prop}(bx:∀A,K A->bK n A)(h:aZ prog w n env m r ss Φ):bt prog w K env m r ss Φ:=λs₀ W₀ aJ ad A s E ai F=>h s₀ W₀ aJ ad A s E (bx A ai) F
theorem aZ.nil(h:Φ .next m r):aZ prog w n env m r [] Φ:=bt.nil h
theorem aZ.cons{st:Stmt}(h:ef prog w n env m r st (G9 prog w (bK n) env rest Φ)):aZ prog w n env m r (st::rest) Φ:=bt.cons h
theorem aZ.weak(h:aZ prog w n env m r' ss Φ)(a0:∀a,r.J a↔r'.J a)(b5:∀h,r.P h->r'.P h):aZ prog w n env m r ss Φ:=bt.weak h a0 b5
theorem lE{t:Expr}{a b:List Stmt}{c:Bool}(aM:gr prog w n env m r t c)(af:c=true->aZ prog w n env m r a Φ)(I:c=false->aZ prog w n env m r b Φ):ef prog w n env m r (.If t a b pos) Φ:=nk (λ_ h=>h) aM af I
theorem ef.brk(h:Φ .brk m r):ef prog w n env m r (.Break pos) Φ:=dB.brk h
end
section
variable {prog:Program} {w:World} {n:Nat} {env:Env} {m:Loc} {r:Rs} {Φ:dn->Loc->Rs->Prop}
theorem C0{x:Str}{ad:Str->Addr}{r₁:Rs}{P:Nat->Value->Prop}{T:Nat->Heap->Prop}{K:Around->Prop}(inv:Nat->Loc->Rs->Prop)(ai:K A)
  (aF:G w au.heap) (dp:∀a,aJ a->∃o,au.heap.get? a=some o) (bp:bR w s₀ env W₀ (λa=>aJ a\/a∈wr) ad m r aL) (y9:bC (cE env m₁ je r₁) (cE env m ad r) au aL) (aW:Walks prog w A bh fp wr ps.length P T) (bE:T 0 aL.heap) (fb:∀b∈wr,au.heap.get? b=none) (dP:∀b∈fp,¬cf b) (dC:∀i h,T i h->∀b∈wr,∃o,h.get? b=some o/\cx o)
  (kf:∀b∈fp,b∈wr\/((∃o,au.heap.get? b=some o)/\¬bU W₀ env m₁ je (λa=>aJ a\/r₁.J a) b)\/∃o,∀j m' r' h,inv j m' r'->r'.P h->h.get? b=some o) (b5:∀i u,P i u->∃q,ps[i]? =some q/\a6 w au.heap (bU W₀ env m₁ je (λa=>aJ a\/r₁.J a)) q u) (cN:∀p∈ps,cb p)
  (ar:env.kindOf x=some .local\/(env.kindOf x=some .cell/\(env.cells.lookup x).isSome=true)) (h0:inv 0 m r)
  (turn:∀j p m' r',ps[j]? =some p->inv j m' r'->bt prog w K env ((x,p)::m') r' body (pN (inv (j+1)) Φ))
  (done:∀m' r',inv ps.length m' r'->bt prog w K env m' r' orelse Φ):
  codeAny (model prog w) A (.forLoop (.Name x px) (.ref bh) body orelse env) (λz s'=>match z with | .ok f=>jk w s₀ env W₀ aJ Φ (cE env m₁ je r₁) au f s' | .error e=>cameBackBy (model prog w) A env E e s') aL:=by
 let dM:Addr->Prop:=λa=>aJ a\/a∈wr
 let p3:Nat->Shared->Prop:=λj s'=>∃a3 m' r',bR w s₀ env W₀ dM a3 m' r' s'/\inv j m' r'/\T j s'.heap/\bC (cE env m₁ je r₁) (cE env m' a3 r') au s'
 have back:∀{a3 m' r' s'},bR w s₀ env W₀ dM a3 m' r' s'->bR w s₀ env W₀ aJ a3 m' r' s':=λaS=>⟨aS.F.tP λa af=>af.imp .inl id,λa af=>aS.fM a (.inl af),aS.p⟩
 have uE:∀{a3 m' r' s'},bR w s₀ env W₀ dM a3 m' r' s'->∀b∈wr,¬cE env m' a3 r' b:=λaS b I q=>q.elim (aS.F.wD (.inl (.inr I))) (aS.fM b (.inr I));have nE:∀{a3:Str->Addr} {m':Loc} {r':Rs} {s' b2:Shared} {j hN:Nat} {cH Gs:Loc} {o1:Str->Addr} {eR:Rs},bC (cE env m₁ je r₁) (cE env m' a3 r') au s'->(∀b∈wr,¬cE env m' a3 r' b)->inv j cH r'->r'.P s'.heap->(eR.P b2.heap)->inv hN Gs eR->∀{dE},bC (cE env m' a3 r') (cE env dE o1 eR) s' b2->∀b∈fp,∀o,s'.heap.get? b=some o->b2.heap.get? b=some o:=by
  intro a3 m' r' s' b2 j hN cH Gs o1 eR bP ug ew bW cc gv dE cJ b I o e;have aM:=dP b I;rcases kf b I with q |⟨⟨bZ,aO⟩,q⟩ |⟨bZ,q⟩
  ·exact(cJ b o (ug b q) aM e).1
  ·exact(cJ b o (bP b bZ (λz=>z.elim (λz=>q z.j2) λz=>q (.dw (.inr z))) aM aO).2 aM e).1
  ·rw[q _ _ _ _ ew bW] at e;obtain rfl:=bT e;exact q _ _ _ _ gv cc
 have kF:∀b o,au.heap.get? b=some o->b∉wr:=λb o e q=>by rw[fb b q] at e;injection e
 refine codeAny_forLoop (λk s'=>∃j,k=ps.length+1 - j/\j<=ps.length/\p3 j s') ?_ (ps.length+1) ⟨0,by walk_at"o",c0 _,ad,m,r,bp,h0,bE,y9⟩;intro k s' dg;refine sT λc5=>nW λcI jZ=>?_;refine dK dg λj dq aN e2=>?_;refine cg e2 λa3 m' r' aS hinv jq kk=>?_;subst dq;have tK:∀(h':Heap) (tk:Nat),(∀b o,b∉wr->s'.heap.get? b=some o->h'.get? b=some o)->(∀b∈wr,∃o,h'.get? b=some o/\cx o)->bR w s₀ env W₀ dM a3 m' r' {s' with heap:=h',toks:=tk}:=λh' tk cj hex=>by
  refine⟨aS.F.qx (λa af=>af) ⟨h',tk,rfl⟩ (λb o I _ e=>cj b o (λq=>I (.inl (.inr q))) e) ?_ λa af=>?_,aS.fM,r'.st _ _ (λb o I e=>cj b o (λq=>aS.fM b (.inr q) I) e) aS.p⟩
  ·exact aS.F.dJ.chg (X:=λa=>a∈wr) aS.F.st.g (λa af=>⟨(aS.F.ec a (.inl (.inr af))).1,dC j _ jq a af⟩) λb o I e=>cj b o I e
  ·by_cases q:a∈wr
   ·exact hex a q
   ·refine aE (aS.F.st.low a (.dw af)) λaU _=>?_;refine ah aU λo e cF=>?_;exact⟨o,cj a o q e,cF⟩
 have oN:∀(h':Heap) (tk:Nat),(∀b o,b∉wr->s'.heap.get? b=some o->h'.get? b=some o)->bC (cE env m₁ je r₁) (cE env m' a3 r') au {s' with heap:=h',toks:=tk}:=λh' tk cj b o I aM e=>⟨cj b o (kF b o e) (kk b o I aM e).1,(kk b o I aM e).2⟩
 by_cases cu:j < ps.length
 ·refine aW.item j s' _ _ cu jq λv h' tk nR mQ cj=>?_;refine ah (b5 j v nR) λp aa jT=>?_;have kI:p∈ps:=eP aa;have hk:=tK h' tk cj λb I=>dC (j+1) _ mQ b I;have nP:=oN h' tk cj;have Ax:a6 w h' (bU W₀ env m' a3 λa=>dM a\/r'.J a) p v:=by
   refine jT.upd (λb o I U e=>?_) (cN p kI);have aM:=aF.fY e U;refine aE (nP b o (λq=>q.elim (λq=>I q.j2) λq=>I (.dw (.inr q))) aM e) λj3 hM=>?_;refine⟨j3,λq=>?_⟩;rcases q.split with q |((q |q) |q) |q
   ·exact I (.m1 q)
   ·exact I (.dw (.inl q))
   ·exact kF b o e q
   ·exact hM (.inr q)
   ·exact hM (.inl q)
  refine jZ _ _ (sT λBQ=>nW λUs Bp=>?_);refine wpAny_assign_Name (hk.F.put Ax (cN p kI) ar λc9 pQ ou=>?_);refine aE (hk.turn pQ ou) λw1 Gx=>?_;have la:=nP.trans Gx;have rj:T (j+1) c9.heap:=aW.frame _ _ _ mQ (nE nP (uE hk) hinv hk.p w1.p hinv Gx);refine Bp _ _ (wpAny_mono (turn j p m' r' aa hinv s₀ W₀ dM a3 A c9 _ ai w1) (λf gD o=>?_) λ_ _ e=>e);have nc:∀gb fg j1,bR w s₀ env W₀ dM gb fg j1 gD->bC (cE env ((x,p)::m') a3 r') (cE env fg gb j1) c9 gD->inv (j+1) fg j1->∃k,k < ps.length+1 - j/\∃hN,k=ps.length+1 - hN/\hN<=ps.length/\p3 hN gD:=λgb fg j1 gH fL hi=>
   ⟨ps.length+1 - (j+1),by exact Nat.sub_lt_sub_left (Nat.lt_succ_of_lt ‹_›) (Nat.lt_succ_self _),j+1,rfl,cu,gb,fg,j1,gH,hi,aW.frame _ _ _ rj (nE la (uE w1) hinv w1.p gH.p hi fL),la.trans fL⟩
  induction f with
  |next=>refine gm o λgb fg j1 gH fL hi=>?_;exact nc gb fg j1 gH fL hi
  |cont=>refine gm o λgb fg j1 gH fL hi=>?_;exact nc gb fg j1 gH fL hi
  |brk=>refine gm o λgb fg j1 gH fL hi=>?_;exact⟨gb,fg,j1,back gH,la.trans fL,hi⟩
  |ret v=>
   refine jk.pre la (f:= .ret v) ?_;refine bj o λp r' a b c=>?_;exact⟨p,r',a.upd (λb o I _ e=>⟨e,λq=>I (q.imp id λq=>q.imp .inl id)⟩) b,b,c⟩
 ·have q2:j=ps.length:=by exact Nat.le_antisymm ‹_› (Nat.not_lt.mp ‹_›)
  subst q2;refine aW.done s' _ _ jq λh' tk cj=>?_;have vf:bR w s₀ env W₀ aJ a3 m' r' {s' with heap:=h',toks:=tk}:=by
   refine⟨aS.F.qx (λa af=>af.imp .inl id) ⟨h',tk,rfl⟩ (λb o I _ e=>cj b o (λq=>I (.inl (.inr q))) e) ?_ λa af=>?_,λa af=>aS.fM a (.inl af),r'.st _ _ (λb o I e=>cj b o (λq=>aS.fM b (.inr q) I) e) aS.p⟩
   ·exact aS.F.dJ.chg (X:=λa=>a∈wr) aS.F.st.g (λa af=>⟨(aS.F.ec a (.inl (.inr af))).1,dC _ _ jq a af⟩) λb o I e=>cj b o I e
   ·have aA:a∉wr:=λq=>af.elim (λz=>by refine aP (dp a z) λo e=>?_;exact kF a o e q) λz=>aS.fM a (.inr q) z;refine e9 λfs cD=>?_;refine aE (aS.F.st.low a (.dw (af.imp .inl id))) λa7 _=>?_;refine ah a7 λo e cF=>?_;refine cD ?_;exact⟨o,cj a o aA e,cF⟩
  exact jZ _ _ (wpAny_mono (done m' r' hinv s₀ W₀ aJ a3 A _ _ ai vf) (λf b2 o=>o.pre (oN h' tk cj)) λ_ _ e=>e)
theorem bR.nL{ad:Str->Addr}(F:bR w s₀ env W₀ aJ ad m r s)(e:Ext s s')(g:G w s'.heap)(aA:∀a∈wr,s.heap.get? a=none/\(∃o,s'.heap.get? a=some o/\cx o)/\¬cf a):bR w s₀ env W₀ (λa=>aJ a\/a∈wr) ad m r s':=by
 refine⟨F.F.nL e g (λa af=>af.imp .inl id) λa af aN=>?_,λa af=>?_,(F.ext e g).p⟩
 ·rcases af with(af |af) |af
  ·exact absurd (.inl af) aN
  ·exact aA a af
  ·exact absurd (.inr af) aN
 ·rcases af with af |af
  ·exact F.fM a af
  ·intro q;refine aE (F.F.st.low a (.dw (.inr q))) λbk _=>?_;refine ah bk λo aO _=>?_;rw[(aA a af).1] at aO;injection aO
theorem Jh{K:Around->Prop}(bx:∀A,K A->bK n A){x:Str}{iter:Expr}(inv:Nat->Loc->Rs->Prop)(hit:aV prog w n env m r iter q)(f9:cw prog w q ps)(aG:cb q)(cN:∀p∈ps,cb p)
  (ar:env.kindOf x=some .local\/(env.kindOf x=some .cell/\(env.cells.lookup x).isSome=true)) (h0:inv 0 m r)
  (turn:∀j p m' r',ps[j]? =some p->inv j m' r'->bt prog w K env ((x,p)::m') r' body (pN (inv (j+1)) Φ))
  (done:∀m' r',inv ps.length m' r'->bt prog w K env m' r' orelse Φ) (hs:∀v,foldedSetIterable iter env v=pure v):dB prog w K env m r (.For (.Name x px) iter body orelse pos) Φ:=λs₀ W₀ aJ ad A s E ai F=>by
 refine wpAny_For (hit _ A s _ E (bx A ai) F.F.st F.dp F.p λi9 au aq az aF=>?_) hs;have aX:=F.ext az aF;refine f9 _ A au i9 _ E ((bx A ai).le (c0 _)) aF aX.F.st.low aq λbh fp wr P T aL aR aY aW bE fb dP dC kf b5=>?_;have bp:=aX.nL aR aY (wr:=wr) λa af=>⟨fb a af,dC 0 _ bE a af,(dP a (aW.sub a af)).2⟩
 refine codeAny_mono (C0 (E:=E) (m₁:=m) (je:=ad) (r₁:=r) inv ai aF (λa af=>aE (aX.F.st.low a (.dw (.inl af))) λQ5 _=>ah Q5 λo e _=>⟨o,e⟩) bp (.ext aR) aW bE fb (λb I=>(dP b I).2) dC (λb I=>(kf b I).imp id λQ6=>aE Q6 λa c=> .inl ⟨a,c aG⟩) b5 cN ar h0 turn done) λz s' o=>?_;induction z with
 |error e=>exact o
 |ok f=>exact jk.pre (.ext az) o
theorem ni{x:Str}{iter:Expr}(inv:Nat->Loc->Rs->Prop)(hit:aV prog w n env m r iter q)(f9:cw prog w q ps)(aG:cb q)(cN:∀p∈ps,cb p)
  (ar:env.kindOf x=some .local\/(env.kindOf x=some .cell/\(env.cells.lookup x).isSome=true)) (h0:inv 0 m r)
  (turn:∀j p m' r',ps[j]? =some p->inv j m' r'->aZ prog w n env ((x,p)::m') r' body (pN (inv (j+1)) Φ))
  (done:∀m' r',inv ps.length m' r'->aZ prog w n env m' r' orelse Φ) (hs:∀v,foldedSetIterable iter env v=pure v):ef prog w n env m r (.For (.Name x px) iter body orelse pos) Φ:=Jh (λ_ h=>h) inv hit f9 aG cN ar h0 turn done hs
end
section
variable {prog:Program} {w:World} {n:Nat} {env:Env} {m:Loc} {r:Rs} {Φ:dn->Loc->Rs->Prop}
theorem ye{K:Around->Prop}(bx:∀A,K A->bK n A)(inv:Nat->Loc->Rs->Prop)(k:Nat)(h0:inv k m r)
  (turn:∀k m' r',inv k m' r'->∃b,gr prog w n env m' r' test b/\(b=true->bt prog w K env m' r' body (pN (λdE eR=>∃k',k' < k/\inv k' dE eR) Φ))/\(b=false->bt prog w K env m' r' orelse Φ)):
  dB prog w K env m r (.While test body orelse pos) Φ:=λs₀ W₀ aJ ad A s E ai F=>by
 refine wpAny_While (codeAny_whileLoop (λk s'=>∃a3 m' r',bR w s₀ env W₀ aJ a3 m' r' s'/\inv k m' r'/\bC (cE env m ad r) (cE env m' a3 r') s s') ?_ k ⟨ad,m,r,F,h0,.refl _ s⟩);intro k s' dg;refine sT λc5=>nW λcI jZ=>?_;refine gm dg λa3 m' r' aS hi kk=>?_;refine dK (turn k m' r' hi) λb aM I aA=>?_;refine aM _ A s' _ _ (bx A ai) aS.F.st aS.dp aS.p λaL aR aY=>?_;have bp:=aS.ext aR aY;refine jZ _ _ ?_;induction b with
 |true=>
  simp only[if_true];refine wpAny_mono (I rfl s₀ W₀ aJ a3 A aL _ ai bp) (λf eb o=>?_) λ_ _ e=>e;have nF:=kk.trans (bC.ext aR);induction f with
  |next=>refine gm o λlV i6 i2 hk gy aU=>?_;refine ah aU λk' cj jv=>?_;exact⟨k',cj,lV,i6,i2,hk,jv,nF.trans gy⟩
  |cont=>refine gm o λlV i6 i2 hk gy a7=>?_;refine ah a7 λk' cj jv=>?_;exact⟨k',cj,lV,i6,i2,hk,jv,nF.trans gy⟩
  |brk=>refine gm o λlV i6 i2 hk gy jv=>?_;exact⟨lV,i6,i2,hk,nF.trans gy,jv⟩
  |ret v=>exact jk.pre nF (f:= .ret v) o
 |false=>
  simp only[Bool.false_eq_true,if_false];refine wpAny_mono (aA rfl s₀ W₀ aJ a3 A aL _ ai bp) (λf eb o=>?_) λ_ _ e=>e;exact jk.pre (kk.trans (bC.ext aR)) o
theorem IA(inv:Nat->Loc->Rs->Prop)(k:Nat)(h0:inv k m r)
  (turn:∀k m' r',inv k m' r'->∃b,gr prog w n env m' r' test b/\(b=true->aZ prog w n env m' r' body (pN (λdE eR=>∃k',k' < k/\inv k' dE eR) Φ))/\(b=false->aZ prog w n env m' r' orelse Φ)):
  ef prog w n env m r (.While test body orelse pos) Φ:=ye (λ_ h=>h) inv k h0 turn
end
section
variable {prog:Program} {w:World} {n:Nat} {env:Env} {m:Loc} {r:Rs} {Φ:dn->Loc->Rs->Prop}
theorem b1.zx{J:Addr->Prop}{ad:Str->Addr}(F:b1 w s₀ env W₀ ad J m s)(a0:∀a,dM a->(J a\/(s.heap.get? a=none/\¬cf a))/\∃o,s'.heap.get? a=some o/\cx o)(jh:∃h tk,s'={s with heap:=h,toks:=tk})
  (k:∀b o,¬J b->b≠env.locals->¬cf b->s.heap.get? b=some o->s'.heap.get? b=some o) (tf:∀o,s.heap.get? env.locals=some o->∃bQ,s'.heap.get? env.locals=some {o with slots:=bQ}) (g:G w s'.heap):b1 w s₀ env W₀ ad dM m s':=by
 have s9:∀b o,s₀.heap.get? b=some o->¬J b:=λb o e q=>by rw[(F.ec b q).1] at e;injection e
 have nl:¬J env.locals:=λq=>(F.ec _ q).2.1 rfl;have cY:∀nm c,env.cells.lookup nm=some c->¬J c:=λnm c U q=>(F.ec _ q).2.2.1 nm c U rfl;have no:∀y,dm m y->¬J (ad y):=λy av q=>(F.ec _ q).2.2.2 y av rfl;have Gr:∀{cH},s.heap.Ns env.locals cH->s'.heap.Ns env.locals cH:=λ⟨o,es,ep,e,q⟩=>aP (tf o e) λbQ aO=>⟨_,es,ep,aO,q⟩
 have dr:∀y v,hb env s.heap y v->hb env s'.heap y v:=λy v q=>by
  rcases q with⟨bP,cH,aA,aq⟩ |⟨bP,c,U,o,aj,hd⟩
  ·exact .inl ⟨bP,cH,Gr aA,aq⟩
  ·exact .inr ⟨bP,c,U,o,k _ _ (cY _ _ U) (F.iB _ _ U).2 (F.st.cY _ _ U) aj,hd⟩
 refine cn F.same λh₁ sa az=>?_;refine cn jh λcX zz aR=>?_;have kc:∀b,bU W₀ env m ad dM b->bU W₀ env m ad J b\/(dM b/\s.heap.get? b=none):=λb I=>by
  rcases I with I |I |I |I |I
  ·exact .inl (.inl I)
  ·exact .inl (.inr (.inl I))
  ·exact .inl (.inr (.inr (.inl I)))
  ·exact .inl (.inr (.inr (.inr (.inl I))))
  ·rcases(a0 b I).1 with q |q
   ·exact .inl (.inr (.inr (.inr (.inr q))))
   ·exact .inr ⟨I,q.1⟩
 have gi:∀b o,¬bU W₀ env m ad J b->o.cls≠ .none->s.heap.get? b=some o->s'.heap.get? b=some o/\¬bU W₀ env m ad dM b:=λb o I U e=>⟨k b o (λq=>I (.inr (.inr (.inr (.inr q))))) (λq=>I (.inr (.inl q))) (F.st.g.fY e U) e,λq=>(kc b q).elim I λz=>by rw[z.2] at e;injection e⟩
 have old:∀a,s.heap.get? a=none->¬cf a->s₀.heap.get? a=none:=λa af aM=>by
  induction e:s₀.heap.get? a with
  |none=>rfl
  |some o=>rw[F.keep _ _ aM e] at af;injection af
 refine⟨⟨cX,zz,by rw[aR,az]⟩,λb o I e=>k b o (s9 b o e) (λq=>by rw[q,F.new] at e;injection e) I (F.keep b o I e),F.dJ,⟨F.st.fn,F.st.gl,F.st.bi,g,λb I=>?_,F.st.nl,F.st.cY,λy q aG=>?_⟩,F.inj,λy av=>⟨dr _ _ (F.own y av).1,(F.own y av).2⟩,λa af=>?_,F.new,F.iB,F.apart,F.e8,
  let⟨cH,aA⟩:=F.ns;⟨cH,Gr aA⟩,λnm c U=>dO (F.cl nm c U) λv o aj hd=>⟨v,o,k _ _ (cY nm c U) (F.iB nm c U).2 (F.st.cY nm c U) aj,hd⟩,F.gT⟩
 ·rcases kc b I with kO |kO
  ·refine aE (F.st.low b kO) λaU aM=>?_;refine ah aU λo e cF=>?_;refine⟨?_,aM⟩;rcases I with I |rfl |⟨nm,I⟩ |⟨y,av,rfl⟩ |I
   ·exact⟨o,k b o (λq=>by refine aE (F.e8 b I) λa7 _=>?_;refine ah a7 λbZ aO _=>?_;exact s9 b bZ aO q) (λq=>by refine aE (F.e8 b I) λbk _=>?_;refine ah bk λbZ aO _=>?_;rw[q,F.new] at aO;injection aO) aM e,cF⟩
   ·exact aP (tf o e) λbQ aO=>⟨_,aO,cF⟩
   ·exact⟨o,k b o (cY nm b I) (F.iB nm b I).2 aM e,cF⟩
   ·exact⟨o,k _ o (no y av) (F.own y av).2.2.1 aM e,cF⟩
   ·exact(a0 b I).2
  ·refine⟨(a0 b kO.1).2,?_⟩;rcases(a0 b kO.1).1 with q |q
   ·exact(F.st.low b (.dw q)).2
   ·exact q.2
 ·refine ah (F.st.has y q aG) λu bD eS=>?_;refine⟨u,dr _ _ bD,?_⟩;have ek:=F.gT y q aG;cases q with
  |bw l=>
   refine cg eS λb vs n ax aC a8 bX=>?_;have dD:dm m y:= .inl ⟨l,aG⟩;have ei:=bD.fun (F.own y dD).1;rw[ax] at ei;(injection ei with bB;subst bB);exact⟨_,vs,n,ax,.inr (.inr (.inr (.inl ⟨y,dD,rfl⟩))),k _ _ (no y dD) (F.own y dD).2.2.1 (F.st.g.fY a8 eG) a8,bX.upd gi ek⟩
  |eH ks l=>
   refine iA eS λb vs n ax aC a8 bX d4=>?_;have dD:dm m y:= .inr ⟨ks,l,aG⟩;have ei:=bD.fun (F.own y dD).1;rw[ax] at ei;(injection ei with bB;subst bB);exact⟨_,vs,n,ax,.inr (.inr (.inr (.inl ⟨y,dD,rfl⟩))),k _ _ (no y dD) (F.own y dD).2.2.1 (F.st.g.fY a8 eG) a8,bX,d4.upd gi ek⟩
  |_=>exact eS.upd gi ek
 ·rcases(a0 a af).1 with q |⟨q,aM⟩
  ·exact F.ec a q
  ·refine⟨old a q aM,λz=>?_,λnm c U z=>?_,λy av z=>?_⟩
   ·refine aP F.ns λcH aA=>?_;refine ah (my aA) λo e _=>?_;rw[<-z,q] at e;injection e
   ·refine dO (F.cl nm c U) λv o e _=>?_;rw[<-z,q] at e;injection e
   ·refine aE (F.st.low (ad y) (.inr (.inr (.inr (.inl ⟨y,av,rfl⟩))))) λbz _=>?_;refine ah bz λo e _=>?_;rw[z,q] at e;injection e
theorem b1.O3{J:Addr->Prop}{ad:Str->Addr}(F:b1 w s₀ env W₀ ad J m s)(a0:∀a,dM a->(J a\/(s.heap.get? a=none/\¬cf a))/\∃o,s'.heap.get? a=some o/\cx o)(jh:∃h tk,s'={s with heap:=h,toks:=tk})
  (k:∀b o,¬J b->¬cf b->s.heap.get? b=some o->s'.heap.get? b=some o) (g:G w s'.heap):b1 w s₀ env W₀ ad dM m s':=F.zx a0 jh (λb o ab _ aD e=>k b o ab aD e) (λo e=>⟨o.slots,k _ o (λq=>(F.ec _ q).2.1 rfl) F.st.nl e⟩) g
theorem bR.ground{ad:Str->Addr}(F:bR w s₀ env W₀ aJ ad m r s)(k:∀b o,¬r.J b->s.heap.get? b=some o->h'.get? b=some o):G w h':=
 F.F.dJ.chg (X:=r.J) F.F.st.g (λa af=>cB (F.o4 a af) λab ae aD=>⟨ab,ae⟩) k
theorem bR.grow{ad:Str->Addr}(F:bR w s₀ env W₀ aJ ad m r s)(jh:∃h tk,s'={s with heap:=h,toks:=tk})(k:∀b o,¬r.J b->¬cf b->s.heap.get? b=some o->s'.heap.get? b=some o)(g:G w s'.heap)
  (a0:∀a,r'.J a->(r.J a\/(s.heap.get? a=none/\¬cf a))/\∃o,s'.heap.get? a=some o/\cx o) (p:r'.P s'.heap):bR w s₀ env W₀ aJ ad m r' s'/\bC (cE env m ad r) (cE env m ad r') s s':=by
 refine⟨⟨F.F.O3 (λa af=>?_) jh (λb o I aM e=>k b o (λq=>I (.inr q)) aM e) g,λa af q=>?_,p⟩,λb o I aM e=>⟨k b o (λq=>I (.inr q)) aM e,λq=>?_⟩⟩
 ·rcases af with af |af
  ·refine aE (F.F.st.low a (.dw (.inl af))) λb7 aM=>?_;refine ah b7 λo e cF=>?_;exact⟨.inl (.inl af),o,k a o (F.fM a af) aM e,cF⟩
  ·refine aE (a0 a af) λab ae=>?_;exact⟨ab.elim (λq=> .inl (.inr q)) .inr,ae⟩
 ·rcases(a0 a q).1 with z |z
  ·exact F.fM a af z
  ·refine aE (F.F.st.low a (.dw (.inl af))) λcC _=>?_;refine ah cC λo e _=>?_;rw[z.1] at e;injection e
 ·rcases q with q |q
  ·exact I (.inl q)
  ·rcases(a0 b q).1 with z |z
   ·exact I (.inr z)
   ·rw[z.1] at e;injection e
end
def iR(l:List Str)(vs:List Value):Prop:=∃ls:List (Str×Tok),strValues ls=vs/\ls.map (·.1)=l
theorem iR.of{l:List Str}(x:bJ w h W (aB l) vs):iR l vs:=Dx x
theorem iR.uN{w:World}{h:Heap}{W:Addr->Prop}:∀{l:List Str} {vs:List Value},iR l vs->bJ w h W (aB l) vs
 |l,vs,⟨ls,ab,ae⟩=>by
  subst ab ae;induction ls with
  |nil=>exact rfl
  |cons z r aw=>exact⟨.str z.1 z.2,_,rfl,⟨z.2,rfl⟩,aw⟩
theorem iR.len{l:List Str}(x:iR l vs):vs.length=l.length:=by
 refine ah x λls aU a7=>?_;subst aU;subst a7;simp[strValues]
def qB(h:Heap)(a:Addr)(l:List Str):Prop:=∃vs n,h.get? a=some {cls:= .type "list",data:= .seq ⟨vs⟩ n}/\iR l vs
theorem qB.keep{a:Addr}{l:List Str}(x:qB h a l)(k:∀o,h.get? a=some o->h'.get? a=some o):qB h' a l:=dO x λvs n e s=>⟨vs,n,k _ e,s⟩
theorem qB.some{a:Addr}{l:List Str}(x:qB h a l):∃o,h.get? a=some o/\cx o:=dO x λvs n e s=>⟨_,e,.inr λ_ q=>by injection q⟩
noncomputable abbrev br{α:Type}(L:List (Addr×α)):List Addr:=L.map λz=>z.1
noncomputable def fE(L:List (Addr×List Str)):Rs where
 J:=λa=>a∈br L
 P:=λh=>(br L).Nodup/\∀z∈L,qB h z.1 z.2
 st:=λh h' k p=>⟨p.1,λz hz=>(p.2 z hz).keep λo e=>k _ o (fO hz) e⟩
def jn(prog:Program)(w:World)(K:Around->Prop)(env:Env)(m:Loc)(r:Rs)(e:Expr)(Ψ:ak->Rs->Prop):Prop:=
 ∀(s₀:Shared) (W₀ aJ:Addr->Prop) (ad:Str->Addr) (A:Around) (s:Shared) (Q:Value->Shared->Prop) (E:Value->Shared->Prop),K A->bR w s₀ env W₀ aJ ad m r s->
  (∀p r' v s',bR w s₀ env W₀ aJ ad m r' s'->bC (cE env m ad r) (cE env m ad r') s s'->a6 w s'.heap (bU W₀ env m ad λa=>aJ a\/r'.J a) p v->cb p->Ψ p r'->Q v s')->wpAny (model prog w) A (eval e env) Q E s
abbrev fa(prog:Program)(w:World)(n:Nat)(env:Env)(m:Loc)(r:Rs)(e:Expr)(Ψ:ak->Rs->Prop):Prop:=jn prog w (bK n) env m r e Ψ
variable {Ψ jS:ak->Rs->Prop} {L fB:List (Addr×List Str)}
section
variable {prog:Program} {w:World} {n:Nat} {env:Env} {m:Loc} {r:Rs} {Φ:dn->Loc->Rs->Prop}
theorem jn.mono{K:Around->Prop}{e:Expr}(h:jn prog w K env m r e Ψ)(k:∀p r',Ψ p r'->jS p r'):jn prog w K env m r e jS:=λs₀ W₀ aJ ad A s Q E ai F a4=>
 h s₀ W₀ aJ ad A s Q E ai F λp r' v s' aS dR aq aa cU=>a4 p r' v s' aS dR aq aa (k _ _ cU)
theorem fa.mono{e:Expr}(h:fa prog w n env m r e Ψ)(k:∀p r',Ψ p r'->jS p r'):fa prog w n env m r e jS:=jn.mono h k
theorem jn.of{K:Around->Prop}(bx:∀A,K A->bK n A){e:Expr}(h:fa prog w n env m r e Ψ):jn prog w K env m r e Ψ:=λs₀ W₀ aJ ad A s Q E ai F a4=>h s₀ W₀ aJ ad A s Q E (bx A ai) F a4
theorem rT{M:Model}{e:Expr}{Q:List Value->Shared->Prop}(hs:starEach [e] env=[(false,eval e env)])(h:wpAny M A (eval e env) (λv s'=>Q [v] s') E s):wpAny M A (spliced (backTo pos (starEach [e] env))) Q E s:=by
 rw[hs];exact Calls.spliced_cons (wpAny_mono h (λv au aq=>Calls.spliced_nil aq) λ_ _ e=>e)
theorem B8{K:Around->Prop}(bx:∀A,K A->bK n A){x:Str}{name:Str}{e:Expr}{T id:String}{p':ak->ak}(mt:Meth T name id)(ag:m.lookup x=some q)(aG:ki q)(bE:Typed w q T)(he:jn prog w K env m r e Ψ)(fS:∀p r',Ψ p r'->cb p->oX (p' p)/\ki (p' p)/\iE prog w id q [p] (p' p)/\Φ .next ((x,p' p)::m) r')
  (cv:starEach [e] env=[(false,eval e env)]) (hd:(x==("__debug__":Str))=false)
  (gS:attributeBase (.Name x px) name env (eval (.Name x px) env)=eval (.Name x px) env)
  (iS:((backTo pos (starEach [e] env)).all (λx=> !x.1)&&(backToKw pos (keywordEach [] env)).all (λx=>x.1.isSome)&&decide ([e].length+([]:List Keyword).length+(if([]:List Keyword).isEmpty then 0 else 1) < 30))=true)
  (gA:(apos.endLine==pos.line)=true) (hi:interactive env=false) (hs:swapsWith (.Call (.Attribute (.Name x px) name apos) [e] [] pos) none fQ.line env=pure false):
  dB prog w K env m r (.Expr (.Call (.Attribute (.Name x px) name apos) [e] [] pos) fQ) Φ:=λs₀ W₀ aJ ad A s E ai F=>by
 refine wpAny_Expr_any ?_ hi hs;have ia:=aG.owned ag;refine wpAny_Call_method gS iS gA mt.ho mt.slot mt.ty (wpAny_Name ((F.F.own x ia).1.load F.F.st.fn ?_) hd);refine aE (bE _ s _ F.F.st.g (F.F.nB ag aG)) λab ae=>?_;refine⟨ab,ae,?_⟩;have I:=ja (pos:=pos) (l:=starEach [e] env) (by rw[cv];rfl);refine Calls.callWith_builtin (j5 I) (g8 I (rT cv (he s₀ W₀ aJ ad A s _ E ai F λp r' v aL bp k₂ aq aa cU=>?_)));refine eK (fS p r' cU aa) λa1 a2 dF fh=>?_;refine dF _ A aL (ad x) [v] _ E ((bx A ai).le (c0 _)) bp.F.st.g (F.F.gT x q ag) ⟨aa,trivial⟩ (bp.F.nB ag aG) (.one aq) λu h' tk bL jT=>?_;refine ah (aG.data (bp.F.nB ag aG)) λm9 hR dv=>?_;refine aE (bp.F.mut (tk:=tk) ia a1 (a2.owned a5) hR dv bL jT) λdu fZ=>?_;refine aE (bp.turn du fZ) λf3 lP=>?_;exact⟨ad,_,r',f3,k₂.trans lP,fh⟩
theorem vA{x:Str}{name:Str}{e:Expr}{T id:String}{p':ak->ak}(mt:Meth T name id)(ag:m.lookup x=some q)(aG:ki q)(bE:Typed w q T)(he:fa prog w n env m r e Ψ)(fS:∀p r',Ψ p r'->cb p->oX (p' p)/\ki (p' p)/\iE prog w id q [p] (p' p)/\Φ .next ((x,p' p)::m) r')
  (cv:starEach [e] env=[(false,eval e env)]) (hd:(x==("__debug__":Str))=false)
  (gS:attributeBase (.Name x px) name env (eval (.Name x px) env)=eval (.Name x px) env)
  (iS:((backTo pos (starEach [e] env)).all (λx=> !x.1)&&(backToKw pos (keywordEach [] env)).all (λx=>x.1.isSome)&&decide ([e].length+([]:List Keyword).length+(if([]:List Keyword).isEmpty then 0 else 1) < 30))=true)
  (gA:(apos.endLine==pos.line)=true) (hi:interactive env=false) (hs:swapsWith (.Call (.Attribute (.Name x px) name apos) [e] [] pos) none fQ.line env=pure false):
  ef prog w n env m r (.Expr (.Call (.Attribute (.Name x px) name apos) [e] [] pos) fQ) Φ:=B8 (λ_ h=>h) mt ag aG bE he fS cv hd gS iS gA hi hs
theorem H0{v:Expr}{lo st:Option Expr}{l:List Str}{a b c:Option Int}(aq:Ev prog w n env m v (.list (aB l)))(hF:jt prog w n env m lo a)(iU:jt prog w n env m hi b)(cv:jt prog w n env m st c)(h0:c≠some 0)(hz:l.length<=sizeLine):
  fa prog w n env m (fE L) (.Subscript v (.Slice lo hi st sp) pos) (λp r'=>∃D,p= .val (.ref D)/\r'=fE (L++[(D,cL l a b c)])):=λs₀ W₀ aJ ad A s Q E ai F a4=>by
 have key:Ev prog w n env m (.Subscript v (.Slice lo hi st sp) pos) (.list (pick (aB l) a b c)):=tr aq hF iU cv h0 (by rw[cz];exact hz);refine PyProof.Rows.Subscript_ (aq _ A s _ E ai F.F.st λo au aj az aF=>?_);show wpAny _ _ (do
  let l<-valueOrNone (evalOpt lo env)
  let u<-holding [l] (valueOrNone (evalOpt hi env))
  let t<-holding [l,u] (valueOrNone (evalOpt st env))
  newFields "slice" [l,u,t]) _ _ _
 have x:=F.F.st;have c4:=x.ext az aF;refine aH (ny hF ai c4 λgO aL eU aR aY=>aH (wpAny_holding (ny iU ai (c4.ext aR aY) λgN eb pu d9 eY=>aH (wpAny_holding (ny cv ai ((c4.ext aR aY).ext d9 eY) λiG c9 pt jo mL=>?_)))));refine wpAny_newObj_type ?_ (by show(3:Nat)<=_;decide);have jO:Ext c9 {c9 with heap:=c9.heap.push {cls:= .type "slice",data:= .fields [gO,gN,iG].toArray}}:= .push ..;have ji:=mL.push {cls:= .type "slice",data:= .fields [gO,gN,iG].toArray};have qT:=(((aj.ext aF aR).ext aY d9).ext eY jo).ext mL jO;have de:(c9.heap.push {cls:= .type "slice",data:= .fields [gO,gN,iG].toArray}).IsSliceOf c9.heap.objs.size gO gN iG:= .new ..;have d4:=(((az.trans aR).trans d9).trans jo).trans jO;refine cg qT λadr us k bk aW iw hU=>?_;subst bk;have fin:wpAny (model prog w) A (getItem (.ref adr) (.ref c9.heap.objs.size)) Q E {c9 with heap:=c9.heap.push {cls:= .type "slice",data:= .fields [gO,gN,iG].toArray}}:=by
  refine wpAny_getItem_list_slice (items:=⟨us⟩) ⟨_,iw,rfl,k,rfl⟩ de eU pu pt h0 ?_ (by show us.length<=_;rw[<-hU.len,cz];exact hz);generalize (c9.heap.push {cls:= .type "slice",data:= .fields [gO,gN,iG].toArray})=hA at*;have iv:=F.ext d4 ji;have Wd:Ext s {c9 with heap:=hA.push {cls:= .type "list",data:= .seq (slicePick ⟨us⟩ a b c)}}:=d4.trans (.push ..);have oz:hA.get? hA.objs.size=none:=er _;have G0:s.heap.get? hA.objs.size=none:=by
   induction q:s.heap.get? hA.objs.size with
   |none=>rfl
   |some o=>have:=d4.keep _ _ (ji.fu oz) q;rw[show({c9 with heap:=hA}:Shared).heap=hA from rfl,oz] at this;injection this
  have row:qB (hA.push {cls:= .type "list",data:= .seq (slicePick ⟨us⟩ a b c)}) hA.objs.size (cL l a b c):=by
   refine⟨(slicePick ⟨us⟩ a b c).toList,0,dc _ rfl,?_⟩;have xO:(slicePick (⟨us⟩:Array Value) a b c).toList=(let t:=sliceBounds a b c us.length;(sliceRange t.1 t.2.1 t.2.2).filterMap (us[·]?)):=by
    unfold slicePick;simp
   rw[xO];have ae:=x9 hU (sliceRange (sliceBounds a b c us.length).1 (sliceBounds a b c us.length).2.1 (sliceBounds a b c us.length).2.2);have aD:(sliceRange (sliceBounds a b c us.length).1 (sliceBounds a b c us.length).2.1 (sliceBounds a b c us.length).2.2).filterMap ((aB l)[·]?)=aB (cL l a b c):=by
    rw[<-hU.len];exact rR ak.str l a b c
   rw[aD] at ae;exact iR.of ae
  have hl:∀z,(fE (L++[(hA.objs.size,cL l a b c)])).J z->((fE L).J z\/(hA.get? z=none/\¬cf z))/\∃o,(hA.push {cls:= .type "list",data:= .seq (slicePick ⟨us⟩ a b c)}).get? z=some o/\cx o:=λz hz=>by
   have hz:z∈(L++[(hA.objs.size,cL l a b c)]).map (λz=>z.1):=hz;rw[map_append,mem_append] at hz;replace hz:=hz;rcases hz with hz |hz
   ·refine aE (iv.F.st.low z (.dw (.inr hz))) λbz _=>?_;refine ah bz λo e cF=>?_;exact⟨.inl hz,o,dV _ e,cF⟩
   ·obtain rfl:=cQ.mp hz;exact⟨.inr ⟨oz,ji.fu oz⟩,row.some⟩
  have hK:(fE (L++[(hA.objs.size,cL l a b c)])).P (hA.push {cls:= .type "list",data:= .seq (slicePick ⟨us⟩ a b c)}):=by
   refine aE iv.p λdy bN=>?_;refine⟨?_,λz hz=>?_⟩
   ·rw[br,map_append,nodup_append];refine⟨dy,by simp,λy av z hz e=>?_⟩;obtain rfl:=cQ.mp hz;subst e;refine aE (iv.F.st.low _ (.dw (.inr av))) λb7 _=>?_;refine ah b7 λo e _=>?_;have e:hA.get? hA.objs.size=some o:=e;rw[oz] at e;injection e
   ·rcases List.mem_append.mp hz with hz |hz
    ·exact(bN z hz).keep λo e=>dV _ e
    ·obtain rfl:=cQ.mp hz;exact row
  obtain⟨aS,k'⟩:=iv.grow (r':=fE (L++[(hA.objs.size,cL l a b c)])) (s':={c9 with heap:=hA.push {cls:= .type "list",data:= .seq (slicePick ⟨us⟩ a b c)}}) ⟨_,_,rfl⟩ (λb o _ _ e=>dV _ e) (ji.push _) hl hK;exact a4 (.val (.ref hA.objs.size)) _ _ _ aS ((bC.ext d4).trans k') rfl trivial ⟨_,rfl,rfl⟩
 induction st with
 |none=>exact PyProof.Rows.tail_any (T:="list") ⟨_,iw,rfl⟩ fD.lookup fin rfl
 |some st=>exact PyProof.Rows.tail_any (T:="list") ⟨_,iw,rfl⟩ fD.lookup fin rfl
end
variable {fr:List Env}
section
variable {prog:Program} {w:World} {n:Nat} {env:Env} {m:Loc} {r:Rs}
structure mE (w:World) (s₀:Shared) (W₀:Addr->Prop) (r r':Rs) (s s':Shared):Prop where
 ext:Ext s₀ s'
 g:G w s'.heap
 p:r'.P s'.heap
 j:∀a,r'.J a->s₀.heap.get? a=Option.none/\(∃o,s'.heap.get? a=some o/\cx o)/\¬cf a
 k:bC r.J r'.J s s'
theorem wj{f c:Addr}{o:Obj}{sc:Scope}{ta:Env->Around->Prop}
  (ai:bK (n+1) A) (R7:∀env:Env,ta env (A.deeper env)) (F:sA w f c names o cP fd body il kX sc kq) (hlen:args.length=names.length) (cN:dA args)
  (same:∃h tk,s={s₀ with heap:=h,toks:=tk}) (lH:gd s₀.heap s.heap) (dJ:G w s₀.heap) (g:G w s.heap) (e8:eB W₀ s₀.heap) (a0:∀a,aJ a\/r.J a->s₀.heap.get? a=none/\(∃o,s.heap.get? a=some o/\cx o)/\¬cf a) (fM:∀a,aJ a->¬r.J a) (aa:r.P s.heap)
  (jK:∀(cI:List (Str×Value)->Shared->Prop) (c5:Value->Shared->Prop),(∀eh au,bJ w au.heap (λa=>W₀ a\/(aJ a\/r.J a)) args eh->Ext s au->G w au.heap->cI (names.zip eh) au)->wpAny (model prog w) A.in1 (bindArgs fd ⟨vs,[]⟩) cI c5 s)
  (h:∀env:Env,c6 env sc->env.code= .ref c->env.qual=kq++".<locals>."->env.frame=some env.locals->bt prog w (ta env) env (names.zip args) r body Φ)
  (FA:∀m' r',¬Φ .brk m' r'/\¬Φ .cont m' r')
  (Q3:∀p v r' s',Φ (.ret p) [] r'->a6 w s'.heap (λa=>W₀ a\/(aJ a\/r'.J a)) p v->cb p->mE w s₀ W₀ r r' s s'->Q v s')
  (Ow:∀m' r' s',Φ .next m' r'->mE w s₀ W₀ r r' s s'->Q .none s'):codeAny (model prog w) A (.call (.ref f) ⟨vs,[]⟩) (ot Q E) s:=by
 refine Ds (J:=λa=>aJ a\/r.J a) ai.lim F hlen cN same lH dJ g e8 a0 jK ?_;intro env au ba d8 fw d3 F e sE xl;have dp:∀a,r.J a->¬cf a:=λa af=>(a0 a (.inr af)).2.2;have aX:bR w s₀ env W₀ aJ (λ_=>0) (names.zip args) r au:=⟨F,fM,r.st _ _ (λb o I q=>e.keep b o (dp b I) q) aa⟩
 have G3:∀b o,s.heap.get? b=some o->¬b4 env (names.zip args) (λ_=>0) b:=λb o q z=>by
  rcases z with z |⟨nm,z⟩ |⟨y,av,z⟩
  ·rw[z,sE] at q;injection q
  ·rw[xl nm b z] at q;injection q
  ·rcases av with⟨l,av⟩ |⟨ks,l,av⟩
   ·exact nt cN (p4 av)
   ·exact nt cN (p4 av)
 refine wpAny_mono (h env ba d8 fw d3 s₀ W₀ aJ _ _ au _ (R7 env) aX) (λej s' o=>?_) λ_ _ x=>x;induction ej with
 |next=>
  refine gm o λa3 m' r' aS k hE=>?_;exact Ow m' r' s' hE ⟨aS.F.r8,aS.F.st.g,aS.p,aS.o4,λb o I aM q=>let z:=k b o (λz=>z.elim (G3 b o q) I) aM (e.keep b o aM q);⟨z.1,λy=>z.2 (.inr y)⟩⟩
 |brk=>refine gm o λa3 m' r' aS k hE=>?_;exact absurd hE (FA _ _).1
 |cont=>refine gm o λa3 m' r' aS k hE=>?_;exact absurd hE (FA _ _).2
 |ret v=>
  refine z2 o λp r' aq eT aO gh p' hN k hE=>?_;exact Q3 p v r' s' hE aq eT ⟨aO,gh,p',hN,λb o I aM q=>k b o (λz=>z.elim (G3 b o q) I) aM (e.keep b o aM q)⟩
theorem bR.back{ad:Str->Addr}(F:bR w s₀ env W₀ aJ ad m r s)(B:mE w s₀ W₀ r r' s s'):bR w s₀ env W₀ aJ ad m r' s'/\bC (cE env m ad r) (cE env m ad r') s s':=by
 refine F.grow ?_ (λb o I aM e=>(B.k b o I aM e).1) B.g (λa af=>⟨?_,(B.j a af).2.1⟩) B.p
 ·refine cn B.ext.same λh tk e=>?_;refine cn F.F.same λh' oc aO=>?_;exact⟨h,tk,by rw[e,aO]⟩
 ·by_cases bf:r.J a
  ·exact .inl bf
  ·refine .inr ⟨?_,(B.j a af).2.2⟩;induction e:s.heap.get? a with
   |none=>rfl
   |some o=>exact absurd af (B.k a o bf (B.j a af).2.2 e).2
theorem bR.callee{ad:Str->Addr}(F:bR w s₀ env W₀ aJ ad m r s):(∀a,(aJ a\/b4 env m ad a)\/r.J a->s₀.heap.get? a=none/\(∃o,s.heap.get? a=some o/\cx o)/\¬cf a)/\∀a,(aJ a\/b4 env m ad a)->¬r.J a:=by
 refine⟨λa af=>?_,λa af q=>?_⟩
 ·rcases af with(af |af) |af
  ·exact⟨(F.F.ec a (.inl af)).1,F.F.st.low a (.dw (.inl af))⟩
  ·refine⟨?_,F.F.st.low a af.j2⟩;rcases af with rfl |⟨nm,af⟩ |⟨x,ag,rfl⟩
   ·exact F.F.new
   ·exact(F.F.iB nm a af).1
   ·exact(F.F.own x ag).2.1
  ·exact F.o4 a af
 ·rcases af with af |af
  ·exact F.fM a af q
  ·exact F.F.wD (.inr q) af
theorem Ci{x:Str}{l:List ak}(ag:m.lookup x=some (.bw l))(hd:(x==("__debug__":Str))=false)(h:Φ (.ret (.list l)) [] r):ef prog w n env m r (.Return (some (.Name x px)) pos) Φ:=λs₀ W₀ aJ ad A s E ai F=>by
 have aG:ki (.bw l):= .inl ⟨l,rfl⟩;refine wpAny_Return_some (wpAny_Name ((F.F.own x (aG.owned ag)).1.load F.F.st.fn ?_) hd);refine cg (F.F.nB ag aG) λa us k e aW aj hs=>?_
 (injection e with bB;subst bB)
 refine⟨.list l,r,⟨ad x,us,k,rfl,λq=>?_,aj,hs.upd (λb o I _ e=>⟨e,λq=>I (q.elim .inl λq=> .dw q)⟩) (F.F.gT x _ ag)⟩,F.F.gT x _ ag,F.F.r8,F.F.st.g,F.p,F.o4,λb o I aM q=>⟨q,λz=>I (.inr z)⟩,h⟩;rcases q with q |q
 ·refine aE (F.F.e8 _ q) λaU _=>?_;refine ah aU λo e cF=>?_;rw[(F.F.own x (aG.owned ag)).2.1] at e;injection e
 ·exact F.F.wD q (.inr (.inr ⟨x,aG.owned ag,rfl⟩))
theorem a6.less{p:ak}{v:Value}(x:a6 w h W p v)(aa:cb p)(aW:∀a,W' a->W a):a6 w h W' p v:=x.upd (λb o I _ e=>⟨e,λq=>I (aW b q)⟩) aa
theorem bJ.less{p:List ak}{v:List Value}(x:bJ w h W p v)(aa:dA p)(aW:∀a,W' a->W a):bJ w h W' p v:=x.upd (λb o I _ e=>⟨e,λq=>I (aW b q)⟩) aa
def eQ(prog:Program)(w:World)(n:Nat)(f:Addr)(args:List ak)(r:Rs)(Ψ:ak->Rs->Prop):Prop:=
 ∀(s₀ s:Shared) (W₀ aJ:Addr->Prop) (A:Around) (vs:List Value) (Q:Value->Shared->Prop) (E:Value->Shared->Prop),bK n A->(∃h tk,s={s₀ with heap:=h,toks:=tk})->gd s₀.heap s.heap->G w s₀.heap->G w s.heap->eB W₀ s₀.heap->
  (∀a,aJ a\/r.J a->s₀.heap.get? a=none/\(∃o,s.heap.get? a=some o/\cx o)/\¬cf a)->(∀a,aJ a->¬r.J a)->r.P s.heap->bJ w s.heap (λa=>W₀ a\/(aJ a\/r.J a)) args vs->
  (∀p v r' s',Ψ p r'->a6 w s'.heap (λa=>W₀ a\/(aJ a\/r'.J a)) p v->cb p->mE w s₀ W₀ r r' s s'->Q v s')->codeAny (model prog w) A (.call (.ref f) ⟨vs,[]⟩) (ot Q E) s
theorem eQ.of{f c:Addr}{o:Obj}{sc:Scope} 
  (F:sA w f c names o cP fd body il kX sc kq) (hlen:args.length=names.length) (cN:dA args)
  (jK:∀(W:Addr->Prop) (A:Around) (s:Shared) (vs:List Value) (cI:List (Str×Value)->Shared->Prop) (c5:Value->Shared->Prop),G w s.heap->eB W s.heap->bJ w s.heap W rX vs->(∀eh au,bJ w au.heap W args eh->Ext s au->G w au.heap->cI (names.zip eh) au)->wpAny (model prog w) A (bindArgs fd ⟨vs,[]⟩) cI c5 s)
  (h:∀env:Env,c6 env sc->env.code= .ref c->env.qual=kq++".<locals>."->env.frame=some env.locals->aZ prog w n env (names.zip args) r body (GZ Ψ)):eQ prog w (n+1) f rX r Ψ:=λs₀ s W₀ aJ A vs Q E ai same lH dJ g e8 a0 fM aa bb a4=>by
 refine wj (ta:=λ_=>bK n) ai (λ_=>ai.in) F hlen cN same lH dJ g e8 a0 fM aa (λcI c5 h'=>jK _ _ _ vs _ _ g ?_ bb h') h (λ_ _=>⟨id,id⟩) (λp v r' s' cU aq eT B=>a4 p v r' s' cU aq eT B) (λm' r' s' cU B=>a4 .none .none r' s' cU rfl trivial B);intro a af;rcases af with af |af
 ·exact(e8.kt lH) a af
 ·exact(a0 a af).2
def h2(prog:Program)(w:World)(n:Nat)(fr:List Env)(f:Addr)(args:List ak)(r:Rs)(Ψ:ak->Rs->Prop):Prop:=
 ∀(s₀ s:Shared) (W₀ aJ:Addr->Prop) (A:Around) (vs:List Value) (Q:Value->Shared->Prop) (E:Value->Shared->Prop),bK n A->A.frames=some fr->(∃h tk,s={s₀ with heap:=h,toks:=tk})->gd s₀.heap s.heap->G w s₀.heap->G w s.heap->eB W₀ s₀.heap->
  (∀a,aJ a\/r.J a->s₀.heap.get? a=none/\(∃o,s.heap.get? a=some o/\cx o)/\¬cf a)->(∀a,aJ a->¬r.J a)->r.P s.heap->bJ w s.heap (λa=>W₀ a\/(aJ a\/r.J a)) args vs->
  (∀p v r' s',Ψ p r'->a6 w s'.heap (λa=>W₀ a\/(aJ a\/r'.J a)) p v->cb p->mE w s₀ W₀ r r' s s'->Q v s')->codeAny (model prog w) A (.call (.ref f) ⟨vs,[]⟩) (ot Q E) s
theorem h2.of{f c:Addr}{o:Obj}{sc:Scope} 
  (F:sA w f c names o cP fd body il kX sc kq) (hlen:args.length=names.length) (cN:dA args)
  (jK:∀(W:Addr->Prop) (A:Around) (s:Shared) (vs:List Value) (cI:List (Str×Value)->Shared->Prop) (c5:Value->Shared->Prop),G w s.heap->eB W s.heap->bJ w s.heap W rX vs->(∀eh au,bJ w au.heap W args eh->Ext s au->G w au.heap->cI (names.zip eh) au)->wpAny (model prog w) A (bindArgs fd ⟨vs,[]⟩) cI c5 s)
  (h:∀env:Env,c6 env sc->env.code= .ref c->env.qual=kq++".<locals>."->env.frame=some env.locals->bt prog w (ph n (env::fr)) env (names.zip args) r body (GZ Ψ)):h2 prog w (n+1) fr f rX r Ψ:=λs₀ s W₀ aJ A vs Q E ai d3 same lH dJ g e8 a0 fM aa bb a4=>by
 refine wj (ta:=λenv A=>bK n A/\A.frames=some (env::fr)) ai (λenv=>⟨ai.in,by show A.frames.map (env::·)=_;rw[d3];rfl⟩) F hlen cN same lH dJ g e8 a0 fM aa (λcI c5 h'=>jK _ _ _ vs _ _ g ?_ bb h') h (λ_ _=>⟨id,id⟩) (λp v r' s' cU aq eT B=>a4 p v r' s' cU aq eT B) (λm' r' s' cU B=>a4 .none .none r' s' cU rfl trivial B);intro a af;rcases af with af |af
 ·exact(e8.kt lH) a af
 ·exact(a0 a af).2
end
theorem ht{K:Around->Prop}{r:Rs}(h:∀Ψ,Φ=Ψ->bt prog w K env m r ss Ψ):bt prog w K env m r ss Φ:=h Φ rfl
noncomputable def k3(st:List (List Str)×List Str)(k5:List Str):List (List Str)×List Str:=
 let new:=k5.filter λx=> !st.2.any (· ==x)
 (st.1++[cL k5 none (some (new.length+1)) none],st.2++new)
noncomputable def cutAt(ls:List (List Str))(j:Nat):List (List Str)×List Str:=(ls.take j).foldl k3 ([],[])
noncomputable def iP(ls:List (List Str)):List (List Str):=(ls.foldl k3 ([],[])).1
theorem I1(ls:List (List Str))(ao:∀l∈ls,l.length<=5):∀(nY:List (List Str)) (st:List (List Str)×List Str),(∀l∈nY,l∈ls)->(nY.foldl k3 st).2.length<=st.2.length+5*nY.length/\∀x∈(nY.foldl k3 st).2,x∈st.2\/∃l∈ls,x∈l:=by
 intro a9;induction a9 with
 |nil=>
  intro st _;exact⟨by simp,λx ag=> .inl ag⟩
 |cons l r aw=>
  intro st h;refine aE (aw (k3 st l) λz hz=>h z (en _ hz)) λab ae=>?_;have lr:=h l cM;have dz:=ao l lr;have aD:(k3 st l).2=st.2++l.filter λx=> !st.2.any (· ==x):=rfl;have bc:=length_filter_le (λx=> !st.2.any (· ==x)) l;refine⟨?_,λx ag=>?_⟩
  ·rw[foldl_cons,dI];rw[aD,length_append] at ab;walk_at"o"
  ·rcases ae x ag with q |q
   ·rw[aD,mem_append] at q;replace q:=q;rcases q with q |q
    ·exact .inl q
    ·exact .inr ⟨l,lr,(List.mem_filter.mp q).1⟩
   ·exact .inr q
abbrev mm(m:Loc):dn->Loc->Prop:=λej m'=>ej= .next/\m'=m
noncomputable abbrev ez(L:List (Addr×List Str)):List ak:=L.map λz=> .val (.ref z.1)
theorem tq:cb (.list (ez L)):=j9 λp aa=>by
 refine ah (bA.mp aa) λz _ aU=>?_;subst aU;exact trivial
def N4(ls:List (List Str))(j:Nat)(m:Loc)(r:Rs):Prop:=
 ∃L,r=fE L/\L.map (·.2)=(cutAt ls j).1/\bM m "rows" (.bw (ez L))/\bM m "known" (.bw (aB (cutAt ls j).2))
theorem Ny(ao:∀l∈ls,l.length<=5)(su:ls.length<=5)(e1:∀l∈ls,∀x∈l,PyData.strOk x=true) 
  (ai:bK 3 A) (g:G w s.heap) (low:eB W s.heap) (bb:bJ w s.heap W [.list (bF ls)] vs)
  (a4:∀v s' L,a6 w s'.heap W (.list (ez L)) v->L.map (·.2)=iP ls->mE w s W (fE []) (fE L) s s'->Q v s'):wpAny (model prog w) A (call (.ref 251) vs) Q E s:=by
 have de:sizeLine=2 ^ 24:=rfl;refine bj bb λv oB ax aq aC=>?_;have aC:oB=[]:=aC;subst aC ax;refine wpAny_call (wj (ta:=λ_=>bK 2) (n:=2) (args:=[.list (bF ls)]) (names:=["ladders"]) (c:=250) (s₀:=s) (W₀:=W) (aJ:=λ_=>False) (r:=fE [])
  (Φ:=λej _ r'=>match ej with | .ret p=>∃L,r'=fE L/\p= .list (ez L)/\L.map (·.2)=iP ls |_=>False)
  ai (λ_=>ai.in) (by exact⟨rfl,rfl,rfl,rfl,rfl,rfl,rfl,ee (by kernel_rfl),rfl,rfl,rfl,kinds_of (by kernel_rfl),rfl,rfl,rfl,by dsimp only,by dsimp only,by kernel_rfl⟩) (by exact rfl) ⟨lF,trivial⟩
  ⟨s.heap,s.toks,rfl⟩ (.refl _) g g low (λa af=>af.elim False.elim λq=>absurd q b8) (λa af=>af.elim) ⟨nodup_nil,λz hz=>absurd hz b8⟩ ?_ ?_ (λ_ _=>⟨id,id⟩) ?_ (λ_ _ _ h _=>h.elim))
 ·intro cI c5 h';refine wpAny_of_eq (a:=[(("ladders":Str),v)]) (by rfl) (h' [v] s (.one (aq.upd (λb o I _ e=>⟨e,λq=>q.elim I λq=>q.elim False.elim λq=>absurd q b8⟩) lF)) (.refl s) g)
 ·intro env ba d8 fw d3;show aZ prog w 2 env [("ladders",.list (bF ls))] _ _ _;refine aZ.cons (df.R (tj (Φ:=mm (("rows",.bw [])::[("ladders",.list (bF ls))])) (.inl (by walk_at"e")) (lookup_miss (by kernel_rfl) rfl) ⟨rfl,rfl⟩ rfl) (λp m h=>by injection (h.1)) ?_);intro _ _ dg;refine aE dg λdq e2=>?_;subst dq;subst e2;refine aZ.cons (df.R (tj (Φ:=mm (("known",.bw [])::("rows",.bw [])::[("ladders",.list (bF ls))])) (by walk_at"e") (lookup_miss (by kernel_rfl) (lookup_miss (by kernel_rfl) rfl)) ⟨rfl,rfl⟩ rfl) (λp m h=>by injection (h.1)) ?_);intro _ _ eZ;refine aE eZ λhB iX=>?_;subst hB;subst iX;refine aZ.cons (ni (q:= .list (bF ls)) (ps:=bF ls) (N4 ls) (Ev.R (by walk_at"e")) cw.list lF (λp aa=>by refine ah (jG aa) λl _ a7=>?_;subst a7;exact d5) (.inl (by walk_at"e")) ⟨[],rfl,rfl,bS (by kernel_rfl) a5,a5⟩ ?_ ?_ (λ_=>rfl))
  ·intro j p m' r' aa gE;refine ht λpK hQ=>?_;refine h7 gE λL jU iI ew gv=>?_;subst jU;rw[d7] at aa;replace aa:=aa;refine ah (Option.map_eq_some_iff.mp aa) λl sQ bk=>?_;subst bk;have lr:l∈ls:=eP sQ;have kR:j < ls.length:=iL sQ;have dz:=ao l lr;refine aE (I1 ls ao (ls.take j) ([],[]) λz hz=>mem_of_mem_take hz) λbP cJ=>?_;have um:cutAt ls (j+1)=k3 (cutAt ls j) l:=by unfold cutAt;rw[take_add_one,sQ,foldl_append];rfl
   change (cutAt ls j).2.length<=_ at bP;change ∀x∈(cutAt ls j).2,_ at cJ;have VK:L.length=(cutAt ls j).1.length:=by rw[<-iI,bO]
   have Sy:∀(nY:List (List Str)) (st:List (List Str)×List Str),(nY.foldl k3 st).1.length=st.1.length+nY.length:=λnY=>by
    induction nY with
    |nil=>intro st;rfl
    |cons a r aw=>intro st;rw[foldl_cons,aw,dI];show(st.1++[_]).length+_=_;rw[length_append];simp;walk_at"o"
   have VG:(cutAt ls j).1.length<=5:=by unfold cutAt;rw[Sy,length_take];simp;walk_at"o"
   generalize cv:cutAt ls j=st at*;have ar:st.2.length<=25:=by rw[length_take] at bP;simp only[length_nil] at bP;walk_at"o"
   have f6:(aB l).length<=sizeLine:=by rw[cz];exact bH ‹_› rfl
   have kg:=length_filter_le (λx=> !st.2.any (· ==x)) l;refine aZ.cons (df.R (rI (Φ:=mm (("new",.list (((aB l).filter (pF λx=> !st.2.any (· ==x))).map (oi .str)))::("ladder",.list (aB l))::m')) (x:="name") (c:=false) (q:= .list (aB l)) (ps:=aB l) (t:=pF λx=> !st.2.any (· ==x)) (f:=oi .str) (mf:=[("known",.bw (aB st.2))]) ba (by walk_at"e") cw.list ⟨λ_ _=>rfl,λ_=>rfl,by kernel_rfl,by kernel_rfl,by decide+kernel,rfl⟩ (mX (bS (by kernel_rfl) gv) (by kernel_rfl)) f6
    (λp aa _=>?_) (λp aa cenv dQ=>?_) (λp aa _ cenv dQ=>?_) (.inl (by walk_at"e")) ⟨rfl,rfl⟩ (p9 ba (by kernel_rfl) rfl (by kernel_rfl)) (λ_=>rfl)) (λp m h=>by injection (h.1)) ?_)
   ·refine ah (hv aa) λx _ bz=>?_;subst bz;exact trivial
   ·refine ah (hv aa) λx sr b7=>?_;subst b7;show fX _ _ _ _ _ _ (!st.2.any (· ==x));rw[<-rW];refine fX.one (bV.cmp (Ev.name a5 (by kernel_rfl)) (Ev.name (bS (by kernel_rfl) a5) (by kernel_rfl)) (Iw (mw λy av=>?_) (e1 l lr x sr)) (by with_unfolding_all rfl));rcases cJ y av with q |⟨l',e0,hC⟩
    ·exact absurd q b8
    ·exact e1 l' e0 y hC
   ·refine ah (hv aa) λx _ cC=>?_;subst cC;exact Ev.name a5 (by kernel_rfl)
   intro _ _ h9;refine aE h9 λl6 nX=>?_;subst l6;subst nX;rw[tZ];generalize S9:(l.filter λx=> !st.2.any (· ==x))=new at*;have u0:k3 st l=(st.1++[cL l none (some ((new.length:Int)+1)) none],st.2++new):=by rw[<-S9];rfl
   show aZ prog w 2 env (("new",.list (aB new))::("ladder",.list (aB l))::m') _ _ _;refine aZ.cons (vA (q:= .bw (ez L)) (p':=λp=> .bw (ez L++[p])) (T:="list") (id:="list.append") k4 (by walk_at"e") (.inl ⟨_,rfl⟩) Typed.bw
    (H0 (a:=none) (b:=some ((new.length:Int)+1)) (c:=none) (by walk_at"e") trivial (d6 (p:= .int new.length) (Ev.call (ft (by walk_at"e") nv (by exact rfl) (by decide+kernel) (by kernel_rfl)) (.inl ⟨"len",rfl⟩) (aK.cons (by walk_at"e") aK.nil rfl) (cz (a:=new)▸Cl.len (by rw[cz];walk_at"o")) rfl rfl) Ev.int p6) trivial (by decide) (by exact bH ‹_› rfl)) ?_ rfl (by kernel_rfl) rfl rfl rfl (jc ba) rfl)
   intro p r' n5 _;refine ah n5 λD nV rm=>?_;subst nV;subst rm;refine⟨j9 λp aa=>?_,.inl ⟨_,rfl⟩,iE.append (by rw[bO];walk_at"o"),?_⟩
   ·rcases List.mem_append.mp aa with aa |aa
    ·refine ah (bA.mp aa) λz _ c2=>?_;subst c2;exact trivial
    ·rw[cQ.mp aa];exact trivial
   ·refine aZ.cons (df.R (x8 (Φ:=mm (("known",.bw (aB st.2++aB new))::("rows",.bw (ez L++[.val (.ref D)]))::("new",.list (aB new))::("ladder",.list (aB l))::m')) (q:= .bw (aB st.2)) (ps:=[.list (aB new)]) (p':= .bw (aB st.2++aB new)) (T:="list") (id:="list.extend") wd (by walk_at"e") (.inl ⟨_,rfl⟩) Typed.bw (aK.cons (by walk_at"e") aK.nil rfl) ⟨d5,trivial⟩ (by rw[<-jH];exact d5 (l:=st.2++new)) (.inl ⟨_,rfl⟩) (IH (by rw[cz,cz];walk_at"o")) ⟨rfl,rfl⟩ rfl (by kernel_rfl) rfl rfl rfl (jc ba) rfl) (λp m h=>by injection (h.1)) ?_);intro _ _ q5;refine aE q5 λqO qF=>?_;subst qO;subst qF;subst hQ;refine aZ.nil ⟨L++[(D,cL l none (some ((new.length:Int)+1)) none)],rfl,?_,?_,?_⟩
    ·rw[um,u0,map_append,iI];rfl
    ·rw[show ez (L++[(D,cL l none (some ((new.length:Int)+1)) none)])=ez L++[.val (.ref D)] from map_append];exact bS (by kernel_rfl) a5
    ·rw[um,u0,jH];exact a5
  ·intro m' r' qY;refine h7 qY λL qR iI ew gv=>?_;subst qR;refine aZ.nil (aZ.cons (Ci ew (by kernel_rfl) ⟨L,rfl,rfl,?_⟩));rw[iI];unfold cutAt iP;rw[bO,take_length]
 ·intro p v r' s' rb aq aa B;refine dK rb λL ub uf iI=>?_;subst ub;subst uf;exact a4 v s' L (aq.less aa λa af=> .inl af) iI B
section
variable {prog:Program} {w:World} {n:Nat} {env:Env} {m:Loc} {r:Rs} {Φ:dn->Loc->Rs->Prop}
def Conv(w:World)(m m':Loc)(r:Rs):Prop:=∀(W:Addr->Prop) (h:Heap),(∀a,r.J a->W a)->r.P h->∀x q,m'.lookup x=some q->∃q',m.lookup x=some q'/\∀v,a6 w h W q' v->a6 w h W q v
theorem Conv.st(c:Conv w m m' r)(a0:∀a,r.J a->W a)(aa:r.P h)(x:St w env W m h):St w env W m' h:=⟨x.fn,x.gl,x.bi,x.g,x.low,x.nl,x.cY,λy q aG=>by
 refine ah (c W h a0 aa y q aG) λq' ab ae=>?_;refine ah (x.has y q' ab) λv aD bc=>?_;exact⟨v,aD,ae v bc⟩⟩
theorem Jp{e:Expr}{p:ak}(h:Ev prog w n env m' e p)(c:Conv w m m' r):aV prog w n env m r e p:=λW A s Q E ai x a0 aa a4=>h W A s Q E ai (c.st a0 aa x) a4
theorem yu{e:Expr}{b:Bool}(h:bV prog w n env m' e b)(c:Conv w m m' r):gr prog w n env m r e b:=λW A s Q E ai x a0 aa a4=>h W A s Q E ai (c.st a0 aa x) a4
theorem Conv.nil:Conv w m [] r:=λW h _ _ x q e=>by injection e
theorem Conv.cons{x:Str}(ag:m.lookup x=some q')(aq:∀(W:Addr->Prop) h,(∀a,r.J a->W a)->r.P h->∀v,a6 w h W q' v->a6 w h W q v)(c:Conv w m m' r):Conv w m ((x,q)::m') r:=λW h a0 aa y p e=>by
 rw[di] at e;replace e:=e;induction av:y==x with
 |true=>rw[av] at e;obtain rfl:=bT e;rw[eq_of_beq av];exact⟨q',ag,aq W h a0 aa⟩
 |false=>rw[av] at e;exact c W h a0 aa y p e
theorem Conv.same{x:Str}(ag:m.lookup x=some q)(c:Conv w m m' r):Conv w m ((x,q)::m') r:=Conv.cons ag (λ_ _ _ _ _ h=>h) c
theorem Conv.row{x:Str}{a:Addr}{l:List Str}(hz:(a,l)∈L)(ag:m.lookup x=some (.val (.ref a)))(c:Conv w m m' (fE L)):Conv w m ((x,.bw (aB l))::m') (fE L):=
 Conv.cons ag (λW h a0 aa v aq=>by
  rw[show v= .ref a from aq];refine dO (aa.2 _ hz) λvs k e s=>?_;exact⟨a,vs,k,rfl,a0 a (fO (f:=λz=>z.1) hz),e,s.uN⟩) c
theorem gR.bw{l:List ak}(hz:l.length<=sizeLine):gR prog w (.bw l) (!l.isEmpty):=λW A s _ Q E r g fm h=>by
 refine cg fm λa vs k e aW aj hs=>?_;subst e;refine wpAny_truthy_list (items:=⟨vs⟩) ⟨_,aj,rfl,k,rfl⟩ (fits63 hs.len hz) ?_;have:(!(⟨vs⟩:Array Value).isEmpty)= !l.isEmpty:=by
  have:=hs.len
  (induction l)<;>(induction vs)<;>simp_all
 rw[this];exact h _ (.tok s _) g
theorem Je{v:Expr}{lo st:Option Expr}{l:List ak}{a b c:Option Int}(aq:Ev prog w n env m v (.bw l))(hF:jt prog w n env m lo a)(iU:jt prog w n env m hi b)(cv:jt prog w n env m st c)(h0:c≠some 0)(hz:l.length<=sizeLine):
  Ev prog w n env m (.Subscript v (.Slice lo hi st sp) pos) (.list (pick l a b c)):=by
 refine yd aq hF iU cv Typed.bw fD.lookup ?_;intro W A s o bQ gO gN vs Q E ai g low aj de eU pu pt h;refine cg aj λad us n aU aW iw hs=>?_;subst aU;refine wpAny_getItem_list_slice (items:=⟨us⟩) ⟨_,iw,rfl,n,rfl⟩ de eU pu pt h0 ?_ (by show us.length<=_;rw[<-hs.len];exact hz);refine h _ _ ⟨_,(slicePick ⟨us⟩ a b c).toList,0,rfl,low.fresh,dc _ rfl,?_⟩ (.push ..) (g.push _);have e:(slicePick (⟨us⟩:Array Value) a b c).toList=(let t:=sliceBounds a b c us.length;(sliceRange t.1 t.2.1 t.2.2).filterMap (us[·]?)):=by
  unfold slicePick;simp
 rw[e];unfold pick;rw[hs.len];exact(x9 hs _).mono λb o U e=>dV _ e
theorem JS{x:Str}:cA prog w (compareOp .Is) (.str x) .none (.bool false):=λW A s _ _ Q E r g _ hH aO h=>by
 refine aP hH λt e=>?_;rw[e,show _=Value.none from aO];exact wpAny_is_other rfl (by intro q;injection q) (h _ _ rfl (.refl s) g)
theorem nA.one{e:Expr}{b:Bool}(h:gr prog w n env m r e b):nA prog w n env m r.J r.P [e] b:=λW A s Q E ai x a0 aa a4=>wpAny_tests_one (h W A s Q E ai x a0 aa a4)
theorem aZ.drop(h:aZ prog w n env m r' ss Φ)(a0:∀a,r'.J a->r.J a)(b5:∀h,r.P h->r'.P h):aZ prog w n env m r ss Φ:=λs₀ W₀ aJ ad A s E ai F=>by
 have aS:bR w s₀ env W₀ aJ ad m r' s:=⟨F.F.tP λa af=>af.imp id (a0 a),λa af q=>F.fM a af (a0 a q),b5 _ F.p⟩
 exact wpAny_mono (h s₀ W₀ aJ ad A s E ai aS) (λf s' o=>o.pre (CE (.refl _ s) λb I=>I.imp id (a0 b))) λ_ _ e=>e
theorem HQ{iter:Expr}{x y:Str}{f:ak->ak}{c:Bool}{sc:Scope}(ba:c6 env sc)(hit:Ev prog w n env m iter q)(f9:cw prog w q ps)(S:iK scope sc x c)
  (f7:∀y p,mf.lookup y=some p->m.lookup y=some p/\scope.names.lookup y=some .free) (hz:ps.length<=sizeLine) (cN:∀p∈ps,t p=true->cb (f p))
  (tests:∀p∈ps,∀cenv,c6 cenv scope->nA prog w n cenv ((x,p)::mf) r.J r.P ifs (t p)) (elts:∀p∈ps,t p=true->∀cenv,c6 cenv scope->aV prog w n cenv ((x,p)::mf) r elt (f p))
  (ar:env.kindOf y=some .local\/(env.kindOf y=some .cell/\(env.cells.lookup y).isSome=true)) (h:Φ .next ((y,.list ((ps.filter t).map f))::m) r)
  (iZ:swapsWith (.ListComp elt [⟨.Name x px,iter,ifs,0⟩] scope pos) (some (.Name y py)) fQ.line env=pure true)
  (hs:∀v,foldedSetIterable iter env v=pure v):ef prog w n env m r (.Assign [.Name y py] (.ListComp elt [⟨.Name x px,iter,ifs,0⟩] scope pos) fQ) Φ:=λs₀ W₀ aJ ad A s E ai F=>by
 have dp:∀b,r.J b->¬cf b:=λb I=>(F.F.st.low b (.dw (.inr I))).2;exact Cc ai F.F F.dp (λh h' k p=>r.st h h' (λb o I e=>k b o (dp b I) e) p) F.p ba (lL.of ai F.F.st hit f9) S f7 hz cN tests (λp aa aM cenv dQ=>elts p aa aM cenv dQ) ar iZ hs λs' aS k=>by
  refine aE (F.turn aS k) λab ae=>?_;exact⟨ad,_,r,ab,ae,h⟩
noncomputable def nC(L:List (Addr×List Str))(a:Addr)(l:List Str):List (Addr×List Str):=L.map λz=>if z.1=a then(z.1,l) else z
theorem Cx{a:Addr}{l:List Str}:br (nC L a l)=br L:=by
 unfold br nC;rw[dW];refine map_congr_left λz _=>?_;show(if z.1=a then(z.1,l) else z).1=z.1;split<;>rfl
theorem Ii{x:Str}{mc:Pos}{dR:Nat}{a:Addr}{y:Str}{l:List Str}(hz:(a,y::l)∈L)(ag:m.lookup x=some (.val (.ref a)))(hd:(x==("__debug__":Str))=false)(ao:l.length < sizeLine)
  (h:Φ .next m (fE (nC L a l))):ef prog w n env m (fE L) (.Delete [.Subscript (.Name x px) (.Constant (.int 0) dR mc) lB] pos) Φ:=λs₀ W₀ aJ ad A s E ai F=>by
 refine wpAny_Delete (wpAny_deleteEach_cons (wpAny_delete_Subscript ((Ev.name (n:=n) (p:= .val (.ref a)) ag hd) _ A s _ E ai F.F.st λv au aq az aF=>?_)));rw[show v= .ref a from aq];have aX:=F.ext az aF;refine(Ev.int (n:=n)) _ A au _ E ai aX.F.st λv aL aq aR aY=>?_;refine aP aq λt a7=>?_;subst a7;have bp:=aX.ext aR aY;refine aE bp.p λbo qy=>?_;refine dO (qy _ hz) λvs k e hs=>?_;have hlen:=hs.len;rw[dI] at hlen;refine PyProof.Rows.delItem_at (k:=0) e (by decide) (by show seqIndex? 0 vs.length=some 0;rw[hlen];exact En (Int.le_refl 0) (by walk_at"o")) (λh' bL cS=>?_) (by show vs.length<=_;walk_at"o");have pL:(fE (nC L a l)).P h':=by
  refine⟨by rw[Cx];exact bo,λz eD=>?_⟩;refine ah (bA.mp eD) λua zC bk=>?_;subst bk;by_cases q:ua.1=a
  ·rw[aQ q];refine⟨_,_,by show h'.get? ua.1=_;rw[q];exact cS,?_⟩;refine ah hs λls ab ae=>?_;refine⟨ls.tail,?_,?_⟩
   ·induction ls with
    |nil=>injection ae
    |cons c d=>rw[<-ab];exact rfl
   ·induction ls with
    |nil=>injection ae
    |cons c d=>simp at ae;exact ae.2
  ·rw[aI q];exact(qy ua zC).keep λo e=>bL.extBut _ _ q e
 have gh:G w h':=bp.ground λb o I e=>bL.extBut b o (λq=>I (q▸fO (f:=λz=>z.1) hz)) e;have hl:∀z,(fE (nC L a l)).J z->((fE L).J z\/(aL.heap.get? z=none/\¬cf z))/\∃o,h'.get? z=some o/\cx o:=λz eD=>by
  have ab:z∈br L:=by rw[<-Cx (a:=a) (l:=l)];exact eD
  have ae:z∈br (nC L a l):=eD;refine ah (bA.mp ae) λy av bz=>?_;subst bz;exact⟨.inl ab,(pL.2 y av).some⟩
 refine aE (bp.grow (s':={aL with heap:=h'}) ⟨_,_,rfl⟩ (λb o I _ e=>bL.extBut b o (λq=>I (q▸fO (f:=λz=>z.1) hz)) e) gh hl pL) λaS k'=>?_;exact wpAny_deleteEach_nil ⟨ad,m,_,aS,((bC.ext az).trans (.ext aR)).trans k',h⟩
end
noncomputable def kd(rows:List (List Str))(x:Str):Bool:=rows.all λs2=> !(cL s2 (some 1) none none).any (· ==x)
noncomputable def fT(l:List Str):Str:=l.getD 0 ""
noncomputable def oT(rows:List (List Str)):Option Str:=(rows.find? λs1=>kd rows (fT s1)).map fT
noncomputable def mF(x:Str)(l:List Str):List Str:=if fT l==x then l.drop 1 else l
noncomputable def k7:Nat->List (List Str)->List Str->Option (List Str)
 |0,_,_=>none
 |f+1,rows,acc=>
  let zw:=rows.filter λl=> !l.isEmpty
  if zw.isEmpty then some acc else match oT zw with
   |none=>none
   |some x=>k7 f (zw.map (mF x)) (acc++[x])
theorem KP:∀(f:Nat) (rows:List (List Str)) (acc out:List Str),k7 f rows acc=some out->acc.length<=out.length:=by
 intro a9;induction a9 with
 |zero=>
  intro _ _ _ h;injection h
 |succ f aw=>
  intro rows acc out h;unfold k7 at h;dsimp only at h;split at h
  ·obtain rfl:=bT h;exact Nat.le_refl _
  ·split at h
   ·injection h
   ·have:=aw _ _ _ h;rw[length_append] at this;walk_at"o"
theorem Jc{l:List Str}:(aB l).isEmpty=l.isEmpty:=by(induction l)<;>rfl
def ED(L:List (Addr×List Str)):Prop:=(br L).Nodup/\L.length<=5/\∀z∈L,z.2.length<=5/\∀x∈z.2,PyData.strOk x=true
def Oi(out:List Str)(k:Nat)(m:Loc)(r:Rs):Prop:=
 ∃L acc,r=fE L/\ED L/\k7 k (L.map (·.2)) acc=some out/\bM m "sequences" (.list (ez L))/\bM m "result" (.bw (aB acc))
theorem yN{j:Nat}{p:ak}(h:(ez L)[j]? =some p):∃z,L[j]? =some z/\z∈L/\p= .val (.ref z.1):=by
 rw[d7] at h;refine ah (Option.map_eq_some_iff.mp h) λz ab aU=>?_;subst aU;exact⟨z,ab,eP ab,rfl⟩
theorem M3{l:List Str}(h:0 < l.length):fT l∈l:=by
 induction l with
 |nil=>exact absurd h (Nat.not_lt_zero _)
 |cons a r=>exact cM
theorem MB{l:List Str}{x:Str}(h:x∈cL l (some 1) none none):x∈l:=by
 refine ah (List.mem_filterMap.mp h) λj _ aN=>?_;exact eP aN
structure G1 (L:List (Addr×List Str)) (acc:List Str) (m:Loc) (r:Rs):Prop where
 r:r=fE L
 V2:bM m "sequences" (.list (ez L))
 rs:bM m "result" (.bw (aB acc))
def kB(x:Str)(L:List (Addr×List Str))(i:Nat)(fB:List (Addr×List Str)):Prop:=
 fB.length=L.length/\∀k (h:k < L.length) (h':k < fB.length),fB[k].1=L[k].1/\fB[k].2=if k < i then mF x L[k].2 else L[k].2
theorem kB.br{x:Str}(S:kB x L i fB):Mine.br fB=Mine.br L:=by
 refine ext_getElem (by simp[S.1]) λk ab ae=>?_;simp only[Mine.br,getElem_map];exact(S.2 k (by simpa using ae) (by simpa using ab)).1
theorem kB.all{x:Str}(S:kB x L L.length fB):fB.map (·.2)=(L.map (·.2)).map (mF x):=by
 refine ext_getElem (by simp[S.1]) λk ab ae=>?_;simp only[getElem_map];have ar:k < L.length:=by simpa using ae
 have:=(S.2 k ar (by simpa using ab)).2;rw[this,aQ ar]
theorem kB.zero{x:Str} :kB x L 0 L:=⟨rfl,λk h h'=>⟨rfl,by rw[aI (Nat.not_lt_zero _)]⟩⟩
theorem kB.skip{x:Str}(S:kB x L i fB)(hi:i < L.length)(h:(fT L[i].2==x)=false):kB x L (i+1) fB:=⟨S.1,λk ar cj=>by
 refine aE (S.2 k ar cj) λab ae=>?_;refine⟨ab,?_⟩;rw[ae];by_cases q:k=i
 ·subst q;rw[aI (Nat.lt_irrefl _),aQ (Nat.lt_succ_self _)];unfold mF;rw[h];rfl
 ·by_cases bN:k < i
  ·rw[aQ bN,aQ (by exact Nat.lt_add_right _ ‹_›)]
  ·rw[aI bN,aI (by walk_at"o")]⟩
theorem kB.del{x:Str}(bo:(Mine.br L).Nodup)(S:kB x L i fB)(hi:i < L.length)(h:(fT L[i].2==x)=true):kB x L (i+1) (nC fB L[i].1 (L[i].2.drop 1)):=by
 refine⟨by unfold nC;rw[bO,S.1],λk ar cj=>?_⟩;have SK:k < fB.length:=by rw[S.1];exact ar
 refine aE (S.2 k ar SK) λab ae=>?_;have e:(nC fB L[i].1 (L[i].2.drop 1))[k]=if fB[k].1=L[i].1 then(fB[k].1,L[i].2.drop 1) else fB[k]:=getElem_map _
 rw[e];by_cases q:k=i
 ·subst q;rw[aQ ab,aQ (Nat.lt_succ_self _)];refine⟨ab,?_⟩;show drop 1 _=_;unfold mF;rw[aQ h]
 ·have bY:fB[k].1≠L[i].1:=λz=>by
   rw[ab] at z;have:(Mine.br L)[k]'(by simpa using ar)=(Mine.br L)[i]'(by simpa using hi):=by simpa using z
   exact q ((getElem_inj bo).mp this)
  rw[aI bY];refine⟨ab,?_⟩;rw[ae];by_cases bN:k < i
  ·rw[aQ bN,aQ (by exact Nat.lt_add_right _ ‹_›)]
  ·rw[aI bN,aI (by walk_at"o")]
theorem Oz{lg:List (Addr×List Str)}{f:Nat}(dj:ED lg)(eX:k7 f (lg.map (·.2)) []=some out)(aj:out.length<=1000){v:Value} 
  (ai:bK 3 A) (same:∃h tk,s={s₀ with heap:=h,toks:=tk}) (lH:gd s₀.heap s.heap) (dJ:G w s₀.heap) (g:G w s.heap) (e8:eB W₀ s₀.heap) (a0:∀a,(fE lg).J a->s₀.heap.get? a=none/\(∃o,s.heap.get? a=some o/\cx o)/\¬cf a) (aa:(fE lg).P s.heap)
  (aq:a6 w s.heap (λa=>W₀ a\/(fE lg).J a) (.list (ez lg)) v) (a4:∀v s',a6 w s'.heap W₀ (.list (aB out)) v->Ext s₀ s'->G w s'.heap->Q v s'):wpAny (model prog w) A (call (.ref 78) [v]) Q E s:=by
 have de:sizeLine=2 ^ 24:=rfl;refine wpAny_call (wj (ta:=λ_=>bK 2) (n:=2) (args:=[.list (ez lg)]) (names:=["sequences"]) (c:=77) (s₀:=s₀) (W₀:=W₀) (aJ:=λ_=>False) (r:=fE lg)
  (Φ:=λej _ _=>match ej with | .ret p=>p= .list (aB out) |_=>False)
  ai (λ_=>ai.in) (by exact⟨rfl,rfl,rfl,rfl,rfl,rfl,rfl,ee (by kernel_rfl),rfl,rfl,rfl,kinds_of (by kernel_rfl),rfl,rfl,rfl,by dsimp only,by dsimp only,by kernel_rfl⟩) (by exact rfl) ⟨tq,trivial⟩
  same lH dJ g e8 (λa af=>af.elim False.elim (a0 a)) (λa af=>af.elim) aa ?_ ?_ (λ_ _=>⟨id,id⟩) ?_ (λ_ _ _ h _=>h.elim))
 ·intro cI c5 h';refine wpAny_of_eq (a:=[(("sequences":Str),v)]) (by rfl) (h' [v] s (.one (aq.upd (λb o I _ e=>⟨e,λq=>q.elim (λq=>I (.inl q)) λq=>q.elim False.elim λq=>I (.inr q)⟩) tq)) (.refl s) g)
 ·intro env ba d8 fw d3;show aZ prog w 2 env [("sequences",.list (ez lg))] _ _ _;refine aZ.cons (df.R (tj (Φ:=mm (("result",.bw [])::[("sequences",.list (ez lg))])) (.inl (by walk_at"e")) (lookup_miss (by kernel_rfl) rfl) ⟨rfl,rfl⟩ rfl) (λp m h=>by injection (h.1)) ?_);intro _ _ dg;refine aE dg λdq e2=>?_;subst dq;subst e2;refine aZ.cons (IA (Oi out) f ⟨lg,[],rfl,dj,eX,by walk_at"e",a5⟩ ?_);intro k m' r' eZ;refine sh eZ λL acc hB iX bf ew gv=>?_;subst hB;refine cB iX λbo w6 qy=>?_;refine⟨true,bV.R (bV.plain Ev.bool gR.bool λ_=>rfl),λ_=>?_,λh=>by injection h⟩;induction k with
  |zero=>injection bf
  |succ k=>
  refine ht λpK hQ=>?_;have FK:=KP _ _ _ _ bf
  let pe:ak->Bool:=λp=>match p with | .val (.ref a)=>L.any λz=>z.1==a&& !z.2.isEmpty |_=>false
  have Aa:∀z∈L,pe (.val (.ref z.1))= !z.2.isEmpty:=λz hz=>by
   show(L.any λy=>y.1==z.1&& !y.2.isEmpty)=_;induction he:z.2.isEmpty with
   |false=>exact List.any_eq_true.mpr ⟨z,hz,by walk_at"o"⟩
   |true=>
    refine List.any_eq_false.mpr λy av=>?_;intro q;simp only[Bool.and_eq_true,beq_iff_eq] at q;replace q:=q;have:y=z:=by
     obtain⟨i,hi,a7⟩:=getElem_of_mem av;subst a7;obtain⟨j,aN,bk⟩:=getElem_of_mem hz;subst bk;have e:(br L)[i]'(by simpa using hi)=(br L)[j]'(by simpa using aN):=by simpa using q.1
     have:=(getElem_inj bo).mp e;subst this;rfl
    rw[this,he] at q;exact absurd q (by walk_at"o")
  have Ff:((ez L).filter pe).map _root_.id=ez (L.filter λz=> !z.2.isEmpty):=by
   rw[List.map_id];show(List.map _ L).filter pe=_;rw[List.filter_map];congr 1;refine filter_congr λz hz=>?_;exact Aa z hz
  refine aZ.cons (HQ (x:="s") (c:=false) (q:= .list (ez L)) (ps:=ez L) (t:=pe) (f:=id) (mf:=[]) ba (Ev.name ew (by kernel_rfl)) cw.list ⟨λ_ _=>rfl,λ_=>rfl,by kernel_rfl,by kernel_rfl,by decide+kernel,rfl⟩ sO (by rw[bO];exact bH ‹_› rfl) (λp aa _=>?_) (λp aa cenv dQ=>?_) (λp aa _ cenv dQ=>Ev.R (Ev.name a5 (by kernel_rfl))) (.inl (by walk_at"e")) ?_ (p9 ba (by kernel_rfl) rfl (by kernel_rfl)) (λ_=>rfl))
  ·refine ah (bA.mp aa) λz _ bz=>?_;subst bz;exact trivial
  ·refine ah (bA.mp aa) λz hz b7=>?_;subst b7;rw[Aa z hz, <-Jc];refine nA.one (yu (m':=[("s",.bw (aB z.2))]) (bV.plain (Ev.name a5 (by kernel_rfl)) (gR.bw (by rw[cz];have:=(qy z hz).1;exact bH ‹_› rfl)) λ_=>rfl) (Conv.row (a:=z.1) (l:=z.2) hz a5 .nil))
  rw[Ff];generalize xj:(L.filter λz=> !z.2.isEmpty)=cZ;induction cZ using jf;rename_i cZ
  have Fd:∀z∈cZ,z∈L:=λz hz=>by rw[<-xj] at hz;exact(List.mem_filter.mp hz).1
  have wW:∀z∈cZ,0 < z.2.length:=λz hz=>by
   rw[<-xj] at hz;have:=(List.mem_filter.mp hz).2;induction qW:z.2 with
   |nil=>rw[qW] at this;(focus (injection this;done))
   |cons a b=>simp
  have Ad:cZ.Sublist L:=by rw[<-xj];exact filter_sublist
  have mK:(br cZ).Nodup:=bo.sublist (Ad.map _);have QQ:cZ.length<=5:=Nat.le_trans Ad.length_le w6;have qv:∀z∈cZ,z.2.length<=5/\∀x∈z.2,PyData.strOk x=true:=λz hz=>qy z (Fd z hz);have lq:(if(cZ.map (·.2)).isEmpty then some acc else match oT (cZ.map (·.2)) with |none=>none |some x=>k7 k ((cZ.map (·.2)).map (mF x)) (acc++[x]))=some out:=by
   have e:(L.map (·.2)).filter (λl=> !l.isEmpty)=cZ.map (·.2):=by rw[<-xj,List.filter_map];rfl
   rw[<-e];exact bf
  refine aZ.drop (r':=fE cZ) ?_ (λa af=>(Ad.map _).subset af) (λh aa=>⟨mK,λz hz=>aa.2 z (Fd z hz)⟩);clear bf Ff Aa pe qy w6 bo;refine aZ.cons (lE (c:= !(!cZ.isEmpty)) (bV.R (bV.not (bV.plain (p:= .list (ez cZ)) (Ev.name a5 (by kernel_rfl)) (by have:=gR.list (prog:=prog) (w:=w) (l:=ez cZ) (by rw[bO];exact bH ‹_› rfl);rw[show(ez cZ).isEmpty=cZ.isEmpty by(induction cZ)<;>rfl] at this;exact this) λ_=>rfl))) (λU=>?_) λU=>aZ.nil ?_)
  ·have he:cZ=[]:=by simpa using U
   subst he;have PJ:acc=out:=by exact bT lq
   subst PJ;subst hQ;exact aZ.cons (Ci (l:=aB acc) (bS (by kernel_rfl) gv) (by kernel_rfl) rfl)
  have bY:cZ≠[]:=by intro q;subst q;(focus (injection U;done))
  rw[aI (by cases cZ with |nil=>exact absurd rfl bY |cons a b=>exact nofun)] at lq;replace lq:=lq;obtain⟨x,ag⟩:∃x,oT (cZ.map (·.2))=some x:=by
   induction q:oT (cZ.map (·.2)) with
   |none=>rw[q] at lq;injection lq
   |some x=>exact⟨x,rfl⟩
  rw[ag] at lq;have rowAt:∀{j:Nat} {z:Addr×List Str},cZ[j]? =some z->(cZ.map (·.2))[j]? =some z.2:=λh=>by rw[d7,h];rfl
  have FX:∀z∈cZ,PyData.strOk (fT z.2)=true:=λz hz=>(qv z hz).2 _ (M3 (wW z hz));have OX:∀{m':Loc} {z:Addr×List Str} {y:Str} {bW cc fN fy ib mr:Pos} {dR:Nat},z∈cZ->PyData.strOk y=true->bM m' "s2" (.val (.ref z.1))->bM m' "candidate" (.str y)->
    gr prog w 2 env m' (fE cZ) (.Compare (.Name "candidate" bW) [.In] [.Subscript (.Name "s2" cc) (.Slice (some (.Constant (.int 1) dR fN)) none none fy) ib] mr) ((cL z.2 (some 1) none none).any (· ==y)):=λ{m' z y bW cc fN fy ib mr dR} hz av ab ae=>by
   rw[<-rW];refine yu (m':=[("candidate",.str y),("s2",.bw (aB z.2))]) (bV.cmp (p:= .str y) (q:= .list (aB (cL z.2 (some 1) none none))) (Ev.name a5 (by kernel_rfl)) ?_ (tB (mw λgM hC=>(qv z hz).2 _ (MB hC)) av) (by with_unfolding_all rfl)) (Conv.same ae (Conv.row hz ab .nil));have:=Je (prog:=prog) (w:=w) (n:=2) (env:=env) (m:=[("candidate",.str y),("s2",.bw (aB z.2))]) (v:= .Name "s2" cc) (lo:=some (.Constant (.int 1) dR fN)) (hi:=none) (st:=none) (sp:=fy) (pos:=ib) (a:=some 1) (b:=none) (c:=none) (Ev.name (bS (by kernel_rfl) a5) (by kernel_rfl)) Ev.int trivial trivial (by decide) (by rw[cz];have:=(qv z hz).1;exact bH ‹_› rfl);rw[aB,rR] at this;exact this
  let ig:Nat->Loc->Rs->Prop:=λj m' r'=>G1 cZ acc m' r'/\∀i z,i < j->cZ[i]? =some z->kd (cZ.map (·.2)) (fT z.2)=false
  refine aZ.cons (ni (q:= .list (ez cZ)) (ps:=ez cZ) ig (Ev.R (Ev.name a5 (by kernel_rfl))) cw.list tq (λp aa=>by refine ah (bA.mp aa) λz _ cC=>?_;subst cC;exact trivial) (.inl (by walk_at"e")) ⟨⟨rfl,a5,bS (by kernel_rfl) gv⟩,λi z h=>absurd h (Nat.not_lt_zero _)⟩ ?_ ?_ (λ_=>rfl))
  ·intro j p mi gG gL gE;refine ht λAw mR=>?_;refine aE gE λjU hT=>?_;obtain⟨l6,bP,cJ⟩:=jU;subst l6;refine dK (yN gL) λz xi hz c2=>?_;subst c2;have oe:=wW z hz;have zv:(aB z.2)[0]? =some (.str (fT z.2)):=by
    induction qW:z.2 with
    |nil=>rw[qW] at oe;exact absurd oe (Nat.not_lt_zero _)
    |cons a b=>rfl
   refine aZ.cons (lD (p:= .str (fT z.2)) (Jp (m':=[("s1",.bw (aB z.2))]) (Ev.item (k:= .int 0) (Ev.name a5 (by kernel_rfl)) Ev.int Typed.bw fD.lookup (CD (by decide) zv (by rw[cz];have:=(qv z hz).1;exact bH ‹_› rfl)) λ_ _=>rfl) (Conv.row (a:=z.1) (l:=z.2) hz a5 .nil)) trivial (.inl (by walk_at"e")) ?_ rfl)
   let oH:Nat->Loc->Rs->Prop:=λi pT e3=>G1 cZ acc pT e3/\bM pT "candidate" (.str (fT z.2))/\∀dG eN,dG < i->cZ[dG]? =some eN->(cL eN.2 (some 1) none none).any (· ==fT z.2)=false
   refine aZ.cons (ni (q:= .list (ez cZ)) (ps:=ez cZ) oH (Ev.R (by walk_at"e")) cw.list tq (λp aa=>by refine ah (bA.mp aa) λz _ c1=>?_;subst c1;exact trivial) (.inl (by walk_at"e")) ⟨⟨rfl,by walk_at"e",by walk_at"e"⟩,a5,λi z h=>absurd h (Nat.not_lt_zero _)⟩ ?_ ?_ (λ_=>rfl))
   ·intro i p pT e3 AZ h9;refine ht λGe qG=>?_;refine cB h9 λnX dF fh=>?_;obtain⟨nV,a1,a2⟩:=nX;subst nV;refine dK (yN AZ) λeN uL eD eM=>?_;subst eM;refine aZ.cons (lE (OX eD (FX z hz) a5 (bS (by kernel_rfl) dF)) (λgp=>?_) λgp=>?_)
    ·refine aZ.cons (lD (p:= .none) (Ev.R Ev.none) trivial (.inl (by walk_at"e")) (aZ.cons (ef.brk ?_)) rfl);subst qG mR;refine aZ.nil ⟨⟨rfl,by walk_at"e",by walk_at"e"⟩,λdG Af fl qI=>?_⟩;by_cases q:dG < j
     ·exact hT dG Af q qI
     ·have:dG=j:=by walk_at"o"
      subst this;rw[xi] at qI;obtain rfl:=bT qI;refine List.all_eq_false.mpr ⟨eN.2,fO eD,?_⟩;rw[gp];decide
    ·subst qG;refine aZ.nil (aZ.nil ⟨⟨rfl,by walk_at"e",by walk_at"e"⟩,by walk_at"e",λdG Af fl qI=>?_⟩);by_cases q:dG < i
     ·exact fh dG Af q qI
     ·have:dG=i:=by walk_at"o"
      subst this;rw[uL] at qI;obtain rfl:=bT qI;exact gp
   ·intro pT e3 n5;refine cB n5 λrm dF fh=>?_;obtain⟨qO,a1,a2⟩:=rm;subst qO;rw[bO] at fh;refine aZ.cons (ef.brk ?_);subst mR;have e1:kd (cZ.map (·.2)) (fT z.2)=true:=List.all_eq_true.mpr λl ao=>by
     refine ah (bA.mp ao) λeN eD eJ=>?_;subst eJ;obtain⟨dG,fl,fi⟩:=getElem_of_mem eD;subst fi;rw[fh dG _ fl (cm fl)];rfl
    have Hj:fT z.2=x:=by
     unfold oT at ag;have hf:(cZ.map (·.2)).find? (λs1=>kd (cZ.map (·.2)) (fT s1))=some z.2:=by
      rw[find?_eq_some_iff_getElem];have kR:j < cZ.length:=iL xi;refine⟨e1,j,by rw[bO];exact kR,?_,λdG fl=>?_⟩
      ·rw[getElem_map];rw[cm kR] at xi;obtain rfl:=bT xi;rfl
      ·rw[getElem_map];have:=hT dG _ fl (cm (by exact Nat.lt_trans ‹_› ‹_›));exact congrArg _ this
     rw[hf] at ag;cases ag;rfl
    rw[Hj] at dF;replace dF:=dF;have F7:PyData.strOk x=true:=Hj▸FX z hz;refine aZ.cons (lE (c:=false) (bV.R (bV.cmp (Ev.name dF (by kernel_rfl)) Ev.none JS (by with_unfolding_all rfl))) (λh=>by injection h) λ_=>aZ.nil ?_);refine aZ.cons (df.R (x8 (Φ:=mm (("result",.bw (aB acc++[.str x]))::pT)) (q:= .bw (aB acc)) (ps:=[.str x]) (p':= .bw (aB acc++[.str x])) (T:="list") (id:="list.append") k4 a2 (.inl ⟨_,rfl⟩) Typed.bw (aK.cons (Ev.name dF (by kernel_rfl)) aK.nil rfl) ⟨trivial,trivial⟩ (by have:=d5 (l:=acc++[x]);rw[jH] at this;exact this) (.inl ⟨_,rfl⟩) (iE.append (by rw[cz];walk_at"o")) ⟨rfl,rfl⟩ rfl (by kernel_rfl) rfl rfl rfl (jc ba) rfl) (λp m h=>by injection (h.1)) ?_);intro _ _ q5;refine aE q5 λqF qR=>?_;subst qF;subst qR
    let vn:Nat->Loc->Rs->Prop:=λi i6 i2=>∃fB,i2=fE fB/\kB x cZ i fB/\bM i6 "sequences" (.list (ez cZ))/\bM i6 "result" (.bw (aB (acc++[x])))/\bM i6 "candidate" (.str x)
    refine aZ.cons (ni (q:= .list (ez cZ)) (ps:=ez cZ) vn (Ev.R (by walk_at"e")) cw.list tq (λp aa=>by refine ah (bA.mp aa) λz _ fJ=>?_;subst fJ;exact trivial) (.inl (by walk_at"e")) ⟨cZ,rfl,.zero,by walk_at"e",by rw[jH];exact a5,by walk_at"e"⟩ ?_ ?_ (λ_=>rfl))
    ·intro i p i6 i2 AZ qY;refine ht λGe qG=>?_;refine mO qY λfB ub S gI i1 te=>?_;subst ub;refine dK (yN AZ) λeN uL eD f5=>?_;subst f5;have l8:i < cZ.length:=iL uL;have FL:i < fB.length:=by rw[S.1];exact l8
     have m8:cZ[i]=eN:=by rw[cm l8] at uL;cases uL;rfl
     refine aE (S.2 i l8 FL) λs1 s2=>?_;rw[aI (Nat.lt_irrefl _),m8] at s2;rw[m8] at s1;have zj:(eN.1,eN.2)∈fB:=by rw[<-s1, <-s2];exact getElem_mem FL
     have zv:(aB eN.2)[0]? =some (.str (fT eN.2)):=by
      have:=wW eN eD;induction qW:eN.2 with
      |nil=>rw[qW] at this;exact absurd this (Nat.not_lt_zero _)
      |cons a b=>rfl
     refine aZ.cons (lE (c:=fT eN.2==x) (yu (m':=[("seq",.bw (aB eN.2)),("candidate",.str x)]) (bV.cmp (Ev.item (k:= .int 0) (Ev.name a5 (by kernel_rfl)) Ev.int Typed.bw fD.lookup (CD (by decide) zv (by rw[cz];have:=(qv eN eD).1;exact bH ‹_› rfl)) λ_ _=>rfl) (Ev.name (bS (by kernel_rfl) a5) (by kernel_rfl)) tC (by with_unfolding_all rfl)) (Conv.row zj a5 (Conv.same (bS (by kernel_rfl) te) .nil))) (λI=>?_) λI=>?_)
     ·have OR:∃y l,eN.2=y::l:=by
       have:=wW eN eD;induction qW:eN.2 with
       |nil=>rw[qW] at this;exact absurd this (Nat.not_lt_zero _)
       |cons a b=>exact⟨a,b,rfl⟩
      refine cn OR λy l GX=>?_;have FC:=(qv eN eD).1;rw[GX] at zj FC;rw[dI] at FC;subst qG;refine aZ.cons (Ii zj a5 (by kernel_rfl) (by walk_at"o") (aZ.nil (aZ.nil ⟨_,rfl,?_,by walk_at"e",by walk_at"e",by walk_at"e"⟩)));have:=S.del mK l8 (by rw[m8];exact I);rw[m8,GX] at this;exact this
     ·subst qG;exact aZ.nil (aZ.nil ⟨fB,rfl,S.skip l8 (by rw[m8];exact I),by walk_at"e",by walk_at"e",by walk_at"e"⟩)
    ·intro i6 i2 rb;refine mO rb λfB uf S gI i1 te=>?_;subst uf;rw[bO] at S;replace S:=S;subst hQ;refine aZ.nil (aZ.nil ⟨k,Nat.lt_succ_self _,fB,acc++[x],rfl,⟨by rw[S.br];exact mK,by rw[S.1];exact QQ,λz hz=>?_⟩,by rw[S.all];exact lq,?_,i1⟩)
     ·obtain⟨i,hi,h3⟩:=getElem_of_mem hz;subst h3;have fl:i < cZ.length:=by rw[<-S.1];exact hi
      have ae:=(S.2 i fl hi).2;rw[aQ fl] at ae;refine aE (qv _ (getElem_mem fl)) λaD bc=>?_;rw[ae];unfold mF;split
      ·exact⟨by rw[length_drop];walk_at"o",λy av=>bc y (mem_of_mem_drop av)⟩
      ·exact⟨aD,bc⟩
     ·have e:ez fB=ez cZ:=by
       have h:=S.br;show fB.map (λz=>ak.val (.ref z.1))=cZ.map _;have q:∀M:List (Addr×List Str),M.map (λz=>ak.val (.ref z.1))=(br M).map λa=>ak.val (.ref a):=λM=>by rw[br,dW];rfl
       rw[q,q,h]
      rw[e];exact gI
  ·intro mi gG uW;refine aE uW λzP hT=>?_;obtain⟨Ae,bP,cJ⟩:=zP;subst Ae;exfalso;rw[bO] at hT;unfold oT at ag;induction hf:(cZ.map (·.2)).find? (λs1=>kd (cZ.map (·.2)) (fT s1)) with
   |none=>rw[hf] at ag;injection ag
   |some l=>
    have ab:=find?_some hf;have ae:=mem_of_find?_eq_some hf;refine ah (bA.mp ae) λz hz h4=>?_;subst h4;obtain⟨i,hi,kG⟩:=getElem_of_mem hz;subst kG;rw[hT i _ hi (cm hi)] at ab;injection ab
 ·rintro p v r' s' rfl jr fS B;exact a4 v s' (jr.less fS λa af=> .inl af) B.ext B.g
def b0(r r':Rs):Prop:=(∀a,r.J a↔r'.J a)/\∀h,r.P h->r'.P h
theorem b0.refl(r:Rs):b0 r r:=⟨λ_=>Iff.rfl,λ_ h=>h⟩
theorem b0.trans{r:Rs}(x:b0 r r')(y:b0 r' eR):b0 r eR:=⟨λa=>(x.1 a).trans (y.1 a),λh p=>y.2 h (x.2 h p)⟩
theorem b0.vy{ad:Str->Addr}{r:Rs}(x:b0 r r'):cE env m ad r=cE env m ad r':=by
 unfold cE;rw[funext λa=>propext (x.1 a)]
theorem bR.le{ad:Str->Addr}{r:Rs}(x:b0 r r')(F:bR w s₀ env W₀ aJ ad m r s):bR w s₀ env W₀ aJ ad m r' s:=by
 have sW:r.J=r'.J:=funext λa=>propext (x.1 a);exact⟨sW▸F.F,sW▸F.fM,x.2 _ F.p⟩
noncomputable abbrev dU:=List (Addr×(Obj->Prop))
noncomputable def ay(cs:dU):Rs where
 J:=λa=>a∈br cs
 P:=λh=>(br cs).Nodup/\∀c∈cs,∃o,h.get? c.1=some o/\c.2 o
 st:=λh h' k p=>⟨p.1,λc U=>ah (p.2 c U) λo e q=>⟨o,k _ o (fO (f:=λz=>z.1) U) e,q⟩⟩
noncomputable def setC(cs:dU)(a:Addr)(p:Obj->Prop):dU:=cs.map λz=>if z.1=a then(z.1,p) else z
variable {X base cs cs':dU}
theorem p8{a:Addr}{p:Obj->Prop}:br (setC cs a p)=br cs:=by
 unfold br setC;rw[dW];refine map_congr_left λz _=>?_;show(if z.1=a then(z.1,p) else z).1=z.1;split<;>rfl
theorem nq{α:Type}{L:List (Addr×α)}{a:Addr}{p:α}(h:(a,p)∈L):a∈br L:=fO (f:=λz=>z.1) h
def ih:ak->Value->Prop
 | .none,v=>v= .none
 | .bool b,v=>v= .bool b
 | .int i,v=>∃t,v= .int i t
 | .str x,v=>∃t,v= .str x t
 | .val u,v=>v=u
 |_,_=>False
theorem ih.HF{p:ak}{v:Value}(x:ih p v):a6 w h W p v:=by cases p<;>first |exact x |exact x.elim
def Sc:ak->Prop
 | .none=>True
 | .bool _=>True
 | .int _=>True
 | .str _=>True
 | .val _=>True
 |_=>False
theorem ih.of{p:ak}{v:Value}(aa:Sc p)(x:a6 w h W p v):ih p v:=by cases p<;>first |exact x |exact aa.elim
theorem ih.handed:∀{p:ak} {v:Value},ih p v->(∀i,p≠ .val (.builtin i))->handedIn v=true
 | .none,_,x,_=>by rw[show _=_ from x];rfl
 | .bool b,_,x,_=>by rw[show _=_ from x];rfl
 | .int i,_,⟨t,x⟩,_=>by rw[x];rfl
 | .str y,_,⟨t,x⟩,_=>by rw[x];rfl
 | .val u,v,x,h=>by
  rw[show v=u from x];induction u with
  |builtin i=>exact absurd rfl (h i)
  |_=>rfl
 | .list _,_,x,_=>x.elim
 | .tup _,_,x,_=>x.elim
 | .dict _ _,_,x,_=>x.elim
 | .bw _,_,x,_=>x.elim
 | .eH _ _,_,x,_=>x.elim
 | .obj _,_,x,_=>x.elim
 | .gY _ _ _,_,x,_=>x.elim
 | .lam _,_,x,_=>x.elim
inductive iN:List (Str×ak)->List DictEntry->Prop
 |nil:iN [] []
 |cons {x:Str} {p:ak} {hs:Int} {t:Tok} {v:Value} {kv:List (Str×ak)} {es:List DictEntry}:ih p v->iN kv es->iN ((x,p)::kv) (⟨hs,.str x t,v⟩::es)
noncomputable def h5(x:Str)(p:ak):List (Str×ak)->List (Str×ak)
 |[]=>[(x,p)]
 |(y,q)::r=>if y==x then(y,p)::r else(y,q)::h5 x p r
theorem Lz{x:Str}{p:ak}:∀{kv:List (Str×ak)},(h5 x p kv).length<=kv.length+1:=by
 intro a9;induction a9 with
 |nil=>
  exact Nat.le_refl _
 |cons z r aw=>
  have:=aw;unfold h5;split<;>simp<;>assumption
theorem iN.len{kv:List (Str×ak)}{es:List DictEntry}(x:iN kv es):es.length=kv.length:=by
 induction x with
 |nil=>rfl
 |cons _ _ aw=>simp[aw]
theorem iN.noRef{kv:List (Str×ak)}{es:List DictEntry}(x:iN kv es):es.any (·.refKey)=false:=by
 induction x with
 |nil=>rfl
 |cons _ _ aw=>rw[any_cons,aw];rfl
theorem iN.get{kv:List (Str×ak)}{es:List DictEntry}(x:iN kv es)(name:Str):match kv.lookup name with |some p=>∃v,getL name es=some (some v)/\ih p v |none=>getL name es=some none:=by
 have key:es.any (·.refKey)=false/\match kv.lookup name with |some p=>∃e,es.find? (·.key.isStr name)=some e/\ih p e.val |none=>es.find? (·.key.isStr name)=none:=by
  induction x with
  |nil=>exact⟨rfl,rfl⟩
  |@cons y p hs t v kv es BW _ aw=>
   refine⟨by rw[any_cons,aw.1];rfl,?_⟩;rw[di,find?_cons];have ax:(Value.str y t).isStr name=(name==y):=by
    show(y==name)=(name==y)
    exact Bool.eq_iff_iff.mpr (by rw[beq_iff_eq,beq_iff_eq];exact eq_comm)
   dsimp only;rw[ax];induction name==y with
   |true=>exact⟨_,rfl,BW⟩
   |false=>exact aw.2
 refine aE key λbP cJ=>?_;unfold getL;induction ao:kv.lookup name with
 |some p=>rw[ao] at cJ;refine ah cJ λe ab ae=>?_;rw[ab];exact⟨_,rfl,ae⟩
 |none=>rw[ao] at cJ;rw[show es.find? (·.key.isStr name)=none from cJ];dsimp only;rw[bP];rfl
theorem iN.put{kv:List (Str×ak)}{es:List DictEntry}{name:Str}{p:ak}{v:Value}{hs:Int}{t:Tok}(aq:ih p v)(x:iN kv es):iN (h5 name p kv) (putL name hs (.str name t) v es):=by
 induction x with
 |nil=>exact .cons aq .nil
 |@cons y q eC eV hV kv es BW r aw=>
  unfold h5 putL;have ax:(Value.str y eV).isStr name=(y==name):=rfl;rw[ax];induction h:y==name with
  |true=>exact .cons aq r
  |false=>exact .cons BW aw
def c7(kv:List (Str×ak))(o:Obj):Prop:=∃es n,o=dictOf es n/\iN kv es
def fP(C dx:Addr)(o:Obj):Prop:=∃bQ,o=⟨.ref C,some dx,.plain,bQ⟩
def g9(C dx:Addr)(f:Nat->Option ak)(o:Obj):Prop:=∃bQ,o=⟨.ref C,some dx,.plain,bQ⟩/\bQ.size<=10/\∀i,match f i with |some p=>∃v,(bQ[i]?).join=some v/\ih p v |none=>(bQ[i]?).join=none
noncomputable def jQ(f:Nat->Option ak)(i:Nat)(p:ak):Nat->Option ak:=λj=>if j=i then some p else f j
variable {bQ:Array (Option Value)}
section
variable {prog:Program} {w:World} {A:Around} {E:Value->Shared->Prop} {s:Shared} {x dx C:Addr} {jC:Obj} {kv:List (Str×ak)} {name:Str}
theorem yq{es:List DictEntry} :cx (dictOf es n):= .inr λ_ q=>by injection q
theorem yj{dx:Addr}:cx ⟨.ref C,some dx,.plain,bQ⟩:= .inr λ_ q=>by injection q
theorem Du{p:ak}{es:List DictEntry}(X:(KF w).In s.heap)(ag:s.heap.get? x=some ⟨.ref C,some dx,.plain,bQ⟩)(hd:s.heap.get? dx=some (dictOf es n))(af:iN kv es)
  (iu:hasDictIn (KF w) C=true) (dj:plainGet (KF w) C name=true) (hf:findIn (KF w) (.ref C) name=some none) (ao:kv.lookup name=some p) (dr:∀i,p≠ .val (.builtin i))
  (h:∀v,ih p v->Q v {s with toks:=s.toks+1}):wpAny (model prog w) A (getAttr (.ref x) name true) Q E s:=by
 have bh:InstAt s.heap x ⟨.ref C,some dx,.plain,bQ⟩ C (some (dictOf es n)):=⟨ag,rfl,rfl,hd⟩
 have:=af.get name;rw[ao] at this;refine ah this λv ab ae=>?_;have aq:=ae.handed dr;exact get_value X bh (plainGet_of dj).1 (findObj_own iu hf rfl (by rw[lookIn_dict];exact ab)) aq (h v ae)
theorem yG{Q:Unit->Shared->Prop}{p:ak}{v:Value}{es:List DictEntry}(X:(KF w).In s.heap)(ag:s.heap.get? x=some ⟨.ref C,some dx,.plain,bQ⟩)(hd:s.heap.get? dx=some (dictOf es n))(af:iN kv es)(hz:kv.length<=100)
  (hs:findIn (KF w) (.ref C) "__setattr__"=some (some (.builtin "object.__setattr__"))) (aa:plainOver (KF w) C=true) (aM:takerIn (KF w) C name=some none) (iu:hasDictIn (KF w) C=true) (aq:ih p v)
  (h:∀h' jx hZ,SameBut dx s.heap h'->h'.get? dx=some (dictOf jx hZ)->iN (h5 name p kv) jx->Q () {s with heap:=h',toks:=s.toks+2}):wpAny (model prog w) A (setAttr (.ref x) name v) Q E s:=by
 have bh:InstAt s.heap x ⟨.ref C,some dx,.plain,bQ⟩ C (some (dictOf es n)):=⟨ag,rfl,rfl,hd⟩
 have hlen:=af.len;refine set_plain X bh hs (osa_open (s:={s with toks:=s.toks+1}) X bh aa aM λb=>?_);refine ah (PySem.W.any_some iu) λcd U hD=>?_;refine aH (bu (aH (aH (wpAny_loadPart ag (aH (looks_clsIn X U _ _ _ {s with toks:=s.toks+1} (λ_ _ e=>e) ?_))))));rw[hD];refine bu (a:=some dx) (aH (bu (aH ?_)));have F1:=af.put (name:=name) (hs:=PyData.keyHash w.params name) (t:=s.toks+1) aq;have HG:(s.heap.update dx (Obj.putName name (PyData.keyHash w.params name) (.str name (s.toks+1)) v)).get? dx=some (dictOf (putL name (PyData.keyHash w.params name) (.str name (s.toks+1)) v es) (putN name es n)):=by
  rw[get?_update_self _ hd (by rw[putName_dict];rfl),putName_dict]
 unfold nsSet;refine aH (aH (wpAny_askSetting (bu (aH (wpAny_mkText (aH (wpAny_loadPart hd ?_)))))));show wpAny _ _ ((if aRefKeyMayBeTheName name es.toArray=true then _ else _):Sem Unit) _ _ _;have c:(!es.toArray.any (·.key.isStr name)&&es.toArray.any (·.refKey))=false:=by
  rw[<-Array.any_toList (p:=λe:DictEntry=>e.refKey),List.toList_toArray,af.noRef,Bool.and_false]
 rw[aRefKeyMayBeTheName_at,c];refine wpAny_updatePart hd ?_;have pI:(h5 name p kv).length<=kv.length+1:=Lz;refine aH (wpAny_lookBehind HG (pastItsLine_dict (by rw[List.size_toArray,F1.len,sizeLine_eq];omega)) ?_);exact bu (h _ _ _ (.update ..) HG F1)
theorem get_slot{p:ak}{f:Nat->Option ak}{mem:Addr}(X:(KF w).In s.heap)(ag:s.heap.get? x=some jC)(hs:g9 C dx f jC)(hd:s.heap.get? dx=some hX)
  (U:(clsIn (KF w) C).isSome=true) (dj:plainGet (KF w) C name=true) (hf:findIn (KF w) (.ref C) name=some (some (.ref mem))) (iw:specialIn (KF w) (.ref mem) "__get__"=some (some (.builtin "member_descriptor.__get__"))) (u7:takesIn (KF w) (.ref mem)=some true) (de:slotIn (KF w) mem C=some i)
  (aa:f i=some p) (dr:∀i,p≠ .val (.builtin i)) (h:∀v,ih p v->Q v {s with toks:=s.toks+1}):wpAny (model prog w) A (getAttr (.ref x) name true) Q E s:=by
 refine dK hs λbQ aU _ Bb=>?_;subst aU;have bh:InstAt s.heap x ⟨.ref C,some dx,.plain,bQ⟩ C (some hX):=⟨ag,rfl,rfl,hd⟩
 have:=Bb i;rw[aa] at this;refine ah this λv ab ae=>?_;have aq:=ae.handed dr;refine PySem.W.get_bind X bh (plainGet_of dj).1 (findObj_data U hf iw u7) (plainGet_of dj).2 (wpAny_call (slot_get (s:={s with toks:=s.toks+1}) X bh de ab ?_));show wpAny _ _ (handedOut v) _ _ _;rw[handedOut_of aq];exact bu (h v ae)
end
open PySem.Calls Builtin Builtin.ObjectAttr Builtin.Getset_descriptor
theorem LR{v:Value}(j:Nat):(((bQ++Array.replicate (i+1 - bQ.size) none).setIfInBounds i (some v))[j]?).join=if j=i then some v else(bQ[j]?).join:=by
 rw[Array.getElem?_setIfInBounds];by_cases h:j=i
 ·subst h;rw[aQ rfl,aQ rfl,aQ (by simp;omega)];rfl
 ·rw[aI (λq=>h q.symm),aI h,Array.getElem?_append];split
  ·rfl
  ·rename_i aN;rw[Array.getElem?_eq_none (xs:=bQ) (by omega)];induction q:(Array.replicate (i+1 - bQ.size) (none:Option Value))[j - bQ.size]? with
   |none=>rfl
   |some z=>
    rw[Array.getElem?_replicate] at q;replace q:=q;split at q
    ·obtain rfl:=bT q;rfl
    ·injection q
section
variable {prog:Program} {w:World} {A:Around} {E:Value->Shared->Prop} {s:Shared} {x dx C:Addr} {jC:Obj} {name:Str}
theorem set_slot{Q:Unit->Shared->Prop}{p:ak}{v:Value}{f:Nat->Option ak}{mem:Addr}(X:(KF w).In s.heap)(ag:s.heap.get? x=some jC)(qZ:g9 C dx f jC)(hd:s.heap.get? dx=some hX)
  (hs:findIn (KF w) (.ref C) "__setattr__"=some (some (.builtin "object.__setattr__"))) (aa:plainOver (KF w) C=true) (aM:takerIn (KF w) C name=some (some (.ref mem))) (bE:typeIn (KF w) (.ref mem)=some (.type "member_descriptor")) (de:slotIn (KF w) mem C=some i) (hi:i < 10) (aq:ih p v)
  (h:∀h' uD,SameBut x s.heap h'->h'.get? x=some uD->g9 C dx (jQ f i p) uD->Q () {s with heap:=h',toks:=s.toks+1}):wpAny (model prog w) A (setAttr (.ref x) name v) Q E s:=by
 refine e9 λfs cD=>?_;refine dK qZ λbQ aU hz Bb=>?_;subst aU;refine cD ?_;have bh:InstAt s.heap x ⟨.ref C,some dx,.plain,bQ⟩ C (some hX):=⟨ag,rfl,rfl,hd⟩
 refine set_plain X bh hs (osa_descr (s:={s with toks:=s.toks+1}) KF.slot_mset X bh aa aM bE ?_);refine e9 λfs cD=>?_;obtain⟨n,xJ,owner,behind,i4,d,Vv,cd,aj,U,hm,I,a7⟩:=slot_of X de;subst a7;obtain⟨dr,g,V9,t,os⟩:=s;refine cD ?_;have xS:=bh.type (M:=model prog w);have cZ:=looks_mroIn (M:=model prog w) X hm;have Wg:Looks (model prog w) dr (Slots.slotNamesOf (.ref C)) cd.slotNames:=(looks_clsIn X U).andThen .now;dsimp only at aj ag xS cZ;have f0:=looks_field (M:=model prog w) aj 0 (v:= .str n xJ) rfl;have f1:=looks_field (M:=model prog w) aj 1 (v:=owner) rfl;have sZ:=looks_field (M:=model prog w) aj 3 (v:= .builtin "proto.slot#set") rfl;have f4:=looks_field (M:=model prog w) aj 4 (v:= .int behind i4) rfl;refine codeAny_call_builtin KF.slot_mset.plain KF.entry_mset (KF.slot_mset.check _ _ _ _ _ _ _ _ ⟨_,aj,rfl⟩ (KF.args_mset _ _ _) ?_);unfold Builtin.«member_descriptor.__set__» descrSet descrStoreThrough descrCheckInstance descrNameAndClass isInstance;have UB:Looks (model prog w) dr (descrItself (.ref mem)) [.ref mem]:=((Looks.ld (part:=none) aj).andThen .now).andThen (Looks.of_pure (by kernel_rfl))
 repeat lk
 refine⟨Code.quiet_builtin _ (by kernel_rfl),codeAny_builtin KF.entry_slotset ?_⟩;unfold Builtin.«proto.slot#set» Slots.target
 repeat lk
 rw[aI I];refine bu (aH ?_);unfold setSlotAt;dsimp only;rw[aI (by rw[sizeLine_eq];omega)];refine wpAny_updatePart ag (bu (h _ _ (.update ..) (get?_update_self _ ag rfl) ⟨_,rfl,?_,λj=>?_⟩))
 ·simp;omega
 ·rw[LR];unfold jQ;by_cases q:j=cd.slotNames.length - 1 - behind.toNat
  ·rw[aQ q,aQ q];exact⟨v,rfl,aq⟩
  ·rw[aI q,aI q];exact Bb j
end
variable {p':Obj->Prop}
theorem bR.setC{ad:Str->Addr}{a:Addr}{p:Obj->Prop}(F:bR w s₀ env W₀ aJ ad m (ay cs) s)(U:(a,p)∈cs)(hs:SameBut a s.heap h')(aj:h'.get? a=some bZ)(cY:cx bZ)(aa:p' bZ):
  bR w s₀ env W₀ aJ ad m (ay (setC cs a p')) {s with heap:=h',toks:=tk}/\bC (cE env m ad (ay cs)) (cE env m ad (ay (setC cs a p'))) s {s with heap:=h',toks:=tk}:=by
 have b5:(ay (Mine.setC cs a p')).P h':=by
  refine⟨by rw[p8];exact F.p.1,λc fq=>?_⟩;refine ah (bA.mp fq) λc₀ Oe bk=>?_;subst bk;by_cases q:c₀.1=a
  ·rw[aQ q];exact⟨bZ,by show h'.get? c₀.1=_;rw[q];exact aj,aa⟩
  ·rw[aI q];refine ah (F.p.2 c₀ Oe) λo e po=>?_;exact⟨o,hs.extBut _ _ q e,po⟩
 have gh:G w h':=F.ground λb o I e=>hs.extBut b o (λq=>I (q▸nq U)) e;refine F.grow ⟨_,_,rfl⟩ (λb o I _ e=>hs.extBut b o (λq=>I (q▸nq U)) e) gh (λz hz=>?_) b5;have eD:z∈br cs:=by rw[<-p8 (a:=a) (p:=p')];exact hz
 refine⟨.inl eD,?_⟩;by_cases q:z=a
 ·exact⟨bZ,q▸aj,cY⟩
 ·refine aE (F.F.st.low z (.dw (.inr eD))) λbz _=>?_;refine ah bz λo e cF=>?_;exact⟨o,hs.extBut _ _ q e,cF⟩
theorem bR.mJ{ad:Str->Addr}{a:Addr}{p:Obj->Prop}{o:Obj}(F:bR w s₀ env W₀ aJ ad m (ay cs) s)(e:Ext s s')(g:G w s'.heap)(aA:s.heap.get? a=none)(aj:s'.heap.get? a=some o)(cY:cx o)(aa:p o):
  bR w s₀ env W₀ aJ ad m (ay (cs++[(a,p)])) s'/\bC (cE env m ad (ay cs)) (cE env m ad (ay (cs++[(a,p)]))) s s':=by
 have aM:=F.F.st.g.fu aA;have b5:(ay (cs++[(a,p)])).P s'.heap:=by
  refine aE ((F.ext e g).p) λdy bN=>?_;refine⟨?_,λc U=>?_⟩
  ·rw[br,map_append,nodup_append];refine⟨dy,by simp,λy av z hz q=>?_⟩;obtain rfl:=cQ.mp hz;subst q;refine aE (F.F.st.low _ (.dw (.inr av))) λb7 _=>?_;refine ah b7 λbZ aO _=>?_;rw[aA] at aO;injection aO
  ·rcases List.mem_append.mp U with U |U
   ·exact bN c U
   ·obtain rfl:=cQ.mp U;exact⟨o,aj,aa⟩
 refine F.grow e.same (λb ob _ I q=>e.keep b ob I q) g (λz hz=>?_) b5;have hz:z∈(cs++[(a,p)]).map (λz=>z.1):=hz;rw[map_append,mem_append] at hz;replace hz:=hz;rcases hz with hz |hz
 ·refine aE (F.F.st.low z (.dw (.inr hz))) λcC sS=>?_;refine ah cC λbZ aO cF=>?_;exact⟨.inl hz,bZ,e.keep _ _ sS aO,cF⟩
 ·obtain rfl:=cQ.mp hz;exact⟨.inr ⟨aA,aM⟩,o,aj,cY⟩
theorem aV.name{r:Rs}{y:Str}{p:ak}(ao:m.lookup y=some p)(hd:(y==("__debug__":Str))=false):aV prog w n env m r (.Name y pos) p:=Ev.R (Ev.name ao hd)
theorem kY{e:Expr}{x dx:Addr}{kv:List (Str×ak)}{name:Str}{p:ak}(he:aV prog w n env m (ay cs) e (.val (.ref x)))(ag:(x,fP C dx)∈cs)(hd:(dx,c7 kv)∈cs)
  (iu:hasDictIn (KF w) C=true) (dj:plainGet (KF w) C name=true) (hf:findIn (KF w) (.ref C) name=some none) (ao:kv.lookup name=some p) (dr:∀i,p≠ .val (.builtin i)) (I:attributeBase e name env (eval e env)=eval e env):
  aV prog w n env m (ay cs) (.Attribute e name pos) p:=λW A s Q E ai st a0 aa a4=>by
 rw[arm_eval_Attribute,I];refine aH (he W A s _ E ai st a0 aa λv au aq az aF=>aH (wpAny_standAt (aH (wpAny_holding ?_))));rw[show v= .ref x from aq];refine e9 λfs cD=>?_;refine aE (Rs.ext (r:=ay cs) a0 st.low az aa) λ_ U=>?_;refine ah (U _ ag) λjC hG c1=>?_;refine aP c1 λbQ c2=>?_;subst c2;refine ah (U _ hd) λhX dv eJ=>?_;refine dO eJ λes k eM af=>?_;subst eM;refine cD ?_;refine Du aF.K hG dv af iu dj hf ao dr λv aq=>?_;exact aH (wpAny_letTemporaryGo (bu (a4 v _ aq.HF (az.trans (.tok _ _)) aF)))
theorem tp{e:Expr}{x dx mem:Addr}{f:Nat->Option ak}{name:Str}{p:ak}{q:Obj->Prop}(he:aV prog w n env m (ay cs) e (.val (.ref x)))(ag:(x,g9 C dx f)∈cs)(hd:(dx,q)∈cs)
  (U:(clsIn (KF w) C).isSome=true) (dj:plainGet (KF w) C name=true) (hf:findIn (KF w) (.ref C) name=some (some (.ref mem))) (iw:specialIn (KF w) (.ref mem) "__get__"=some (some (.builtin "member_descriptor.__get__"))) (u7:takesIn (KF w) (.ref mem)=some true) (de:slotIn (KF w) mem C=some i)
  (mY:f i=some p) (dr:∀i,p≠ .val (.builtin i)) (I:attributeBase e name env (eval e env)=eval e env):aV prog w n env m (ay cs) (.Attribute e name pos) p:=λW A s Q E ai st a0 aa a4=>by
 rw[arm_eval_Attribute,I];refine aH (he W A s _ E ai st a0 aa λv au aq az aF=>aH (wpAny_standAt (aH (wpAny_holding ?_))));rw[show v= .ref x from aq];refine aE (Rs.ext (r:=ay cs) a0 st.low az aa) λ_ kh=>?_;refine ah (kh _ ag) λjC hG hs=>?_;refine ah (kh _ hd) λhX dv _=>?_;refine get_slot aF.K hG hs dv U dj hf iw u7 de mY dr λv aq=>?_;exact aH (wpAny_letTemporaryGo (bu (a4 v _ aq.HF (az.trans (.tok _ _)) aF)))
theorem x7{o e:Expr}{x dx:Addr}{kv:List (Str×ak)}{name:Str}{p:ak}(he:aV prog w n env m (ay cs) e p)(jV:Sc p)(aj:aV prog w n env m (ay cs) o (.val (.ref x)))(ag:(x,fP C dx)∈cs)(hd:(dx,c7 kv)∈cs)(hz:kv.length<=100)
  (hs:findIn (KF w) (.ref C) "__setattr__"=some (some (.builtin "object.__setattr__"))) (aa:plainOver (KF w) C=true) (aM:takerIn (KF w) C name=some none) (iu:hasDictIn (KF w) C=true)
  (h:Φ .next m (ay (setC cs dx (c7 (h5 name p kv))))) (iZ:swapsWith e (some (.Attribute o name lB)) pos.line env=pure false):ef prog w n env m (ay cs) (.Assign [.Attribute o name lB] e pos) Φ:=λs₀ W₀ aJ ad A s E ai F=>by
 refine plainObj_wpAny_Assign_Attribute ?_ iZ;refine he _ A s _ E ai F.F.st F.dp F.p λv au aq az aF=>?_;have aX:=F.ext az aF;refine aj _ A au _ E ai aX.F.st aX.dp aX.p λg0 aL l1 aR aY=>?_;rw[show g0= .ref x from l1];have bp:=aX.ext aR aY;refine e9 λfs cD=>?_;refine ah (bp.p.2 _ ag) λjC hG fJ=>?_;refine aP fJ λbQ fi=>?_;subst fi;refine ah (bp.p.2 _ hd) λhX dv h3=>?_;refine dO h3 λes k f5 af=>?_;subst f5;refine cD ?_;refine yG aY.K hG dv af hz hs aa aM iu (ih.of jV aq) λh' jx hZ bL hD ju=>?_;refine aE (bp.setC (tk:=aL.toks+2) (p':=c7 (h5 name p kv)) hd bL hD yq ⟨jx,hZ,rfl,ju⟩) λdu fZ=>?_;exact⟨ad,m,_,du,((bC.ext az).trans (.ext aR)).trans fZ,h⟩
theorem vB{o e:Expr}{x dx mem:Addr}{f:Nat->Option ak}{name:Str}{p:ak}{q:Obj->Prop}(he:aV prog w n env m (ay cs) e p)(jV:Sc p)(aj:aV prog w n env m (ay cs) o (.val (.ref x)))(ag:(x,g9 C dx f)∈cs)(hd:(dx,q)∈cs)
  (hs:findIn (KF w) (.ref C) "__setattr__"=some (some (.builtin "object.__setattr__"))) (aa:plainOver (KF w) C=true) (aM:takerIn (KF w) C name=some (some (.ref mem))) (bE:typeIn (KF w) (.ref mem)=some (.type "member_descriptor")) (de:slotIn (KF w) mem C=some i) (hi:i < 10)
  (h:Φ .next m (ay (setC cs x (g9 C dx (jQ f i p))))) (iZ:swapsWith e (some (.Attribute o name lB)) pos.line env=pure false):ef prog w n env m (ay cs) (.Assign [.Attribute o name lB] e pos) Φ:=λs₀ W₀ aJ ad A s E ai F=>by
 refine plainObj_wpAny_Assign_Attribute ?_ iZ;refine he _ A s _ E ai F.F.st F.dp F.p λv au aq az aF=>?_;have aX:=F.ext az aF;refine aj _ A au _ E ai aX.F.st aX.dp aX.p λg0 aL l1 aR aY=>?_;rw[show g0= .ref x from l1];have bp:=aX.ext aR aY;refine ah (bp.p.2 _ ag) λjC hG qZ=>?_;refine ah (bp.p.2 _ hd) λhX dv _=>?_;refine set_slot aY.K hG qZ dv hs aa aM bE de hi (ih.of jV aq) λh' uD bL rn qK=>?_;refine ah (id qK) λxd h4 _=>?_;subst h4;refine aE (bp.setC (tk:=aL.toks+1) ag bL rn yj qK) λdu fZ=>?_;exact⟨ad,m,_,du,((bC.ext az).trans (.ext aR)).trans fZ,h⟩
def eI(w:World)(l:List (Str×Addr))(o:Obj):Prop:=∃es n,o={cls:= .type "dict",data:= .dict ⟨es⟩ n}/\KeysAre w (l.map (·.1)) es/\(l.map (·.1)).Nodup/\es.map (·.val)=l.map (λz=> .ref z.2)
def cy(l:List Str)(o:Obj):Prop:=∃vs n,o={cls:= .type "list",data:= .seq ⟨vs⟩ n}/\iR l vs
theorem mu{vs:Array Value} :cx {cls:= .type "list",data:= .seq vs n}:= .inr λ_ q=>by injection q
theorem yl{es:Array DictEntry} :cx {cls:= .type "dict",data:= .dict es n}:= .inr λ_ q=>by injection q
section
variable {prog:Program} {w:World} {n:Nat} {env:Env} {m:Loc} {cs:dU} {r:Rs} {Φ:dn->Loc->Rs->Prop}
theorem nj{e:Expr}(h:aV prog w n env m r e q')(aq:∀(W:Addr->Prop) h,(∀a,r.J a->W a)->r.P h->∀v,a6 w h W q' v->a6 w h W q v):aV prog w n env m r e q:=λW A s Q E ai st a0 aa a4=>
 h W A s Q E ai st a0 aa λv s' T1 e g=>a4 v s' (aq W _ a0 (Rs.ext a0 st.low e aa) v T1) e g
theorem tD{a:Addr}{l:List Str}(hz:(a,cy l)∈cs)(W:Addr->Prop)(h:Heap)(a0:∀b,(ay cs).J b->W b)(aa:(ay cs).P h)(v:Value)(aq:a6 w h W (.val (.ref a)) v):a6 w h W (.bw (aB l)) v:=by
 rw[show v= .ref a from aq];refine ah (aa.2 _ hz) λo e a7=>?_;refine dO a7 λvs k aU s=>?_;subst aU;exact⟨a,vs,k,rfl,a0 a (nq hz),e,s.uN⟩
theorem DF:∀{l:List Addr},bJ w h W (l.map λa=> .val (.ref a)) (l.map λa=> .ref a):=by
 intro a9;induction a9 with
 |nil=>
  exact rfl
 |cons a r aw=>
  exact⟨.ref a,_,rfl,rfl,aw⟩
theorem vM{d:Addr}{l:List (Str×Addr)}(hz:(d,eI w l)∈cs)(hd:(d==sysModules)=false)(W:Addr->Prop)(h:Heap)(a0:∀b,(ay cs).J b->W b)(aa:(ay cs).P h)(v:Value)(aq:a6 w h W (.val (.ref d)) v):a6 w h W (.eH (l.map (·.1)) (l.map λz=> .val (.ref z.2))) v:=by
 rw[show v= .ref d from aq];refine ah (aa.2 _ hz) λo e bz=>?_;refine h8 bz λes k bk ab ae aD=>?_;subst bk;refine⟨d,es,k,rfl,a0 d (nq hz),e,⟨ab,ae,hd⟩,?_⟩;rw[aD];have:=DF (w:=w) (h:=h) (W:=W) (l:=l.map (·.2));rw[dW,dW] at this;exact this
def dd(prog:Program)(w:World)(n:Nat)(env:Env)(m:Loc)(r:Rs)(pos:Pos)(es:List Expr)(ps:List ak):Prop:=
 ∀(W:Addr->Prop) (A:Around) (s:Shared) (Q:List Value->Shared->Prop) (E:Value->Shared->Prop),bK n A->St w env W m s.heap->(∀a,r.J a->W a)->r.P s.heap->
  (∀vs s',bJ w s'.heap W ps vs->Ext s s'->G w s'.heap->Q vs s')->wpAny (model prog w) A (spliced (backTo pos (starEach es env))) Q E s
theorem dd.nil:dd prog w n env m r pos [] []:=λW A s Q E ai st a0 aa a4=>Calls.spliced_nil (a4 [] s rfl (.refl s) st.g)
theorem dd.cons{e:Expr}{p:ak}(he:aV prog w n env m r e p)(bf:dd prog w n env m r pos es ps)(hs:starEach (e::es) env=(false,eval e env)::starEach es env):dd prog w n env m r pos (e::es) (p::ps):=λW A s Q E ai st a0 aa a4=>by
 rw[hs];refine Calls.spliced_cons (he W A s _ E ai st a0 aa λv au aq az aF=>?_);exact bf W A au _ E ai (st.ext az aF) a0 (Rs.ext a0 st.low az aa) λvs aL bb aR aY=>a4 _ aL ⟨v,vs,rfl,aq.ext aF aR,bb⟩ (az.trans aR) aY
theorem Jb{e:Expr}{l:List ak}(he:aV prog w n env m r e (.list l))(hz:l.length<=sizeLine)(hs:starEach [.Starred e sp] env=[(true,eval e env)]):dd prog w n env m r pos [.Starred e sp] l:=λW A s Q E ai st a0 aa a4=>by
 refine items_star (rest:=[]) (he W A s _ E ai st a0 aa λv au aq az aF=>?_) hs;refine cg aq λa vs k b7 aW aj bb=>?_;subst b7;unfold StarOf notIterableAtAll;refine aH (wpAny_specialOf (T:="list") ⟨_,aj,rfl⟩ PySem.F.slot_list_iter.lookup (bu ⟨rfl,?_⟩));refine wpAny_collect_seq a (.inl rfl) aj rfl rfl (λh' ar=>?_) (by show vs.length<=_;rw[<-bb.len];exact hz);refine Calls.spliced_nil ?_;have aR:Ext au {au with heap:=h'}:=⟨⟨h',au.toks,rfl⟩,.of ar⟩
 refine a4 _ _ ?_ (az.trans aR) (aF.keeps ar);rw[append_nil];exact bb.ext aF aR
theorem aV.cmp{l r':Expr}{p z:ak}(ao:aV prog w n env m r l p)(bf:aV prog w n env m r r' q)(aj:cA prog w (compareOp op) p q z)(hm:behindInMarks op r'=false):aV prog w n env m r (.Compare l [op] [r'] pos) z:=λW A s Q E ai x a0 aa h=>by
 refine wpAny_Compare1 (ao W A s _ E ai x a0 aa λa au af az aF=>bf W A au _ E ai (x.ext az aF) a0 (Rs.ext a0 x.low az aa) λb aL I aR aY=>?_) hm;exact aj W A aL a b Q E (ai.le (c0 _)) aY ((x.ext az aF).ext aR aY).low (af.ext aF aR) I λv s' aq e g=>h v s' aq ((az.trans aR).trans e) g
theorem gr.cmp{l r':Expr}{p:ak}{b:Bool}(ao:aV prog w n env m r l p)(bf:aV prog w n env m r r' q)(aj:cA prog w (compareOp op) p q (.bool b))(hm:behindInMarks op r'=false):gr prog w n env m r (.Compare l [op] [r'] pos) b:=λW A s Q E ai x a0 aa h=>by
 refine wpAny_isTrue_Compare1 (ao W A s _ E ai x a0 aa λa au af az aF=>bf W A au _ E ai (x.ext az aF) a0 (Rs.ext a0 x.low az aa) λc aL I aR aY=>?_) hm;refine aj W A aL a c _ E (ai.le (c0 _)) aY ((x.ext az aF).ext aR aY).low (af.ext aF aR) I λv s' aq e g=>?_;rw[show v= .bool b from aq];exact wpAny_truthy_bool (h s' ((az.trans aR).trans e) g)
theorem gr.plain{e:Expr}{p:ak}{b:Bool}(he:aV prog w n env m r e p)(aM:gR prog w p b)
  (hs:∀whole,isTrue e env whole=(do let v<-whole;standAt e.pos;holding [v] (truthy v))):gr prog w n env m r e b:=λW A s Q E ai x a0 aa h=>by
 rw[hs];refine aH (he W A s _ E ai x a0 aa λv au aq az aF=>aH (wpAny_standAt (wpAny_holding ?_)));exact aM W A au v Q E (ai.le (c0 _)) aF aq λs' e g=>h s' (az.trans e) g
theorem aV.item{v i:Expr}{k p:ak}{T id:String}(aq:aV prog w n env m r v q)(hi:aV prog w n env m r i k)(bE:Typed w q T)(ao:typeLookup (.type T) "__getitem__"=pure (some (.builtin id)))(dj:cA prog w getItem q k p)
  (hs:∀o j,subscripted i false o j=operate [o,j] (getItem o j)):aV prog w n env m r (.Subscript v i pos) p:=λW A s Q E ai x a0 aa h=>by
 refine PyProof.Rows.Subscript_ (aq W A s _ E ai x a0 aa λo au aj az aF=>hi W A au _ E ai (x.ext az aF) a0 (Rs.ext a0 x.low az aa) λj aL aN aR aY=>?_);have fin:wpAny (model prog w) A (getItem o j) Q E aL:=dj W A aL o j Q E (ai.le (c0 _)) aY ((x.ext az aF).ext aR aY).low (aj.ext aF aR) aN λv s' aq e g=>h v s' aq ((az.trans aR).trans e) g;exact PyProof.Rows.tail_any (bE W aL o aY (aj.ext aF aR)).1 ao fin (hs o j)
theorem CB{o:Expr}{name:Str}{T id:String}{p:ak}(mt:Meth T name id)(aj:aV prog w n env m r o q)(bE:Typed w q T)(af:dd prog w n env m r pos es ps)(U:Cl prog w n (.builtin id) (q::ps) p)
  (cv:(starEach es env).any (·.1)=false) (gS:attributeBase o name env (eval o env)=eval o env)
  (iS:((backTo pos (starEach es env)).all (λx=> !x.1)&&(backToKw pos (keywordEach [] env)).all (λx=>x.1.isSome)&&decide (es.length+([]:List Keyword).length+(if([]:List Keyword).isEmpty then 0 else 1) < 30))=true)
  (gA:(apos.endLine==pos.line)=true):aV prog w n env m r (.Call (.Attribute o name apos) es [] pos) p:=λW A s Q E ai x a0 aa h=>by
 refine wpAny_Call_method gS iS gA mt.ho mt.slot mt.ty (aj W A s _ E ai x a0 aa λv au aq az aF=>?_);refine aE (bE W au v aF aq) λab ae=>?_;refine⟨ab,ae,?_⟩;have c4:=x.ext az aF;have I:=ja (pos:=pos) cv;refine Calls.callWith_builtin (j5 I) (g8 I (af W A au _ E ai c4 a0 (Rs.ext a0 x.low az aa) λvs aL bb aR aY=>?_));exact U W A aL (v::vs) Q E ai aY (c4.ext aR aY).low ⟨v,vs,rfl,aq.ext aF aR,bb⟩ λu s' bD e g=>h u s' bD ((az.trans aR).trans e) g
theorem CH{id:String}{p:ak}(iD:Ev prog w n env m eE (.val (.builtin id)))(af:dd prog w n env m r pos es ps)(U:Cl prog w n (.builtin id) ps p)(cv:(starEach es env).any (·.1)=false)
  (fo:eval (.Call eE es [] pos) env=(do callWith pos (<-eval eE env) [] (backTo pos (starEach es env)) (backToKw pos (keywordEach [] env)))):aV prog w n env m r (.Call eE es [] pos) p:=λW A s Q E ai x a0 aa h=>by
 rw[fo];refine aH (iD W A s _ E ai x λv au aq az aF=>?_);rw[show v= .builtin id from aq];have c4:=x.ext az aF;have I:=ja (pos:=pos) cv;refine Calls.callWith_builtin (j5 I) (g8 I (af W A au _ E ai c4 a0 (Rs.ext a0 x.low az aa) λvs aL bb aR aY=>?_));exact U W A aL ([]++vs) Q E ai aY (c4.ext aR aY).low bb λu s' bD e g=>h u s' bD ((az.trans aR).trans e) g
theorem CI{T:String}{p:ak}(iD:Ev prog w n env m eE (.val (.type T)))(af:dd prog w n env m r pos es ps)(U:Cl prog w n (.type T) ps p)(cv:(starEach es env).any (·.1)=false)
  (fo:eval (.Call eE es [] pos) env=(do callWith pos (<-eval eE env) [] (backTo pos (starEach es env)) (backToKw pos (keywordEach [] env)))):aV prog w n env m r (.Call eE es [] pos) p:=λW A s Q E ai x a0 aa h=>by
 rw[fo];refine aH (iD W A s _ E ai x λv au aq az aF=>?_);rw[show v= .type T from aq];have c4:=x.ext az aF;have I:=ja (pos:=pos) cv;refine PySem.callWith_type (j5 I) (g8 I (af W A au _ E ai c4 a0 (Rs.ext a0 x.low az aa) λvs aL bb aR aY=>?_));exact U W A aL ([]++vs) Q E ai aY (c4.ext aR aY).low bb λu s' bD e g=>h u s' bD ((az.trans aR).trans e) g
theorem yc:fa prog w n env m (ay cs) (.List [] pU) (λp r'=>∃D,p= .val (.ref D)/\r'=ay (cs++[(D,cy [])])):=λs₀ W₀ aJ ad A s Q E ai F a4=>by
 refine PyProof.Rows.List_ (Calls.spliced_nil ?_);refine wpAny_newObj_type ?_ (by show(0:Nat)<=_;exact c0 _);obtain⟨aS,k'⟩:=F.mJ (p:=cy []) (.push ..) (F.F.st.g.push _) (er _) (dc _ rfl) mu ⟨[],0,rfl,[],rfl,rfl⟩;exact a4 (.val (.ref s.heap.objs.size)) _ _ _ aS k' rfl trivial ⟨_,rfl,rfl⟩
theorem Ij:fa prog w n env m (ay cs) (.Dict [] [] pU) (λp r'=>∃D,p= .val (.ref D)/\r'=ay (cs++[(D,eI w [])])/\(D==sysModules)=false):=λs₀ W₀ aJ ad A s Q E ai F a4=>by
 refine wpAny_Dict_empty ?_;obtain⟨aS,k'⟩:=F.mJ (p:=eI w []) (.push ..) (F.F.st.g.push _) (er _) (dc _ rfl) yl ⟨[],0,rfl,rfl,nodup_nil,rfl⟩;exact a4 (.val (.ref s.heap.objs.size)) _ _ _ aS k' rfl trivial ⟨_,rfl,rfl,F.F.st.g.noSys (Nat.le_refl _)⟩
theorem B9{o e:Expr}{x dx:Addr}{name:Str}(he:fa prog w n env m r e Ψ)
  (hs:findIn (KF w) (.ref C) "__setattr__"=some (some (.builtin "object.__setattr__"))) (aa:plainOver (KF w) C=true) (aM:takerIn (KF w) C name=some none) (iu:hasDictIn (KF w) C=true)
  (h:∀p r',Ψ p r'->Sc p/\∃cs kv,b0 r' (ay cs)/\aV prog w n env m (ay cs) o (.val (.ref x))/\(x,fP C dx)∈cs/\(dx,c7 kv)∈cs/\kv.length<=100/\Φ .next m (ay (setC cs dx (c7 (h5 name p kv))))) (iZ:swapsWith e (some (.Attribute o name lB)) pos.line env=pure false):ef prog w n env m r (.Assign [.Attribute o name lB] e pos) Φ:=λs₀ W₀ aJ ad A s E ai F=>by
 refine plainObj_wpAny_Assign_Attribute ?_ iZ;refine he s₀ W₀ aJ ad A s _ E ai F λp r' v au aX k₁ aq eT cU=>?_;refine e9 λfs cD=>?_;obtain⟨jV,cs,kv,hle,aj,ag,hd,hz,hE⟩:=h p r' cU;refine cD ?_;rw[hle.vy] at k₁;replace aX:=aX.le hle;refine aj _ A au _ E ai aX.F.st aX.dp aX.p λg0 aL l1 aR aY=>?_;rw[show g0= .ref x from l1];have bp:=aX.ext aR aY;refine e9 λfs cD=>?_;refine ah (bp.p.2 _ ag) λjC hG c2=>?_;refine aP c2 λbQ cC=>?_;subst cC;refine ah (bp.p.2 _ hd) λhX dv eM=>?_;refine dO eM λes k c1 af=>?_;subst c1;refine cD ?_;refine yG aY.K hG dv af hz hs aa aM iu (ih.of jV aq) λh' jx hZ bL hD ju=>?_;refine aE (bp.setC (tk:=aL.toks+2) (p':=c7 (h5 name p kv)) hd bL hD yq ⟨jx,hZ,rfl,ju⟩) λdu fZ=>?_;exact⟨ad,m,_,du,(k₁.trans (.ext aR)).trans fZ,hE⟩
theorem HT{o e:Expr}{x dx mem:Addr}{name:Str}{q:Obj->Prop}(he:fa prog w n env m r e Ψ)
  (hs:findIn (KF w) (.ref C) "__setattr__"=some (some (.builtin "object.__setattr__"))) (aa:plainOver (KF w) C=true) (aM:takerIn (KF w) C name=some (some (.ref mem))) (bE:typeIn (KF w) (.ref mem)=some (.type "member_descriptor")) (de:slotIn (KF w) mem C=some i) (hi:i < 10)
  (h:∀p r',Ψ p r'->Sc p/\∃cs f,b0 r' (ay cs)/\aV prog w n env m (ay cs) o (.val (.ref x))/\(x,g9 C dx f)∈cs/\(dx,q)∈cs/\Φ .next m (ay (setC cs x (g9 C dx (jQ f i p))))) (iZ:swapsWith e (some (.Attribute o name lB)) pos.line env=pure false):ef prog w n env m r (.Assign [.Attribute o name lB] e pos) Φ:=λs₀ W₀ aJ ad A s E ai F=>by
 refine plainObj_wpAny_Assign_Attribute ?_ iZ;refine he s₀ W₀ aJ ad A s _ E ai F λp r' v au aX k₁ aq eT cU=>?_;refine e9 λfs cD=>?_;obtain⟨jV,cs,f,hle,aj,ag,hd,hE⟩:=h p r' cU;refine cD ?_;rw[hle.vy] at k₁;replace aX:=aX.le hle;refine aj _ A au _ E ai aX.F.st aX.dp aX.p λg0 aL l1 aR aY=>?_;rw[show g0= .ref x from l1];have bp:=aX.ext aR aY;refine e9 λfs cD=>?_;refine ah (bp.p.2 _ ag) λjC hG qZ=>?_;refine ah (bp.p.2 _ hd) λhX dv _=>?_;refine cD ?_;refine set_slot aY.K hG qZ dv hs aa aM bE de hi (ih.of jV aq) λh' uD bL rn qK=>?_;refine e9 λfs cD=>?_;refine ah (id qK) λxd eJ _=>?_;subst eJ;refine aE (bp.setC (tk:=aL.toks+1) (p':=g9 C dx (jQ f i p)) ag bL rn yj qK) λdu fZ=>?_;refine cD ?_;exact⟨ad,m,_,du,(k₁.trans (.ext aR)).trans fZ,hE⟩
end
variable {eU:Sem Bool}
section
variable {prog:Program} {w:World} {n:Nat} {env:Env} {m:Loc} {cs:dU} {r:Rs} {Φ:dn->Loc->Rs->Prop}
theorem bR.callC{ad:Str->Addr}{f:Addr}(h:eQ prog w n f args r Ψ)(ai:bK n A)(F:bR w s₀ env W₀ aJ ad m r s)(bb:bJ w s.heap (bU W₀ env m ad λa=>aJ a\/r.J a) args vs)(cN:dA args)
  (a4:∀p r' v s',bR w s₀ env W₀ aJ ad m r' s'->bC (cE env m ad r) (cE env m ad r') s s'->a6 w s'.heap (bU W₀ env m ad λa=>aJ a\/r'.J a) p v->cb p->Ψ p r'->Q v s'):codeAny (model prog w) A (.call (.ref f) ⟨vs,[]⟩) (ot Q E) s:=by
 refine aE F.callee λhl hK=>?_;refine h s₀ s W₀ (λa=>aJ a\/b4 env m ad a) A vs Q E ai F.F.same F.F.keep F.F.dJ F.F.st.g F.F.e8 hl hK F.p (bb.less cN λa af=>?_) λp v r' s' cU aq eT B=>?_
 ·rcases af with af |(af |af) |af
  ·exact .m1 af
  ·exact .dw (.inl af)
  ·exact af.j2
  ·exact .dw (.inr af)
 ·refine aE (F.back B) λaS k'=>?_;refine a4 p r' v s' aS k' (aq.less eT λa af=>?_) eT cU;rcases af.split with q |(q |q) |q
  ·exact .inl q
  ·exact .inr (.inl (.inl q))
  ·exact .inr (.inr q)
  ·exact .inr (.inl (.inr q))
theorem yi{M:Model}{f:Value}{l:List (Bool×Sem Value)}{Q:Args->Shared->Prop}(ao:l=[]\/∃x r,l=(false,x)::r)(h:wpAny M A (spliced l) (λvs s'=>Q ⟨vs,[]⟩ s') E s):wpAny M A (evalArgs f true l []) Q E s:=by
 rcases ao with rfl |⟨x,r,rfl⟩
 ·exact g8 (λx ag=>absurd ag b8) h
 ·exact Calls.evalArgs_plain h
theorem Ct{K:Around->Prop}(bx:∀A,K A->bK n A){o:Expr}{name:Str}{x dx f:Addr}{kv:List (Str×ak)}{of:Obj}(aj:aV prog w n env m (ay cs) o (.val (.ref x)))(ag:(x,fP C dx)∈cs)(hd:(dx,c7 kv)∈cs)
  (dj:plainGet (KF w) C name=true) (hf:findIn (KF w) (.ref C) name=some (some (.ref f))) (iT:isFn (KF w) (.ref f)=true) (fK:kv.lookup name=none) (nT:(KF w).lookup f=some of) (nQ:of.data= .func fd)
  (af:dd prog w n env m (ay cs) pos es ps) (O0:∀(s₀:Shared) (W₀ aJ:Addr->Prop) (ad:Str->Addr) (A:Around) (s:Shared) (vs:List Value) (Q:Value->Shared->Prop) (E:Value->Shared->Prop),K A->bR w s₀ env W₀ aJ ad m (ay cs) s->bJ w s.heap (bU W₀ env m ad λa=>aJ a\/(ay cs).J a) (.val (.ref x)::ps) vs->
   (∀p r' v s',bR w s₀ env W₀ aJ ad m r' s'->bC (cE env m ad (ay cs)) (cE env m ad r') s s'->a6 w s'.heap (bU W₀ env m ad λa=>aJ a\/r'.J a) p v->cb p->Ψ p r'->Q v s')->codeAny (model prog w) A (.call (.ref f) ⟨vs,[]⟩) (ot Q E) s) (cv:backTo pos (starEach es env)=[]\/∃x r,backTo pos (starEach es env)=(false,x)::r)
  (fo:eval (.Call (.Attribute o name apos) es [] pos) env=(do
   let g0<-eval o env
   standAt apos.atName
   let(f,first)<-holding [g0] (getMethod g0 name eU)
   callWith pos f first (backTo pos (starEach es env)) (backToKw pos (keywordEach [] env)))):jn prog w K env m (ay cs) (.Call (.Attribute o name apos) es [] pos) Ψ:=λs₀ W₀ aJ ad A s Q E ai F a4=>by
 refine methodCall_KW (aj _ A s _ E (bx A ai) F.F.st F.dp F.p λv au aq az aF=>?_) fo;rw[show v= .ref x from aq];have aX:=F.ext az aF;refine e9 λfs cD=>?_;refine ah (aX.p.2 _ ag) λjC hG a7=>?_;refine aP a7 λbQ aU=>?_;subst aU;refine ah (aX.p.2 _ hd) λhX dv bz=>?_;refine dO bz λuK k bk lZ=>?_;subst bk;refine cD ?_;have bh:InstAt au.heap x ⟨.ref C,some dx,.plain,bQ⟩ C (some (dictOf uK k)):=⟨hG,rfl,rfl,dv⟩
 have ao:=lZ.get name;rw[fK] at ao;refine method_fn aF.K bh (plainGet_of dj).1 (plainGet_of dj).2 hf (beq_iff_eq.mp iT) (by show(lookIn name (dictOf uK k)).map _=_;rw[lookIn_dict,show getL name uK=some none from ao];rfl) ?_;refine Calls.callWith_function (o:=of) (fd:=fd) (yi cv (af _ A au _ E (bx A ai) aX.F.st aX.dp aX.p λvs aL bb aR aY=>?_));have bp:=aX.ext aR aY;refine⟨⟨aY.K _ _ nT,nQ⟩,?_⟩;refine wpAny_call (O0 s₀ W₀ aJ ad A aL _ _ E ai bp ⟨.ref x,vs,rfl,rfl,bb⟩ λp r' v s' aS k' aq eT cU=>?_);exact a4 p r' v s' aS (((bC.ext az).trans (.ext aR)).trans k') aq eT cU
theorem vF{o:Expr}{name:Str}{x dx f:Addr}{kv:List (Str×ak)}{of:Obj}(aj:aV prog w n env m (ay cs) o (.val (.ref x)))(ag:(x,fP C dx)∈cs)(hd:(dx,c7 kv)∈cs)
  (dj:plainGet (KF w) C name=true) (hf:findIn (KF w) (.ref C) name=some (some (.ref f))) (iT:isFn (KF w) (.ref f)=true) (fK:kv.lookup name=none) (nT:(KF w).lookup f=some of) (nQ:of.data= .func fd)
  (af:dd prog w n env m (ay cs) pos es ps) (iW:dA ps) (hm:eQ prog w n f (.val (.ref x)::ps) (ay cs) Ψ) (cv:backTo pos (starEach es env)=[]\/∃x r,backTo pos (starEach es env)=(false,x)::r)
  (fo:eval (.Call (.Attribute o name apos) es [] pos) env=(do
   let g0<-eval o env
   standAt apos.atName
   let(f,first)<-holding [g0] (getMethod g0 name eU)
   callWith pos f first (backTo pos (starEach es env)) (backToKw pos (keywordEach [] env)))):fa prog w n env m (ay cs) (.Call (.Attribute o name apos) es [] pos) Ψ:=Ct (λ_ h=>h) aj ag hd dj hf iT fK nT nQ af (λs₀ W₀ aJ ad A s vs Q E ai F bb a4=>F.callC hm ai bb ⟨trivial,iW⟩ a4) cv fo
theorem bK.make(r:bK (n+1) A):bK n (A.under (.builtin "type.__call__" ⟨.ref C::vs,[]⟩)):=by
 refine⟨?_,?_,r.calm⟩
 ·have:=r.depth;show A.depth+1+n<=700;walk_at"o"
 ·have:=r.units;have e:(Code.builtin "type.__call__" ⟨.ref C::vs,[]⟩).cUnits=1:=rfl;show A.units+(Code.builtin "type.__call__" ⟨.ref C::vs,[]⟩).cUnits+10*n<=9000;rw[e];walk_at"o"
theorem fa.make{fI:Addr}{px:Addr->Obj->Prop}(iD:Ev prog w (n+1) env m eE (.val (.ref C)))(ar:keepIn (KF w) (.ref C)=true)(hm:makesIn (KF w) C=true)(hi:findIn (KF w) (.ref C) "__init__"=some (some (.ref fI)))(hf:typeIn (KF w) (.ref fI)=some (.type "function"))
  (af:dd prog w (n+1) env m (ay cs) pos es ps) (iW:dA ps) (RW:∀dx,px dx (instObj C dx)) (OS:∀x dx,eQ prog w n fI (.val (.ref x)::ps) (ay (cs++[(dx,c7 [])]++[(x,px dx)])) (λp r'=>p= .none/\Ψ (.val (.ref x)) r')) (cv:(starEach es env).any (·.1)=false)
  (fo:eval (.Call eE es [] pos) env=(do callWith pos (<-eval eE env) [] (backTo pos (starEach es env)) (backToKw pos (keywordEach [] env)))):fa prog w (n+1) env m (ay cs) (.Call eE es [] pos) Ψ:=λs₀ W₀ aJ ad A s Q E ai F a4=>by
 rw[fo];refine aH (iD _ A s _ E ai F.F.st λv au aq az aF=>?_);rw[show v= .ref C from aq];have aX:=F.ext az aF;have I:=ja (pos:=pos) cv;refine PySem.W.callWith_of (P:=λh=>(KF w).In h) (by rw[j5 I];rfl) (keeps_K ar) (g8 I (af _ A au _ E ai aX.F.st aX.dp aX.p λvs aL bb aR aY=>⟨aY.K,?_⟩));have bp:=aX.ext aR aY;obtain⟨cX,rt,sY,tt,os⟩:=aL;refine wpAny_call (make_core (makes_of aY.K hm) (looks_findIn aY.K hi) (λself=>bind_fn aY.K self hf) (.inl rfl) ?_);have nd:cX.get? cX.objs.size=none:=er _;obtain⟨du,fZ⟩:=bp.mJ (s':=⟨cX.push emptyDict,rt,sY,tt,os⟩) (p:=c7 []) (.push _ _) (aY.push _) nd (dc _ rfl) (.inr λ_ q=>by injection q) ⟨[],0,rfl,.nil⟩;have bX:(cX.push emptyDict).objs.size=cX.objs.size+1:=size_push ..;have nc:(cX.push emptyDict).get? (cX.objs.size+1)=none:=by rw[<-bX];exact er _
 have Um:((cX.push emptyDict).push (instObj C cX.objs.size)).get? (cX.objs.size+1)=some (instObj C cX.objs.size):=by rw[<-bX];exact dc _ rfl
 refine aE (du.mJ (s':=⟨(cX.push emptyDict).push (instObj C cX.objs.size),rt,sY,tt,os⟩) (p:=px cX.objs.size) (.push _ _) (du.F.st.g.push _) nc Um (.inr λ_ q=>by injection q) (RW _)) λf3 lP=>?_;have d9:Ext (⟨cX,rt,sY,tt,os⟩:Shared) ⟨(cX.push emptyDict).push (instObj C cX.objs.size),rt,sY,tt,os⟩:=(Ext.push (⟨cX,rt,sY,tt,os⟩:Shared) _).trans (.push _ _);refine codeAny_mono (f3.callC (n:=n) (A:=A.under (.builtin "type.__call__" ⟨.ref C::vs,[]⟩)) (E:=E) (args:= .val (.ref (cX.objs.size+1))::ps) (vs:= .ref (cX.objs.size+1)::vs) (OS (cX.objs.size+1) cX.objs.size) ai.make ⟨_,_,rfl,rfl,?_⟩ ⟨trivial,iW⟩ (Q:=λv s'=>v= .none/\Q (.ref (cX.objs.size+1)) s') λp r' v s' aS k' aq eT cU=>?_) ?_
 ·refine bb.upd (λb o I U ct=>⟨d9.keep _ _ (aY.fY ct U) ct,λq=>?_⟩) iW;rcases q.split with q |(q |q) |q
  ·exact I (.m1 q)
  ·exact I (.dw (.inl q))
  ·have q:b∈(cs++[(cX.objs.size,c7 [])]++[(cX.objs.size+1,px cX.objs.size)]).map (λz=>z.1):=q;rw[map_append,map_append,mem_append,mem_append] at q;replace q:=q;have ct:cX.get? b=some o:=ct;rcases q with(q |q) |q
   ·exact I (.dw (.inr q))
   ·rw[cQ.mp q] at ct;rw[show cX.get? _=_ from nd] at ct;injection ct
   ·rw[cQ.mp q] at ct;exact absurd (lt_size ct) (Nat.not_lt.mpr (Nat.le_succ _))
  ·exact I q.j2
 ·obtain⟨b7,cU⟩:=cU;subst b7;refine⟨aq,a4 (.val (.ref (cX.objs.size+1))) r' _ s' aS ?_ rfl trivial cU⟩;exact(((((bC.ext az).trans (.ext aR)).trans fZ).trans lP).trans k')
 ·intro z s' hz;induction z with
  |error e=>exact hz
  |ok f=>
   induction f with
   |ret v=>exact hz
   |_=>exact hz.elim
theorem Cw{o e:Expr}{x dx:Addr}{kv:List (Str×ak)}{name:Str}{i j:Int}(aj:aV prog w n env m (ay cs) o (.val (.ref x)))(he:aV prog w n env m (ay cs) e (.int j))(ag:(x,fP C dx)∈cs)(hd:(dx,c7 kv)∈cs)(hz:kv.length<=100)
  (iu:hasDictIn (KF w) C=true) (dj:plainGet (KF w) C name=true) (hf:findIn (KF w) (.ref C) name=some none) (ao:kv.lookup name=some (.int i)) (hs:findIn (KF w) (.ref C) "__setattr__"=some (some (.builtin "object.__setattr__"))) (aa:plainOver (KF w) C=true) (aM:takerIn (KF w) C name=some none)
  (h:Φ .next m (ay (setC cs dx (c7 (h5 name (.int (i+j)) kv))))):ef prog w n env m (ay cs) (.AugAssign (.Attribute o name lB) .Add e pos) Φ:=λs₀ W₀ aJ ad A s E ai F=>by
 refine wpAny_AugAssign_AttributeAny (aj _ A s _ E ai F.F.st F.dp F.p λv au aq az aF=>?_);rw[show v= .ref x from aq];have aX:=F.ext az aF;refine ah (aX.p.2 _ ag) λjC hG c2=>?_;refine aP c2 λbQ cC=>?_;subst cC;refine ah (aX.p.2 _ hd) λhX dv eM=>?_;refine dO eM λuK k c1 lZ=>?_;subst c1;refine Du aF.K hG dv lZ iu dj hf ao (λi q=>by injection q) λv aq=>?_;refine aP aq λt eJ=>?_;subst eJ;have bp:bR w s₀ env W₀ aJ ad m (ay cs) {au with toks:=au.toks+1}:=aX.ext (.tok _ _) aF;refine he _ A _ _ E ai bp.F.st bp.dp bp.p λu eb bD d9 eY=>?_;refine aP bD λeV fi=>?_;subst fi;have du:=bp.ext d9 eY;refine PySem.AutoIntOps.iadd_0 ?_;have f3:bR w s₀ env W₀ aJ ad m (ay cs) {eb with toks:=eb.toks+1}:=du.ext (.tok _ _) eY;show wpAny _ _ (setAttr (.ref x) name (.int (i+j) eb.toks)) _ _ {eb with toks:=eb.toks+1};refine ah (f3.p.2 _ ag) λjC hG f5=>?_;refine aP f5 λxd fJ=>?_;subst fJ;refine ah (f3.p.2 _ hd) λhX dv h4=>?_;refine dO h4 λVh k' h3 Ql=>?_;subst h3;refine yG eY.K hG dv Ql hz hs aa aM iu (p:= .int (i+j)) ⟨_,rfl⟩ λh' jx hZ bL hD ju=>?_;refine aE (f3.setC (tk:=eb.toks+1+2) (p':=c7 (h5 name (.int (i+j)) kv)) hd bL hD yq ⟨jx,hZ,rfl,ju⟩) λiv o3=>?_;exact⟨ad,m,_,iv,((((bC.ext az).trans (.ext (.tok _ _))).trans (.ext d9)).trans (.ext (.tok _ _))).trans o3,h⟩
theorem CF{o e:Expr}{x dx mem:Addr}{f:Nat->Option ak}{ix:Nat}{name:Str}{q:Obj->Prop}{i j z:Int}{op:Operator}(aj:aV prog w n env m (ay cs) o (.val (.ref x)))(he:aV prog w n env m (ay cs) e (.int j))(ag:(x,g9 C dx f)∈cs)(hd:(dx,q)∈cs)
  (Tp:∀(A:Around) (s:Shared) (t eV:Tok) (Q:Value->Shared->Prop) (E:Value->Shared->Prop),Q (.int z s.toks) {s with toks:=s.toks+1}->wpAny (model prog w) A (inplaceOp op (.int i t) (.int j eV)) Q E s)
  (U:(clsIn (KF w) C).isSome=true) (dj:plainGet (KF w) C name=true) (hf:findIn (KF w) (.ref C) name=some (some (.ref mem))) (iw:specialIn (KF w) (.ref mem) "__get__"=some (some (.builtin "member_descriptor.__get__"))) (u7:takesIn (KF w) (.ref mem)=some true) (de:slotIn (KF w) mem C=some ix) (RC:ix < 10)
  (mY:f ix=some (.int i)) (hs:findIn (KF w) (.ref C) "__setattr__"=some (some (.builtin "object.__setattr__"))) (aa:plainOver (KF w) C=true) (aM:takerIn (KF w) C name=some (some (.ref mem))) (bE:typeIn (KF w) (.ref mem)=some (.type "member_descriptor"))
  (h:Φ .next m (ay (setC cs x (g9 C dx (jQ f ix (.int z)))))):ef prog w n env m (ay cs) (.AugAssign (.Attribute o name lB) op e pos) Φ:=λs₀ W₀ aJ ad A s E ai F=>by
 refine wpAny_AugAssign_AttributeAny (aj _ A s _ E ai F.F.st F.dp F.p λv au aq az aF=>?_);rw[show v= .ref x from aq];have aX:=F.ext az aF;refine ah (aX.p.2 _ ag) λjC hG qZ=>?_;refine ah (aX.p.2 _ hd) λhX dv _=>?_;refine get_slot aF.K hG qZ dv U dj hf iw u7 de mY (λi q=>by injection q) λv aq=>?_;refine aP aq λt kG=>?_;subst kG;have bp:bR w s₀ env W₀ aJ ad m (ay cs) {au with toks:=au.toks+1}:=aX.ext (.tok _ _) aF;refine he _ A _ _ E ai bp.F.st bp.dp bp.p λu eb bD d9 eY=>?_;refine aP bD λeV nI=>?_;subst nI;have du:=bp.ext d9 eY;refine Tp A eb t eV _ _ ?_;have f3:bR w s₀ env W₀ aJ ad m (ay cs) {eb with toks:=eb.toks+1}:=du.ext (.tok _ _) eY;refine ah (f3.p.2 _ ag) λuD PQ qK=>?_;refine ah (f3.p.2 _ hd) λVT Pu _=>?_;refine set_slot (s:={eb with toks:=eb.toks+1}) eY.K PQ qK Pu hs aa aM bE de RC (p:= .int z) ⟨_,rfl⟩ λh' Vg bL rn EG=>?_;refine ah (id EG) λxd nO _=>?_;subst nO;refine aE (f3.setC (tk:=eb.toks+1+1) (p':=g9 C dx (jQ f ix (.int z))) ag bL rn yj EG) λiv o3=>?_;exact⟨ad,m,_,iv,((((bC.ext az).trans (.ext (.tok _ _))).trans (.ext d9)).trans (.ext (.tok _ _))).trans o3,h⟩
end
section
variable {prog:Program} {w:World} {n:Nat} {env:Env} {m:Loc} {cs:dU} {r:Rs} {Φ:dn->Loc->Rs->Prop}
theorem CR{ks:List Str}{l:List ak}{x:Str}:Cl prog w n (.builtin "dict.get") [.eH ks l,.str x] ((dictAt ks l x).getD .none):=λW A s _ Q E r g low fm h=>by
 refine bj fm λ_ _ ax aU bz=>?_;refine bj bz λ_ _ aC bk bX=>?_;refine iA aU λa es k e aW aj a7 hs=>?_;refine cB a7 λar aA iQ=>?_;refine aP bk λt aO=>?_;subst ax e aC aO;rw[show _=[] from bX];refine ah (vT (prog:=prog) (x:=x) aj ar aA hs) λf ab ae=>?_;refine wpAny_call (codeAny_call_builtin F.slot_dict_get.plain F.entry_dict_get (F.slot_dict_get.check _ _ _ _ _ _ _ _ ⟨_,aj,rfl⟩ (F.args_dict_get_2 _ _) (meets_dict_get (strKind prog w) a isKey iQ A (wants Q E) s ⟨f,ab,?_⟩)));induction hd:dictAt ks l x with
 |some p=>
  rw[hd] at ae h;refine ah ae λu aD bc=>?_;rw[aD];exact h _ _ bc (.tok s _) g
 |none=>
  rw[hd] at ae h;rw[show f x=none from ae];exact h _ _ rfl (.tok s _) g
theorem Dg{l:List ak}(hz:l.length<=sizeLine):Cl prog w n (.builtin "len") [.tup l] (.int l.length):=λW A s _ Q E r g low hH h=>by
 refine bj hH λ_ _ ax b7 a8=>?_;refine cg b7 λa vs k e aW aj hs=>?_;subst ax e;rw[show _=[] from a8];refine PyProof.Rows.len_tuple (items:=⟨vs⟩) ⟨_,aj,rfl,k,rfl⟩ (fits63 hs.len hz) (h _ _ ⟨s.toks+1,?_⟩ (.tok s _) g);show Value.int ((vs.length:Nat):Int) _=_;rw[hs.len]
theorem JD:cA prog w (compareOp .Is) .none .none (.bool true):=λW A s _ _ Q E r g _ e aO h=>by
 rw[show _=Value.none from e,show _=Value.none from aO];exact wpAny_is_plain rfl (h _ _ rfl (.refl s) g)
theorem tv{b:Addr}:cA prog w (compareOp .Is) (.val (.ref b)) .none (.bool false):=λW A s _ _ Q E r g _ e aO h=>by
 rw[show _=Value.ref b from e,show _=Value.none from aO];exact wpAny_is_other rfl (by intro q;injection q) (h _ _ rfl (.refl s) g)
theorem vC:cA prog w (compareOp .IsNot) .none .none (.bool false):=λW A s _ _ Q E r g _ e aO h=>by
 rw[show _=Value.none from e,show _=Value.none from aO];exact wpAny_isNot_plain rfl (h _ _ rfl (.refl s) g)
theorem I8{l:List ak}(hz:l.length<=sizeLine):iE prog w "list.clear" (.bw l) [] (.bw []):=λW A s a vs Q E r g pH dP jW aC h=>by
 refine cg jW λnh us k e aW aj hs=>?_
 (injection e with bB;subst bB)
 rw[show vs=[] from aC];refine call_meets PySem.F.slot_list_clear ⟨_,aj,rfl⟩ PySem.F.entry_list_clear (PySem.F.args_list_clear_1 _) (AutoSeq1.list_clear_list_0 a ⟨us⟩ k (by show us.length<=_;rw[<-hs.len];exact hz)) ⟨aj,?_⟩;obtain⟨cJ,pl⟩:∃cJ,(s.heap.update a (Obj.mapSeq λ_=>(#[]:Array Value))).get? a=some {cls:= .type "list",data:= .seq ⟨[]⟩ cJ}:=⟨_,get?_update_seq aj λ_=>(#[]:Array Value)⟩
 exact h _ _ _ (.update ..) ⟨a,[],cJ,rfl,aW,pl,rfl⟩
theorem NB:Meth "list" "clear" "list.clear":=⟨F.plainAttrs_list,F.slot_list_clear,F.type_list_clear⟩
theorem vD{o:Expr}{name:Str}{id:String}{a:Addr}{l l':List Str}(mt:Meth "list" name id)(aj:aV prog w n env m (ay cs) o (.val (.ref a)))(af:(a,cy l)∈cs)(OG:dd prog w n env m (ay cs) pos es ps)(iW:dA ps)(U:iE prog w id (.bw (aB l)) ps (.bw (aB l')))
  (h:Φ .next m (ay (setC cs a (cy l')))) (cv:(starEach es env).any (·.1)=false)
  (gS:attributeBase o name env (eval o env)=eval o env)
  (iS:((backTo pos (starEach es env)).all (λx=> !x.1)&&(backToKw pos (keywordEach [] env)).all (λx=>x.1.isSome)&&decide (es.length+([]:List Keyword).length+(if([]:List Keyword).isEmpty then 0 else 1) < 30))=true)
  (gA:(apos.endLine==pos.line)=true) (hi:interactive env=false) (hs:swapsWith (.Call (.Attribute o name apos) es [] pos) none fQ.line env=pure false):
  ef prog w n env m (ay cs) (.Expr (.Call (.Attribute o name apos) es [] pos) fQ) Φ:=λs₀ W₀ aJ ad A s E ai F=>by
 refine wpAny_Expr_any ?_ hi hs;refine wpAny_Call_method gS iS gA mt.ho mt.slot mt.ty (aj _ A s _ E ai F.F.st F.dp F.p λv au aq az aF=>?_);rw[show v= .ref a from aq];have aX:=F.ext az aF;refine ah (aX.p.2 _ af) λob gq c2=>?_;refine dO c2 λON Ft cC _=>?_;subst cC;refine⟨⟨_,gq,rfl⟩,λb q=>by(injection q with bB;subst bB);exact⟨_,gq,rfl⟩,?_⟩;have I:=ja (pos:=pos) cv;refine Calls.callWith_builtin (j5 I) (g8 I (OG _ A au _ E ai aX.F.st aX.dp aX.p λvs aL bb aR aY=>?_));have bp:=aX.ext aR aY;refine U _ A aL a vs _ E (ai.le (c0 _)) aY d5 iW (tD af _ _ bp.dp bp.p _ rfl) bb λu h' tk bL jT=>?_;refine cg jT λnh us k e _ cS hU=>?_
 (injection e with bB;subst bB)
 refine aE (bp.setC (tk:=tk) (p':=cy l') af bL cS mu ⟨us,k,rfl,iR.of hU⟩) λdu fZ=>?_;exact⟨ad,m,_,du,((bC.ext az).trans (.ext aR)).trans fZ,h⟩
theorem Cb{x:Str}{e aC:Expr}{p:ak}{b:Bool}{np U0:Pos}{Hp j0:List Stmt}(he:aV prog w n env m r e p)(aa:cb p)(ar:env.kindOf x=some .local\/(env.kindOf x=some .cell/\(env.cells.lookup x).isSome=true))(bf:aV prog w n env ((x,p)::m) r aC q)(aj:cA prog w (compareOp op) p q (.bool b))(hm:behindInMarks op aC=false)
  (af:b=true->aZ prog w n env ((x,p)::m) r Hp Φ) (I:b=false->aZ prog w n env ((x,p)::m) r j0 Φ):ef prog w n env m r (.If (.Compare (.NamedExpr (.Name x px) e np) [op] [aC] U0) Hp j0 pos) Φ:=λs₀ W₀ aJ ad A s E ai F=>by
 refine wpAny_If (wpAny_isTrue_Compare1 (wpAny_NamedExpr (he _ A s _ E ai F.F.st F.dp F.p λv au aq az aF=>?_)) hm);have aX:=F.ext az aF;have uA:=aa;refine wpAny_assign_Name (aX.F.put aq aa ar λaL bp k₂=>?_);refine aE (aX.turn bp k₂) λoY Oj=>?_;have zB:a6 w aL.heap (bU W₀ env ((x,p)::m) ad λa=>aJ a\/r.J a) p v:=a6.Fc aq aX.F.st.g k₂ aa;refine bf _ A aL _ E ai oY.F.st oY.dp oY.p λu eb bD d9 eY=>?_;have du:=oY.ext d9 eY;refine aj _ A eb v u _ E (ai.le (c0 _)) eY du.F.st.low (zB.ext oY.F.st.g d9) bD λz c9 hz jo mL=>?_;rw[show z= .bool b from hz];have f3:=du.ext jo mL;have dR:=(((bC.ext az).trans Oj).trans (.ext d9)).trans (.ext jo);refine wpAny_truthy_bool ?_;induction b with
 |true=>exact wpAny_mono (af rfl s₀ W₀ aJ ad A c9 E ai f3) (λf s' o=>o.pre dR) λ_ _ e=>e
 |false=>exact wpAny_mono (I rfl s₀ W₀ aJ ad A c9 E ai f3) (λf s' o=>o.pre dR) λ_ _ e=>e
theorem yS:∀l:List (Str×Addr),(l.map (·.1)).zip (l.map λz=>Value.ref z.2)=l.map λz=>(z.1,Value.ref z.2):=by
 intro a9;induction a9 with
 |nil=>
  exact rfl
 |cons z r aw=>
  rw[map_cons,map_cons,zip_cons_cons,aw];rfl
theorem Kf{d b:Addr}{l:List (Str×Addr)}{y:Str}{t:Tok}{o:Obj}{Q:Unit->Shared->Prop}(av:y∉l.map (·.1))(aj:s.heap.get? d=some o)(aa:eI w l o)(hz:l.length<=1000)
  (h:∀h' bZ,SameBut d s.heap h'->h'.get? d=some bZ->cx bZ->eI w (l++[(y,b)]) bZ->Q () {s with heap:=h',toks:=s.toks+1}):wpAny (model prog w) A (setItem (.ref d) (.str y t) (.ref b)) Q E s:=by
 refine h8 aa λes k c1 ab ae aD=>?_;subst c1;have de:sizeLine=2 ^ 24:=rfl;have hlen:((l.map (·.1)).zip (es.map (·.val))).length<=sizeLine:=by
  rw[length_zip];refine Nat.le_trans (Nat.min_le_left _ _) ?_;rw[bO];exact bH ‹_› rfl
 refine wpAny_setItem_pairs (knd:=strKind prog w) (k:=y) isKey (qi aj ab ae).dictOf (λh' hD bL=>?_) hlen;refine h8 (tN hD) λjx k' dy bN hq pX=>?_;have ax:(l.map (·.1)).zip (es.map (·.val))=l.map λz=>(z.1,Value.ref z.2):=by
  rw[aD];exact yS l
 have aC:stored ((l.map (·.1)).zip (es.map (·.val))) y (.ref b)=(l++[(y,b)]).map λz=>(z.1,Value.ref z.2):=by
  rw[ax];unfold stored;rw[aI,map_append];rfl;intro q;refine ah (List.any_eq_true.mp q) λz hz nZ=>?_;refine ah (bA.mp hz) λua zC eM=>?_;subst eM;exact av (bA.mpr ⟨ua,zC,by exact eq_of_beq nZ⟩)
 rw[aC] at bN hq pX;replace bN:=bN;replace hq:=hq;replace pX:=pX;have a8:((l++[(y,b)]).map λz=>(z.1,Value.ref z.2)).map (·.1)=(l++[(y,b)]).map (·.1):=by rw[dW];rfl
 have bX:((l++[(y,b)]).map λz=>(z.1,Value.ref z.2)).map (·.2)=(l++[(y,b)]).map λz=> .ref z.2:=by rw[dW];rfl
 rw[a8] at bN hq;rw[bX] at pX;exact h h' _ bL dy yl ⟨jx,k',rfl,bN,hq,pX⟩
theorem IC{o e:Expr}{x:Str}(he:fa prog w n env m r e Ψ)(ar:env.kindOf x=some .local\/(env.kindOf x=some .cell/\(env.cells.lookup x).isSome=true))
  (h:∀p r',Ψ p r'->∃cs d l b y,b0 r' (ay cs)/\p= .val (.ref b)/\aV prog w n env m (ay cs) o (.val (.ref d))/\aV prog w n env m (ay cs) me (.str y)/\(d,eI w l)∈cs/\y∉l.map (·.1)/\l.length<=1000/\Φ .next ((x,.val (.ref b))::m) (ay (setC cs d (eI w (l++[(y,b)])))))
  (S2:(assignEach [.Subscript o me fQ,.Name x px] env).map (·.2)=[PySem.assign (.Subscript o me fQ) env,PySem.assign (.Name x px) env]) (hw:swappedStores [.Subscript o me fQ,.Name x px] e env=pure none):
  ef prog w n env m r (.Assign [.Subscript o me fQ,.Name x px] e pos) Φ:=λs₀ W₀ aJ ad A s E ai F=>by
 refine wpAny_Assign_two (he s₀ W₀ aJ ad A s _ E ai F λp r' v au aX k₁ aq eT cU=>?_) S2 hw;refine QB (h p r' cU) λcs d l b y hle eJ aj rl hd av hz hE=>?_;subst eJ;rw[hle.vy] at k₁;replace aX:=aX.le hle;rw[show v= .ref b from aq];rw[arm_assign_Subscript];refine aH (wpAny_holding (aj _ A au _ E ai aX.F.st aX.dp aX.p λg0 aL l1 aR aY=>?_));rw[show g0= .ref d from l1];have bp:=aX.ext aR aY;refine aH (wpAny_holding (rl _ A aL _ E ai bp.F.st bp.dp bp.p λkv eb fK d9 eY=>?_));refine aP fK λt fi=>?_;subst fi;have du:=bp.ext d9 eY;refine ah (du.p.2 _ hd) λhX dv SN=>?_;refine aH (wpAny_standAt (aH (wpAny_holding (Kf av dv SN hz λh' bZ bL cS cY fS=>?_))));refine aE (du.setC (tk:=eb.toks+1) (p':=eI w (l++[(y,b)])) hd bL cS cY fS) λf3 lP=>?_;refine wpAny_release ?_;refine wpAny_assign_Name (f3.F.put (p:= .val (.ref b)) rfl trivial ar λgD iv o3=>?_);refine aE (f3.turn iv o3) λOJ OO=>?_;exact⟨ad,_,_,OJ,(((k₁.trans (.ext aR)).trans (.ext d9)).trans lP).trans OO,hE⟩
end
theorem b0.ex{r:Rs}(x:b0 r r')(h:aZ prog w n env m r' ss Φ):aZ prog w n env m r ss Φ:=h.weak x.1 x.2
theorem CP(aA:(br cs).Nodup){a:Addr}{p q:Obj->Prop}(ab:(a,p)∈cs)(ae:(a,q)∈cs):p=q:=by
 obtain⟨i,hi,ax⟩:=getElem_of_mem ab;obtain⟨j,aN,aC⟩:=getElem_of_mem ae;have e:(br cs)[i]'(by simpa using hi)=(br cs)[j]'(by simpa using aN):=by
  simp only[br,getElem_map,ax,aC]
 have:=(getElem_inj aA).mp e;subst this;rw[ax] at aC;exact(Prod.mk.inj aC).2
theorem jL{a:Addr}{p:Obj->Prop}(t2:br cs'=br cs)(gp:(a,p)∈cs')(hm:∀c∈cs',c=(a,p)\/c∈cs):b0 (ay (setC cs a p)) (ay cs'):=by
 refine⟨λz=>?_,λh aa=>?_⟩
 ·show z∈br (setC cs a p)↔z∈br cs';rw[p8,t2]
 ·refine aE aa λab ae=>?_;rw[p8, <-t2] at ab;replace ab:=ab;refine⟨ab,λc U=>?_⟩;have af:(a,p)∈setC cs a p:=by
   have:a∈br cs:=by rw[<-t2];exact nq gp
   refine ah (bA.mp this) λz hz aU=>?_;subst aU;exact bA.mpr ⟨z,hz,by rw[aQ rfl]⟩
  rcases hm c U with rfl |fq
  ·exact ae _ af
  ·by_cases q:c.1=a
   ·have:c.2=p:=CP ab (a:=a) (by rw[<-q];exact U) gp;exact ae c (by rw[show c=(a,p) from Prod.ext q this];exact af)
   ·exact ae c (bA.mpr ⟨c,fq,by rw[aI q]⟩)
theorem tT(aa:cs.Perm cs'):b0 (ay cs) (ay cs'):=by
 have sD:(br cs).Perm (br cs'):=aa.map _;exact⟨λz=>sD.mem_iff,λh Pz=>aE Pz λab ae=>⟨sD.nodup_iff.mp ab,λc U=>ae c (aa.mem_iff.mpr U)⟩⟩
structure dt where
 x:Str
 b:Addr
 gW:Addr
 c:Addr
 np:Int
 cO:List Str
 pin:Option Obj
structure bl where
 a:Addr
 dx:Addr
 d:Addr
 bq:List dt
 cR:Option (Addr×List Str)
 po:Int
 da:Int
noncomputable def lK(y:Str)(k:Int)(c:Addr):Nat->Option ak:=λi=>if i=0 then some (.str y) else if i=1 then some (.int k) else if i=2 then some (.val (.ref c)) else none
def ka:Option Obj->List Str->Obj->Prop
 |none,l=>cy l
 |some o,l=>λbZ=>bZ=o/\cy l bZ
noncomputable def eW(nd:dt):dU:=[(nd.gW,c7 []),(nd.b,g9 97 nd.gW (lK nd.x nd.np nd.c)),(nd.c,ka nd.pin nd.cO)]
noncomputable def PW:Option (Addr×List Str)->ak
 |some (a,_)=> .val (.ref a)
 |none=> .none
noncomputable def nu:Option (Addr×List Str)->dU
 |some (a,l)=>[(a,cy l)]
 |none=>[]
noncomputable def NZ(d:Addr)(r:ak)(po da:Int):List (Str×ak):=[("_node2info",.val (.ref d)),("_ready_nodes",r),("_npassedout",.int po),("_nfinished",.int da)]
noncomputable def bl.attrs(S:bl):List (Str×ak):=NZ S.d (PW S.cR) S.po S.da
noncomputable def bl.pairs(S:bl):List (Str×Addr):=S.bq.map λnd=>(nd.x,nd.b)
noncomputable def bl.cells(w:World)(S:bl):dU:=[(S.a,fP 194 S.dx),(S.dx,c7 S.attrs),(S.d,eI w S.pairs)]++nu S.cR++S.bq.flatMap eW
noncomputable abbrev bl.R(w:World)(S:bl):Rs:=ay (S.cells w)
def bl.iz(S:bl):Prop:=∀nd∈S.bq,nd.pin=none
structure bl.Good (S:bl):Prop where
 nd:(S.bq.map (·.x)).Nodup
 sys:(S.d==sysModules)=false
 pB:S.bq.length<=100
variable {S S':bl}
theorem bl.g4:(S.a,fP 194 S.dx)∈S.cells w:=by unfold bl.cells;exact .head _
theorem bl.g7:(S.dx,c7 S.attrs)∈S.cells w:=by unfold bl.cells;exact .tail _ (.head _)
theorem bl.vu:(S.d,eI w S.pairs)∈S.cells w:=by unfold bl.cells;exact .tail _ (.tail _ (.head _))
theorem bl.x4{a:Addr}{l:List Str}(h:S.cR=some (a,l)):(a,cy l)∈S.cells w:=by unfold bl.cells;rw[h];simp[nu]
theorem bl.vp{nd:dt}(h:nd∈S.bq){c:Addr×(Obj->Prop)}(U:c∈eW nd):c∈S.cells w:=by
 unfold bl.cells;exact b9 _ (List.mem_flatMap.mpr ⟨nd,h,U⟩)
theorem bl.p0{nd:dt}(h:nd∈S.bq):(nd.b,g9 97 nd.gW (lK nd.x nd.np nd.c))∈S.cells w:=S.vp h (by simp[eW])
theorem bl.pW{nd:dt}(h:nd∈S.bq):(nd.gW,c7 [])∈S.cells w:=S.vp h (by simp[eW])
theorem bl.Hy{nd:dt}(h:nd∈S.bq)(aa:nd.pin=none):(nd.c,cy nd.cO)∈S.cells w:=S.vp h (by simp[eW,aa,ka])
theorem bl.find(g:S.Good){nd:dt}(h:nd∈S.bq):S.pairs.lookup nd.x=some nd.b:=by
 have aA:(S.pairs.map (·.1)).Nodup:=by unfold bl.pairs;rw[dW];exact g.nd
 exact vz (y:=(nd.x,nd.b)) aA (bA.mpr ⟨nd,h,rfl⟩)
theorem bl.uniq(g:S.Good){nd eL:dt}(h:nd∈S.bq)(h':eL∈S.bq)(e:nd.x=eL.x):nd=eL:=by
 obtain⟨i,hi,a7⟩:=getElem_of_mem h;subst a7;obtain⟨j,aN,bk⟩:=getElem_of_mem h';subst bk;have:=(getElem_inj (xs:=S.bq.map (·.x)) (h₀:=by simpa using hi) (h₁:=by simpa using aN) g.nd).mp (by simpa using e);subst this;rfl
theorem vE{l:List (Str×Addr)}{y:Str}:dictAt (l.map (·.1)) (l.map λz=> .val (.ref z.2)) y=(l.lookup y).map λb=> .val (.ref b):=by
 unfold dictAt;induction l with
 |nil=>rfl
 |cons z r aw=>
  rw[map_cons,map_cons,zip_cons_cons,di,di];induction y==z.1 with
  |true=>rfl
  |false=>exact aw
noncomputable def bl.hx(S:bl)(y:Str)(f:dt->dt):bl:={S with bq:=S.bq.map λnd=>if nd.x=y then f nd else nd}
theorem bl.p7(g:S.Good){y:Str}{f:dt->dt}(hf:∀nd,(f nd).x=nd.x):(S.hx y f).Good:=by
 refine⟨?_,g.sys,by show(List.map _ _).length<=_;rw[bO];exact g.pB⟩;have:((S.hx y f).bq.map (·.x))=S.bq.map (·.x):=by
  show(List.map _ S.bq).map _=_;rw[dW];refine map_congr_left λnd _=>?_;show(if nd.x=y then f nd else nd).x=nd.x;split
  ·exact hf nd
  ·rfl
 rw[this];exact g.nd
theorem Ca{y:Str}{f:dt->dt}(hf:∀nd,(f nd).x=nd.x)(I:∀nd,(f nd).b=nd.b):(S.hx y f).pairs=S.pairs:=by
 unfold bl.pairs bl.hx;rw[dW];refine map_congr_left λnd _=>?_;show((if nd.x=y then f nd else nd).x,(if nd.x=y then f nd else nd).b)=_;split
 ·rw[hf,I]
 ·rfl
theorem v5(g:S.Good){nd:dt}(h:nd∈S.bq){f:dt->dt}(hf:∀nd,(f nd).x=nd.x)(I:∀nd,(f nd).b=nd.b)(hd:∀nd,(f nd).gW=nd.gW)(U:∀nd,(f nd).c=nd.c){a:Addr}{p:Obj->Prop}(gp:(a,p)∈eW (f nd))(hm:∀c∈eW (f nd),c=(a,p)\/c∈eW nd):
  b0 (ay (setC (S.cells w) a p)) ((S.hx nd.x f).R w):=by
 have iq:∀eL∈S.bq,(if eL.x=nd.x then f eL else eL)=f nd\/(if eL.x=nd.x then f eL else eL)=eL:=λeL h'=>by
  by_cases q:eL.x=nd.x
  ·have:=S.uniq g h' h q;subst this;exact .inl (aQ rfl)
  ·exact .inr (aI q)
 refine jL ?_ ?_ λc fq=>?_
 ·unfold bl.cells;rw[Ca hf I];show(([(S.a,fP 194 S.dx),(S.dx,c7 S.attrs),(S.d,eI w S.pairs)]++nu S.cR++(S.bq.map λeL=>if eL.x=nd.x then f eL else eL).flatMap eW).map λz=>z.1)=([(S.a,fP 194 S.dx),(S.dx,c7 S.attrs),(S.d,eI w S.pairs)]++nu S.cR++S.bq.flatMap eW).map λz=>z.1;rw[map_append,map_append (l₂:=S.bq.flatMap eW)];congr 1;rw[flatMap_map,map_flatMap,map_flatMap];congr 1;funext eL;split
  ·simp[eW,hd,I,U]
  ·rfl
 ·unfold bl.cells;refine b9 _ (List.mem_flatMap.mpr ⟨f nd,?_,gp⟩);exact bA.mpr ⟨nd,h,by rw[aQ rfl]⟩
 ·unfold bl.cells at fq ⊢;rw[Ca hf I] at fq;rcases List.mem_append.mp fq with q |q
  ·exact .inr (b6 _ q)
  ·refine ah (List.mem_flatMap.mp q) λeL o2 q=>?_;refine ah (bA.mp o2) λE5 Eo bz=>?_;subst bz;rcases iq E5 Eo with z |z
   ·rw[z] at q;replace q:=q;rcases hm c q with q |q
    ·exact .inl q
    ·exact .inr (b9 _ (List.mem_flatMap.mpr ⟨nd,h,q⟩))
   ·rw[z] at q;exact .inr (b9 _ (List.mem_flatMap.mpr ⟨E5,Eo,q⟩))
theorem DS(ab:S'.a=S.a)(ae:S'.dx=S.dx)(aD:S'.d=S.d)(bc:S'.bq=S.bq)(dz:S'.cR=S.cR):b0 (ay (setC (S.cells w) S.dx (c7 S'.attrs))) (S'.R w):=by
 obtain⟨a,dx,d,bq,cR,po,da⟩:=S';dsimp only at ab ae aD bc dz;subst ab ae aD bc dz;refine jL rfl (by unfold bl.cells;exact .tail _ (.head _)) λc U=>?_;unfold bl.cells at U ⊢;simp only[cons_append,nil_append,mem_cons] at U ⊢;replace U:=U;rcases U with U |U |U
 ·exact .inr (.inl U)
 ·exact .inl U
 ·exact .inr (.inr (.inr U))
theorem EC{l l':List Str}(bf:S.cR=some (eo,l)):b0 (ay (setC (S.cells w) eo (cy l'))) (bl.R w {S with cR:=some (eo,l')}):=by
 obtain⟨a,dx,d,bq,cR,po,da⟩:=S;dsimp only at bf;subst bf;refine jL rfl (by unfold bl.cells;simp[nu]) λc U=>?_;unfold bl.cells at U ⊢;simp only[cons_append,nil_append,mem_cons,nu] at U ⊢;replace U:=U;rcases U with U |U |U |U |U
 ·exact .inr (.inl U)
 ·exact .inr (.inr (.inl U))
 ·exact .inr (.inr (.inr (.inl U)))
 ·exact .inl U
 ·exact .inr (.inr (.inr (.inr (.inr U))))
section
variable {prog:Program} {w:World} {n:Nat} {env:Env} {m:Loc} {cs:dU} {r:Rs} {Φ:dn->Loc->Rs->Prop}
theorem I4{l:List ak}(hz:l.length<=sizeLine):Cl prog w n (.type "tuple") [.bw l] (.tup l):=λW A s _ Q E ai g low fm h=>by
 refine bj fm λv _ ax aq a8=>?_;subst ax;rw[show _=[] from a8];refine cg aq λa vs k aU aW aj bb=>?_;subst aU;refine call_tuple_list (items:=⟨vs⟩) ⟨_,aj,rfl,k,rfl⟩ (λh' ar=>?_) (by show vs.length<=_;rw[<-bb.len];exact hz);have az:Ext s {s with heap:=h'}:=⟨⟨h',s.toks,rfl⟩,.of ar⟩
 have aF:=g.keeps ar;have aR:Ext {s with heap:=h'} {s with heap:=h'.push {cls:= .type "tuple",data:= .seq ⟨vs⟩}}:= .push ..;refine h _ _ ⟨h'.objs.size,vs,0,rfl,λq=>?_,dc _ rfl,(bb.ext g az).ext aF aR⟩ (az.trans aR) (aF.push _);refine aE (low _ q) λa7 _=>?_;refine ah a7 λo e _=>?_;have:=ar _ _ e;rw[er] at this;injection this
theorem HX(l:Addr)(o:Obj)(items:Array Value)(k:Nat)(U:o.cls= .type "list")(hd:o.data= .seq items k)(Qg:(items.size:Int) < 2 ^ 63):
  Meets (Builtin.«bool.__new__» ⟨[.type "bool",.ref l],[]⟩) (λ_ R s=>s.heap.get? l=some o/\R (.ok (.ret (.bool (!items.isEmpty)))) {s with toks:=s.toks+1+1}):=
 .of_wp λprog w A R s h=>by
  obtain⟨aa,g,d,tk,os⟩:=s;refine aE h λaM h=>?_;have f1:=PySem.F.conv_sub_bool;have ao:aa.IsList l items:=⟨o,aM,U,k,hd⟩
  repeat (any_goals (first |assumption |(with_reducible refine wpAny_truthy_list ao Qg ?_) |wp_step))
  all_goals first |exact⟨_,rfl,h⟩ |exact h |skip
theorem JE{l:List ak}(hz:l.length<=sizeLine):Cl prog w n (.type "bool") [.bw l] (.bool (!l.isEmpty)):=λW A s _ Q E ai g low hH h=>by
 refine bj hH λv _ ax aq a8=>?_;subst ax;rw[show _=[] from a8];refine cg aq λa vs k bk aW aj bb=>?_;subst bk;have:(!(⟨vs⟩:Array Value).isEmpty)= !l.isEmpty:=by
  have:=bb.len
  (induction l)<;>(induction vs)<;>simp_all
 refine call_bool_1 (HX a _ ⟨vs⟩ k rfl rfl (fits63 bb.len hz)) ⟨aj,?_⟩;rw[this];exact⟨rfl,h _ _ rfl (.tok s _) g⟩
theorem KA{a b:Expr}{x y:Bool}(af:aV prog w n env m r a (.bool x))(I:x=false->aV prog w n env m r b (.bool y)):aV prog w n env m r (.BoolOp .Or [a,b] pos) (.bool (x||y)):=λW A s Q E ai st a0 aa h=>by
 refine PyProof.Rows.BoolOp_or (af W A s _ E ai st a0 aa λv au aq az aF=>?_);rw[show v= .bool x from aq];refine wpAny_truthy_bool ?_;induction x with
 |true=>exact h _ _ rfl az aF
 |false=>exact PyProof.Rows.BoolOp_one (I rfl W A au Q E ai (st.ext az aF) a0 (Rs.ext a0 st.low az aa) λv s' aq e g=>h v s' aq (az.trans e) g)
theorem MG{a:Addr}{k:Nat}(ai:bK 0 A)(g:G w s.heap)
  (aj:s.heap.get? a=some {cls:= .type "list",data:= .seq ⟨vs⟩ k}) (hs:bJ w s.heap W ps vs)
  (h:∀(bh:Addr) (fp wr:List Addr) (P:Nat->Value->Prop) (T:Nat->Heap->Prop) (aL:Shared),Ext s aL->G w aL.heap->Walks prog w A bh fp wr ps.length P T->T 0 aL.heap->(∀b∈wr,s.heap.get? b=none)->(∀b∈fp,(∃o,aL.heap.get? b=some o)/\¬cf b)->(∀i h,T i h->∀b∈wr,∃o,h.get? b=some o/\cx o)->(∀b∈fp,b∈wr\/b=a)->
   (∀i u,P i u->∃q,ps[i]? =some q/\a6 w s.heap W q u)->Q (.ref bh) aL):wpAny (model prog w) A (pyIter (.ref a)) Q E s:=by
 have ao:s.heap.IsList a ⟨vs⟩:=⟨_,aj,rfl,k,rfl⟩
 refine wpAny_pyIter_list ao ?_;have bY:a≠s.heap.objs.size:=Nat.ne_of_lt (lt_size aj);have aW:=Walks.list (prog:=prog) (w:=w) ai.calm s.heap.objs.size a bY ⟨vs⟩;have e:(⟨vs⟩:Array Value).size=ps.length:=hs.len.symm;rw[e] at aW;refine h _ _ _ _ _ _ (.push ..) (g.push _) aW ⟨⟨_,dc _ rfl,rfl,rfl⟩,ao.push _⟩ (λb I=>?_) (λb I=>?_) (λi h bE b I=>?_) (λb I=>?_) λi u bD=>?_
 ·simp at I;subst I;exact er _
 ·simp at I;rcases I with rfl |rfl
  ·exact⟨⟨_,dc _ rfl⟩,g.fu (er _)⟩
  ·exact⟨⟨_,dV _ aj⟩,g.fY aj eG⟩
 ·simp at I;subst I;refine aE bE λbz _=>?_;refine dK bz λo ax aC _=>?_;exact⟨o,ax,.inl (by rw[aC];decide)⟩
 ·simp at I;rcases I with rfl |rfl
  ·exact .inl (by exact .head _)
  ·exact .inr rfl
 ·exact hs.at' (by simpa using bD)
def ur(prog:Program)(w:World)(c:Addr)(o:Obj)(l:List Str):Prop:=∀(W:Addr->Prop) (A:Around) (s:Shared) (Q:Value->Shared->Prop) (E:Value->Shared->Prop),bK 0 A->G w s.heap->s.heap.get? c=some o->
  (∀(bh:Addr) (fp wr:List Addr) (P:Nat->Value->Prop) (T:Nat->Heap->Prop) (aL:Shared),Ext s aL->G w aL.heap->Walks prog w A bh fp wr (aB l).length P T->T 0 aL.heap->(∀b∈wr,s.heap.get? b=none)->(∀b∈fp,(∃o,aL.heap.get? b=some o)/\¬cf b)->(∀i h,T i h->∀b∈wr,∃o,h.get? b=some o/\cx o)->(∀b∈fp,b∈wr\/b=c)->
   (∀i u,P i u->∃q,(aB l)[i]? =some q/\a6 w s.heap W q u)->Q (.ref bh) aL)->wpAny (model prog w) A (pyIter (.ref c)) Q E s
theorem ur.list{c:Addr}{o:Obj}{l:List Str}(aj:cy l o):ur prog w c o l:=λW A s Q E ai g U h=>by
 refine dO aj λvs k b7 bb=>?_;subst b7;exact MG ai g U bb.uN h
theorem ur.dict{c:Addr}{o:Obj}{l:List (Str×Addr)}(iQ:(c==sysModules)=false)(aj:eI w l o):ur prog w c o (l.map (·.1)):=λW A s Q E ai g U h=>by
 refine h8 aj λes k cC ab ae aD=>?_;subst cC;refine C5 (vl:=True) (W:=λb=>b≠c) ai g U ab ae iQ (λ_ q=>q rfl) λbh fp wr P T aL e aY aW bE a1 a2 dF fh kT=>h bh fp wr P T aL e aY aW bE a1 a2 dF (λb I=>(fh b I).imp id λq=>Decidable.not_not.mp (q.2 trivial)) λi u bD=>?_;refine ah (kT i u bD) λq aG aq=>?_;refine ah (hv (eP aG)) λy _ c2=>?_;subst c2;exact⟨_,aG,aq⟩
theorem Co{K:Around->Prop}(bx:∀A,K A->bK n A){x:Str}{iter:Expr}{c:Addr}{l:List Str}{p:Obj->Prop}(inv:Obj->Nat->Loc->Rs->Prop)(hit:aV prog w n env m (ay cs) iter (.val (.ref c)))(U:(c,p)∈cs)(aa:∀o,p o->ur prog w c o l)
  (ar:env.kindOf x=some .local\/(env.kindOf x=some .cell/\(env.cells.lookup x).isSome=true)) (h0:∀o,p o->∃r',r'.J=(ay cs).J/\(∀h,(ay cs).P h->h.get? c=some o->r'.P h)/\inv o 0 m r')
  (z4:∀o j m' r' h,inv o j m' r'->r'.P h->h.get? c=some o)
  (turn:∀o j p m' r',(aB l)[j]? =some p->inv o j m' r'->bt prog w K env ((x,p)::m') r' body (pN (inv o (j+1)) Φ))
  (done:∀o m' r',inv o (aB l).length m' r'->bt prog w K env m' r' orelse Φ) (hs:∀v,foldedSetIterable iter env v=pure v):dB prog w K env m (ay cs) (.For (.Name x px) iter body orelse pos) Φ:=λs₀ W₀ aJ ad A s E ai F=>by
 refine wpAny_For (hit _ A s _ E (bx A ai) F.F.st F.dp F.p λi9 au aq az aF=>?_) hs;rw[show i9= .ref c from aq];have aX:=F.ext az aF;refine ah (aX.p.2 _ U) λo aj lU=>?_;refine dK (h0 _ lU) λr' a0 AS hi=>?_;have EL:bR w s₀ env W₀ aJ ad m r' au:=⟨a0▸aX.F,a0▸aX.fM,AS _ aX.p aj⟩
 refine aa o lU (bU W₀ env m ad λa=>aJ a\/r'.J a) A au _ E ((bx A ai).le (c0 _)) aF aj λbh fp wr P T aL aR aY aW bE fb dP dC kf b5=>?_;have bp:=EL.nL aR aY (wr:=wr) λa af=>⟨fb a af,dC 0 _ bE a af,(dP a (aW.sub a af)).2⟩
 refine codeAny_mono (C0 (E:=E) (m₁:=m) (je:=ad) (r₁:=r') (inv _) ai aF (λa af=>aE (EL.F.st.low a (.dw (.inl af))) λP8 _=>ah P8 λo e _=>⟨o,e⟩) bp (.ext aR) aW bE fb (λb I=>(dP b I).2) dC (λb I=>(kf b I).imp id λq=> .inr ⟨_,λj m' eR h hi aa=>q▸z4 _ j m' eR h hi aa⟩) b5 (λp aa=>by refine ah (hv aa) λy _ c1=>?_;subst c1;exact trivial) ar hi (turn _) (done _)) λz s' o=>?_;induction z with
 |error e=>exact o
 |ok f=>
  have:cE env m ad r'=cE env m ad (ay cs):=by unfold cE;rw[a0]
  rw[this] at o;exact jk.pre (.ext az) o
theorem II{x:Str}{iter:Expr}{c:Addr}{l:List Str}(inv:Obj->Nat->Loc->Rs->Prop)(hit:aV prog w n env m (ay cs) iter (.val (.ref c)))(U:(c,cy l)∈cs)
  (ar:env.kindOf x=some .local\/(env.kindOf x=some .cell/\(env.cells.lookup x).isSome=true)) (h0:∀o,cy l o->∃r',r'.J=(ay cs).J/\(∀h,(ay cs).P h->h.get? c=some o->r'.P h)/\inv o 0 m r')
  (z4:∀o j m' r' h,inv o j m' r'->r'.P h->h.get? c=some o)
  (turn:∀o j p m' r',(aB l)[j]? =some p->inv o j m' r'->aZ prog w n env ((x,p)::m') r' body (pN (inv o (j+1)) Φ))
  (done:∀o m' r',inv o (aB l).length m' r'->aZ prog w n env m' r' orelse Φ) (hs:∀v,foldedSetIterable iter env v=pure v):ef prog w n env m (ay cs) (.For (.Name x px) iter body orelse pos) Φ:=
 Co (λ_ h=>h) inv hit U (λ_ aj=> .list aj) ar h0 z4 turn done hs
end
def jd(o bZ:Obj):Prop:=∃bQ,bZ={o with slots:=bQ}
def oO(o:Obj):Prop:=∀vs,o.data≠ .fields vs
section
variable {prog:Program} {w:World} {n:Nat} {env:Env} {m:Loc} {cs:dU} {r:Rs} {Φ:dn->Loc->Rs->Prop}
theorem mE.le(x:b0 r' eR)(B:mE w s₀ W₀ r r' s s'):mE w s₀ W₀ r eR s s':=
 ⟨B.ext,B.g,x.2 _ B.p,λa af=>B.j a ((x.1 a).mpr af),λb o I aM e=>⟨(B.k b o I aM e).1,λq=>(B.k b o I aM e).2 ((x.1 b).mpr q)⟩⟩
theorem oK{L a:Addr}{p:Obj->Prop}:a∈br (cs++[(L,p)])↔a∈br cs\/a=L:=by
 unfold br;rw[map_append,mem_append];exact or_congr Iff.rfl (by simp)
theorem bR.Mu{ad:Str->Addr}(F:bR w s₀ env W₀ aJ ad m (ay cs) s):∃o,s.heap.get? env.locals=some o/\oO o/\
  (∀a,((aJ a\/b4 env m ad a)/\a≠env.locals)\/(ay (cs++[(env.locals,jd o)])).J a->s₀.heap.get? a=none/\(∃o,s.heap.get? a=some o/\cx o)/\¬cf a)/\
  (∀a,((aJ a\/b4 env m ad a)/\a≠env.locals)->¬(ay (cs++[(env.locals,jd o)])).J a)/\(ay (cs++[(env.locals,jd o)])).P s.heap:=by
 refine uo F.F.ns λcH o es ep aj hd _=>?_;refine aE F.callee λhl hK=>?_;have vm:env.locals∉br cs:=λq=>(F.F.ec _ (.inr q)).2.1 rfl;refine⟨o,aj,λvs q=>(by rw[hd] at q;injection q),λa af=>?_,λa af q=>?_,?_,λc U=>?_⟩
 ·rcases af with af |af
  ·exact hl a (.inl af.1)
  ·rcases oK.mp af with af |rfl
   ·exact hl a (.inr af)
   ·exact hl _ (.inl (.inr (.inl rfl)))
 ·rcases oK.mp q with q |q
  ·exact hK a af.1 q
  ·exact af.2 q
 ·unfold br;rw[map_append,nodup_append];refine⟨F.p.1,by simp,λa af b I q=>?_⟩;have:b=env.locals:=by exact cQ.mp I
  exact vm (this▸q▸af)
 ·rcases List.mem_append.mp U with U |U
  ·exact F.p.2 c U
  ·rw[cQ.mp U];exact⟨o,aj,o.slots,rfl⟩
theorem bR.OT{ad:Str->Addr}{o:Obj}(F:bR w s₀ env W₀ aJ ad m (ay cs) s)(aj:s.heap.get? env.locals=some o)(B:mE w s₀ W₀ (ay (cs++[(env.locals,jd o)])) (ay (cs'++[(env.locals,jd o)])) s s'):
  bR w s₀ env W₀ aJ ad m (ay cs') s'/\bC (cE env m ad (ay cs)) (cE env m ad (ay cs')) s s':=by
 have dR:∀b o,¬(ay cs).J b->b≠env.locals->¬cf b->s.heap.get? b=some o->s'.heap.get? b=some o/\¬(ay cs').J b:=λb o ab ae aD e=>by
  refine aE (B.k b o (λq=>(oK.mp q).elim ab ae) aD e) λj3 hM=>?_;exact⟨j3,λq=>hM (oK.mpr (.inl q))⟩
 have p':(ay cs').P s'.heap:=by
  refine aE B.p λab ae=>?_;unfold br at ab;rw[map_append,nodup_append] at ab;exact⟨ab.1,λc U=>ae c (b6 _ U)⟩
 have xZ:∀a,aJ a->¬(ay cs).J a/\a≠env.locals:=λa af=>⟨F.fM a af,(F.F.ec a (.inl af)).2.1⟩
 refine⟨⟨F.F.zx (λa af=>?_) ?_ (λb o ab ae aD e=>(dR b o (λq=>ab (.inr q)) ae aD e).1) (λbZ e=>?_) B.g,λa af q=>?_,p'⟩,λb o I aM e=>?_⟩
 ·rcases af with af |af
  ·refine aE (F.F.st.low a (.dw (.inl af))) λaU aM=>?_;refine ah aU λo e cF=>?_;exact⟨.inl (.inl af),o,(dR a o (xZ a af).1 (xZ a af).2 aM e).1,cF⟩
  ·have aN:=B.j a (oK.mpr (.inl af));refine⟨?_,aN.2.1⟩;by_cases bf:(ay cs).J a
   ·exact .inl (.inr bf)
   ·by_cases ao:a=env.locals
    ·exfalso;refine aE B.p λab ae=>?_;unfold br at ab;rw[map_append,nodup_append] at ab;exact ab.2.2 a af env.locals (by exact .head _) ao
    ·refine .inr ⟨?_,aN.2.2⟩;induction e:s.heap.get? a with
     |none=>rfl
     |some o=>exact absurd af (dR a o bf ao aN.2.2 e).2
 ·refine cn B.ext.same λh tk e=>?_;refine cn F.F.same λh' oc aO=>?_;exact⟨h,tk,by rw[e,aO]⟩
 ·rw[aj] at e;obtain rfl:=bT e;refine ah (B.p.2 _ (b9 _ (.head _))) λbZ aO bk=>?_;refine aP bk λbQ a7=>?_;subst a7;exact⟨bQ,aO⟩
 ·refine aE (F.F.st.low a (.dw (.inl af))) λbz aM=>?_;refine ah bz λo e _=>?_;exact(dR a o (xZ a af).1 (xZ a af).2 aM e).2 q
 ·have ab:¬(ay cs).J b:=λq=>I (.inr q);have ae:b≠env.locals:=λq=>I (.inl (.inl q));refine aE (dR b o ab ae aM e) λj3 hM=>?_;exact⟨j3,λq=>q.elim (λq=>I (.inl q)) hM⟩
theorem bR.wx{ad:Str->Addr}{f:Addr} 
  (h:∀o,oO o->h2 prog w n fr f args (ay (cs++[(env.locals,jd o)])) (λp r'=>∃cs',b0 r' (ay (cs'++[(env.locals,jd o)]))/\Ψ p (ay cs'))) (ai:bK n A) (d3:A.frames=some fr) (F:bR w s₀ env W₀ aJ ad m (ay cs) s) (bb:bJ w s.heap (bU W₀ env m ad λa=>aJ a\/(ay cs).J a) args vs) (cN:dA args)
  (a4:∀p r' v s',bR w s₀ env W₀ aJ ad m r' s'->bC (cE env m ad (ay cs)) (cE env m ad r') s s'->a6 w s'.heap (bU W₀ env m ad λa=>aJ a\/r'.J a) p v->cb p->Ψ p r'->Q v s'):codeAny (model prog w) A (.call (.ref f) ⟨vs,[]⟩) (ot Q E) s:=by
 refine mO F.Mu λo aj hT hl hK oF=>?_;refine h o hT s₀ s W₀ (λa=>(aJ a\/b4 env m ad a)/\a≠env.locals) A vs Q E ai d3 F.F.same F.F.keep F.F.dJ F.F.st.g F.F.e8 hl hK oF (bb.less cN λa af=>?_) λp v r' s' cU aq eT B=>?_
 ·rcases af with af |af |af
  ·exact .m1 af
  ·rcases af.1 with af |af
   ·exact .dw (.inl af)
   ·exact af.j2
  ·rcases oK.mp af with af |rfl
   ·exact .dw (.inr af)
   ·exact .inr (.inl rfl)
 ·refine ah cU λcs' le cU=>?_;refine aE (F.OT aj (B.le le)) λaS k'=>?_;refine a4 p _ v s' aS k' (aq.less eT λa af=>?_) eT cU;by_cases ao:a=env.locals
  ·exact .inr (.inr ((le.1 a).mpr (oK.mpr (.inr ao))))
  ·rcases af.split with q |(q |q) |q
   ·exact .inl q
   ·exact .inr (.inl ⟨.inl q,ao⟩)
   ·exact .inr (.inr ((le.1 a).mpr (oK.mpr (.inl q))))
   ·exact .inr (.inl ⟨.inr q,ao⟩)
theorem Cp{o:Expr}{name:Str}{x dx f:Addr}{kv:List (Str×ak)}{of:Obj}(aj:aV prog w n env m (ay cs) o (.val (.ref x)))(ag:(x,fP C dx)∈cs)(hd:(dx,c7 kv)∈cs)
  (dj:plainGet (KF w) C name=true) (hf:findIn (KF w) (.ref C) name=some (some (.ref f))) (iT:isFn (KF w) (.ref f)=true) (fK:kv.lookup name=none) (nT:(KF w).lookup f=some of) (nQ:of.data= .func fd)
  (af:dd prog w n env m (ay cs) pos es ps) (iW:dA ps) (hm:∀o,oO o->h2 prog w n fr f (.val (.ref x)::ps) (ay (cs++[(env.locals,jd o)])) (λp r'=>∃cs',b0 r' (ay (cs'++[(env.locals,jd o)]))/\Ψ p (ay cs')))
  (cv:backTo pos (starEach es env)=[]\/∃x r,backTo pos (starEach es env)=(false,x)::r)
  (fo:eval (.Call (.Attribute o name apos) es [] pos) env=(do
   let g0<-eval o env
   standAt apos.atName
   let(f,first)<-holding [g0] (getMethod g0 name eU)
   callWith pos f first (backTo pos (starEach es env)) (backToKw pos (keywordEach [] env)))):jn prog w (ph n fr) env m (ay cs) (.Call (.Attribute o name apos) es [] pos) Ψ:=
 Ct (λ_ h=>h.1) aj ag hd dj hf iT fK nT nQ af (λs₀ W₀ aJ ad A s vs Q E ai F bb a4=>F.wx hm ai.1 ai.2 bb ⟨trivial,iW⟩ a4) cv fo
theorem jn.wx{f:Addr}{of:Obj}(iD:Ev prog w n env m eE (.val (.ref f)))(nT:(KF w).lookup f=some of)(nQ:of.data= .func fd)
  (af:dd prog w n env m (ay cs) pos es ps) (iW:dA ps) (hm:∀o,oO o->h2 prog w n fr f ps (ay (cs++[(env.locals,jd o)])) (λp r'=>∃cs',b0 r' (ay (cs'++[(env.locals,jd o)]))/\Ψ p (ay cs')))
  (cv:backTo pos (starEach es env)=[]\/∃x r,backTo pos (starEach es env)=(false,x)::r)
  (fo:eval (.Call eE es [] pos) env=(do callWith pos (<-eval eE env) [] (backTo pos (starEach es env)) (backToKw pos (keywordEach [] env)))):jn prog w (ph n fr) env m (ay cs) (.Call eE es [] pos) Ψ:=λs₀ W₀ aJ ad A s Q E ai F a4=>by
 rw[fo];refine aH (iD _ A s _ E ai.1 F.F.st λv au aq az aF=>?_);rw[show v= .ref f from aq];have aX:=F.ext az aF;refine Calls.callWith_function (o:=of) (fd:=fd) (yi cv (af _ A au _ E ai.1 aX.F.st aX.dp aX.p λvs aL bb aR aY=>?_));have bp:=aX.ext aR aY;refine⟨⟨aY.K _ _ nT,nQ⟩,?_⟩;refine wpAny_call (bp.wx hm ai.1 ai.2 bb iW λp r' v s' aS k' aq eT cU=>?_);exact a4 p r' v s' aS (((bC.ext az).trans (.ext aR)).trans k') aq eT cU
end
def h6(prog:Program)(w:World)(S:Str->Bool)(k:Nat)(o:Obj):Prop:=∀(h:Heap) (a:Addr),h.get? a=some o->h.SetOf (strKind prog w) a S k
section
variable {prog:Program} {w:World} {n:Nat} {env:Env} {m:Loc} {cs:dU} {r:Rs} {Φ:dn->Loc->Rs->Prop}
theorem MP{a:Addr}{S:Str->Bool}{k:Nat}{o:Obj}(x:h.SetOf (strKind prog w) a S k)(e:h.get? a=some o):h6 prog w S k o:=by
 refine wR x λbZ es ep t aj q=>?_;rw[e] at aj;obtain rfl:=bT aj;exact λh' nh aO=>⟨o,es,ep,t,aO,q⟩
theorem JW{a:Addr}{S:Str->Bool}{k:Nat}{o:Obj}(x:h.SetOf (strKind prog w) a S k)(e:h.get? a=some o):cx o:=by
 refine wM x λbZ es ep t aj q hd _=>?_;rw[e] at aj;obtain rfl:=bT aj;exact .inr λvs q=>by rw[hd] at q;injection q
theorem Iq(iD:Ev prog w n env m eE (.val (.type "set")))
  (fo:eval (.Call eE [] [] pos) env=(do callWith pos (<-eval eE env) [] (backTo pos (starEach [] env)) (backToKw pos (keywordEach [] env)))):fa prog w n env m (ay cs) (.Call eE [] [] pos) (λp r'=>∃D,p= .val (.ref D)/\r'=ay (cs++[(D,h6 prog w (λ_=>false) 0)])):=λs₀ W₀ aJ ad A s Q E ai F a4=>by
 rw[fo];refine aH (iD _ A s _ E ai F.F.st λv au aq az aF=>?_);rw[show v= .type "set" from aq];have aX:=F.ext az aF;refine PySem.callWith_type rfl (g8 (λx ag=>absurd ag b8) (Calls.spliced_nil (call_set_0 λled=>?_)));have dj:(au.heap.push {cls:= .type "set",dict:=none,data:= .set #[] 0 (.fresh 0 0 led)}).get? au.heap.objs.size=some {cls:= .type "set",dict:=none,data:= .set #[] 0 (.fresh 0 0 led)}:=dc _ rfl;refine aE (aX.mJ (p:=h6 prog w (λ_=>false) 0) (.push ..) (aX.F.st.g.push _) (er _) dj (.inr λ_ q=>by injection q) (λh a e=>(PyProof.Rows.setObjOf_fresh (knd:=strKind prog w) led).setOf e (by unfold scanBound;exact Nat.zero_lt_succ _))) λaS k'=>?_;exact a4 (.val (.ref au.heap.objs.size)) _ _ _ aS ((bC.ext az).trans k') rfl trivial ⟨_,rfl,rfl⟩
theorem Cz{l e:Expr}{y:Str}{a:Addr}{S:Str->Bool}{k:Nat}(ao:aV prog w n env m (ay cs) l (.str y))(bf:aV prog w n env m (ay cs) e (.val (.ref a)))(af:(a,h6 prog w S k)∈cs)(hm:behindInMarks .In e=false):gr prog w n env m (ay cs) (.Compare l [.In] [e] pos) (S y):=λW A s Q E ai x a0 aa h=>by
 refine wpAny_isTrue_Compare1 (ao W A s _ E ai x a0 aa λv au aq az aF=>bf W A au _ E ai (x.ext az aF) a0 (Rs.ext a0 x.low az aa) λu aL bD aR aY=>?_) hm;refine aP aq λt aU=>?_;subst aU;rw[show u= .ref a from bD];have c4:=x.ext az aF;refine ah ((Rs.ext (r:=ay cs) a0 c4.low aR (Rs.ext a0 x.low az aa)).2 _ af) λo aj jD=>?_;refine wpAny_inSet_of (knd:=strKind prog w) (k:=y) (strKind_is prog w y t) rfl (jD _ _ aj) ?_;exact wpAny_truthy_bool (h _ ((az.trans aR).trans (.tok aL _)) aY)
theorem y5:Meth "set" "add" "set.add":=⟨PySem.F.plainAttrs_set,PySem.F.slot_set_add,PySem.F.type_set_add⟩
theorem IE{o e:Expr}{y:Str}{a:Addr}{S:Str->Bool}{k:Nat}(aj:aV prog w n env m (ay cs) o (.val (.ref a)))(he:dd prog w n env m (ay cs) pos [e] [.str y])(af:(a,h6 prog w S k)∈cs)(ar:k+1 < 4096)
  (h:Φ .next m (ay (setC cs a (h6 prog w (λz=>S z||decide (z=y)) (if S y then k else k+1))))) (cv:(starEach [e] env).any (·.1)=false)
  (gS:attributeBase o "add" env (eval o env)=eval o env)
  (iS:((backTo pos (starEach [e] env)).all (λx=> !x.1)&&(backToKw pos (keywordEach [] env)).all (λx=>x.1.isSome)&&decide ([e].length+([]:List Keyword).length+(if([]:List Keyword).isEmpty then 0 else 1) < 30))=true)
  (gA:(apos.endLine==pos.line)=true) (hi:interactive env=false) (hs:swapsWith (.Call (.Attribute o "add" apos) [e] [] pos) none fQ.line env=pure false):
  ef prog w n env m (ay cs) (.Expr (.Call (.Attribute o "add" apos) [e] [] pos) fQ) Φ:=λs₀ W₀ aJ ad A s E ai F=>by
 refine wpAny_Expr_any ?_ hi hs;refine wpAny_Call_method gS iS gA y5.ho y5.slot y5.ty (aj _ A s _ E ai F.F.st F.dp F.p λv au aq az aF=>?_);rw[show v= .ref a from aq];have aX:=F.ext az aF;refine ah (aX.p.2 _ af) λob gq jD=>?_;refine⟨(jD _ _ gq).typeIs,(jD _ _ gq).noDict,?_⟩;have I:=ja (pos:=pos) cv;refine Calls.callWith_builtin (j5 I) (g8 I (he _ A au _ E ai aX.F.st aX.dp aX.p λvs aL bb aR aY=>?_));have bp:=aX.ext aR aY;refine bj bb λv1 _ dy a7 hq=>?_;refine aP a7 λt bN=>?_;subst dy bN;rw[show _=[] from hq];refine ah (bp.p.2 _ af) λET nD Oh=>?_;refine call_set_add (knd:=strKind prog w) (k:=y) (strKind_is prog w y t) rfl (Oh _ _ nD) (by show k+1 < 4096;exact ar) λh' bL pg=>?_;refine wR (id pg) λbZ es ep tt cS q=>?_;refine aE (bp.setC (tk:=aL.toks+1) (p':=h6 prog w (λz=>S z||decide (z=y)) (if S y then k else k+1)) af bL cS (JW pg cS) (MP pg cS)) λdu fZ=>?_;exact⟨ad,m,_,du,((bC.ext az).trans (.ext aR)).trans fZ,h⟩
end
theorem Lb:typeLookup (.type "list_iterator") "__getattribute__"=pure (some (.builtin "object.__getattribute__")):=by rw[typeLookup_type,builtinLookup_eq_fast];kernel_rfl
theorem yw:Slot "list_iterator" "__getattribute__" "object.__getattribute__":=
 .of (owner:="object") (n:="__getattribute__") (by rw[typeLookup_type,builtinLookup_eq_fast];kernel_rfl) (by kernel_rfl) (by kernel_rfl) (by kernel_rfl)
  (by first |exact .inl (by decide+kernel) |exact .inr (by decide+kernel)) (by rw[isSubtype_type];kernel_rfl)
theorem JF:typeLookup (.type "list_iterator") "__next__"=pure (some (.builtin "list_iterator.__next__")):=by rw[typeLookup_type,builtinLookup_eq_fast];kernel_rfl
theorem yb:typeOf (.builtin "list_iterator.__next__")=pure (.type "wrapper_descriptor"):=by show builtinType _=_;rw[builtinType_eq_fast];kernel_rfl
theorem ym:Slot "wrapper_descriptor" "__get__" "wrapper_descriptor.__get__":=
 .of (owner:="wrapper_descriptor") (n:="__get__") (by rw[typeLookup_type,builtinLookup_eq_fast];kernel_rfl) (by kernel_rfl) (by kernel_rfl) (by kernel_rfl)
  (by first |exact .inl (by decide+kernel) |exact .inr (by decide+kernel)) (by rw[isSubtype_type];kernel_rfl)
theorem LI:typeLookup (.type "wrapper_descriptor") "__set__"=pure none:=by rw[typeLookup_type,builtinLookup_eq_fast];kernel_rfl
theorem Lq:typeLookup (.type "wrapper_descriptor") "__delete__"=pure none:=by rw[typeLookup_type,builtinLookup_eq_fast];kernel_rfl
theorem IM:entryFor table "wrapper_descriptor.__get__"=some Builtin.«wrapper_descriptor.__get__»:=entryFor_of_tree (by kernel_rfl)
theorem I9(a b c:Value):argsOk "wrapper_descriptor.__get__" ⟨[a,b,c],[]⟩:=by unfold argsOk;kernel_rfl
theorem IP:isSubtype (.type "list_iterator") (.type (".".intercalate ("list_iterator.__next__".cutAt '.').dropLast))=pure true:=by
 rw[show ".".intercalate ("list_iterator.__next__".cutAt '.').dropLast="list_iterator" by kernel_rfl,isSubtype_type];kernel_rfl
section
variable {prog:Program} {w:World} {A:Around} {E:Value->Shared->Prop} {h:Heap} {g:Array GenState} {d:Drawn} {t:Nat} {os:OsState} {a:Addr} {o:Obj}
noncomputable def mH(a:Addr):Obj:={cls:= .type "method-wrapper",data:= .fields #[.builtin "list_iterator.__next__",.ref a]}
theorem LL{R:Result->Shared->Prop}(ag:h.get? a=some o)(U:o.cls= .type "list_iterator")(aG:R (.ok (.ret (.ref h.objs.size))) ⟨h.push (mH a),g,d,t,os⟩):
  codeAny (model prog w) A (.call (.builtin "wrapper_descriptor.__get__") ⟨[.builtin "list_iterator.__next__",.ref a,.type "list_iterator"],[]⟩) R ⟨h,g,d,t,os⟩:=by
 have bE:(⟨h,g,d,t,os⟩:Shared).TypeIs (.ref a) "list_iterator":=⟨_,ag,U⟩
 have rg:(⟨h,g,d,t,os⟩:Shared).TypeIs (.builtin "list_iterator.__next__") "wrapper_descriptor":=yb;have f8:=IP;refine codeAny_call_builtin ym.plain IM (ym.check _ _ _ _ _ _ _ _ rg (I9 _ _ _) ?_);unfold Builtin.«wrapper_descriptor.__get__»
 repeat (any_goals (first |assumption |wp_step))
 all_goals exact aG
theorem JO{tk:Tok}{vs:Array Value}{Q:Fin->Shared->Prop}(ag:h.get? a=some {cls:= .type "list_iterator",data:= .fields vs})(aG:Q (.done (.ret (.ref h.objs.size))) ⟨h.push (mH a),g,d,t,os⟩):
  wpAny (model prog w) A (Builtin.«object.__getattribute__» ⟨[.ref a,.str "__next__" tk],[]⟩) Q E ⟨h,g,d,t,os⟩:=by
 have bE:(⟨h,g,d,t,os⟩:Shared).TypeIs (.ref a) "list_iterator":=⟨_,ag,rfl⟩
 have rg:(⟨h,g,d,t,os⟩:Shared).TypeIs (.builtin "list_iterator.__next__") "wrapper_descriptor":=yb;have f4:=JF;have UB:=yb;have V8:=ym.lookup;have Wa:=LI;have We:=Lq
 repeat (any_goals (first |assumption |wp_step))
 refine LL ag rfl ?_
 repeat (any_goals (first |assumption |wp_step))
theorem K1{vs:Array Value}(ag:h.get? a=some {cls:= .type "list_iterator",data:= .fields vs})(aG:∀eV,Q (.ref h.objs.size) ⟨h.push (mH a),g,d,eV,os⟩):
  wpAny (model prog w) A (getAttr (.ref a) "__next__" true) Q E ⟨h,g,d,t,os⟩:=by
 have bE:(⟨h,g,d,t,os⟩:Shared).TypeIs (.ref a) "list_iterator":=⟨_,ag,rfl⟩
 have f2:=Lb;have sZ:=yw.bind (.ref a);unfold getAttr
 repeat (any_goals (first |assumption |wp_step))
 refine codeAny_call_builtin yw.plain PySem.F.entry_object_getattribute (yw.check _ _ _ _ _ _ _ _ (show(⟨h,g,d,t+1,os⟩:Shared).TypeIs (.ref a) "list_iterator" from⟨_,ag,rfl⟩) (PySem.F.args_object_getattribute_2 _ _) (JO ag ?_))
 repeat (any_goals (first |assumption |wp_step))
 all_goals exact aG _
end
section
variable {prog:Program} {w:World} {A:Around} {E:Value->Shared->Prop} {s:Shared} {a wp c:Addr} {i k:Nat} {vs:List Value} {R:Result->Shared->Prop}
theorem Io{M:Model}{Q:Unit->Shared->Prop}(aG:Q () s):wpAny M A (checkBoundCall "list_iterator.__next__" ⟨[.ref a],[]⟩) Q E s:=by
 unfold checkBoundCall
 repeat (any_goals (first |assumption |wp_step))
noncomputable def nG(c:Addr)(i:Nat):Obj:={cls:= .type "list_iterator",data:= .fields #[.ref c,.int i 0]}
theorem Di(hw:s.heap.get? wp=some (mH a))
  (h:wpAny (model prog w) (A.under (.builtin "list_iterator.__next__" ⟨[.ref a],[]⟩)) (Builtin.«list_iterator.__next__» ⟨[.ref a],[]⟩) (λfin s'=>match fin with | .done f=>R (.ok f) s' | .again c'=>c'.quiet=true/\codeAny (model prog w) A c' R s') (λe s'=>R (.error e) s') s):
  codeAny (model prog w) A (.call (.ref wp) ⟨[],[]⟩) R s:=by
 refine codeAny_of_tree ?_;show wpAny _ A.in1 (callAny (.ref wp) ⟨[],[]⟩) _ _ s;unfold callAny;refine aH (wpAny_load hw ?_);show wpAny _ _ (do checkBoundCall "list_iterator.__next__" ⟨[.ref a],[]⟩;return<-again (.builtin "list_iterator.__next__" ⟨[.ref a],[]⟩)) _ _ s;refine aH (Io ?_);refine aH (bu (bu ⟨plainId_quiet slot_listiter_next.plain _,codeAny_builtin entry_listiter_next h⟩))
theorem KC{x:Value}(hw:s.heap.get? wp=some (mH a))(hi:s.heap.get? a=some (nG c i))(ao:s.heap.get? c=some {cls:= .type "list",data:= .seq ⟨vs⟩ k})(ag:vs[i]? =some x)
  (h:∀h',SameBut a s.heap h'->h'.get? a=some (nG c (i+1))->R (.ok (.ret x)) {s with heap:=h'}):codeAny (model prog w) A (.call (.ref wp) ⟨[],[]⟩) R s:=by
 refine Di hw ?_;show wpAny _ _ (field (.ref a) 0 >>=_) _ _ s;refine aH (wpAny_field hi (show(nG c i).data= .fields #[.ref c,.int i 0] from rfl) (x:= .ref c) rfl ?_);show wpAny _ _ (if(Value.ref c==Value.none)=true then _ else _) _ _ s;rw[aI (show¬((Value.ref c==Value.none)=true) from Bool.false_ne_true)];show wpAny _ _ (field (.ref a) 1 >>=_) _ _ s;refine aH (wpAny_field hi (show(nG c i).data= .fields #[.ref c,.int i 0] from rfl) (x:= .int i 0) rfl ?_);show wpAny _ _ (seqItems? (.ref c) >>=_) _ _ s;refine aH (wpAny_seqItems ao rfl ?_);have e:(({toList:=vs}:Array Value)[(i:Int).toNat]?)=some x:=by rw[Int.toNat_natCast];simpa using ag
 simp only[e];exact aH (wpAny_setField hi rfl (by show 1 < 2;decide) (bu (h _ (SameBut.update ..) (get?_update_self _ hi rfl))))
theorem Lg(dr:A.handled=none)(hw:s.heap.get? wp=some (mH a))(hi:s.heap.get? a=some (nG c i))(ao:s.heap.get? c=some {cls:= .type "list",data:= .seq ⟨vs⟩ k})(ag:vs[i]? =none)
  (h:∀h₁ h' e,SameBut a s.heap h₁->(∃o,h₁.get? a=some o/\cx o)->NewExc h₁ h' e "StopIteration"->R (.error (.ref e)) {s with heap:=h'}):codeAny (model prog w) A (.call (.ref wp) ⟨[],[]⟩) R s:=by
 refine Di hw ?_;show wpAny _ _ (field (.ref a) 0 >>=_) _ _ s;refine aH (wpAny_field hi (show(nG c i).data= .fields #[.ref c,.int i 0] from rfl) (x:= .ref c) rfl ?_);show wpAny _ _ (if(Value.ref c==Value.none)=true then _ else _) _ _ s;rw[aI (show¬((Value.ref c==Value.none)=true) from Bool.false_ne_true)];show wpAny _ _ (field (.ref a) 1 >>=_) _ _ s;refine aH (wpAny_field hi (show(nG c i).data= .fields #[.ref c,.int i 0] from rfl) (x:= .int i 0) rfl ?_);show wpAny _ _ (seqItems? (.ref c) >>=_) _ _ s;refine aH (wpAny_seqItems ao rfl ?_);have e:(({toList:=vs}:Array Value)[(i:Int).toNat]?)=none:=by rw[Int.toNat_natCast];simpa using ag
 simp only[e];refine aH (wpAny_rule (aH (wpAny_setField hi rfl (by show 0 < 2;decide) ?_)));show wpAny _ _ (newExc (.type "StopIteration") [] >>=_) _ _ _;refine aH ?_;simp only[newExc,newTuple];refine aH (wpAny_newObj_type ?_ (by size_fits));refine aH (m:=firstArgMember _ _) (wpAny_of_eq (a:=Value.none) (by first |rfl |(simp only[firstArgMember];rfl)) ?_);refine wpAny_newObj_type ?_ (by size_fits);simp only[raiseNew];refine aH (wpAny_handled ?_);rw[show(A.under _).handled=none from dr];refine aH (bu (wpAny_throw ?_));refine h _ _ _ (SameBut.update ..) ⟨_,get?_update_self _ hi rfl,.inl (by show Value.type "list_iterator"≠Value.type "code";decide)⟩ ⟨λb o I=>dV _ (dV _ I),get?_none_of_le (by simp),?_⟩;exact⟨_,_,dc _ rfl,rfl,rfl⟩
end
def h1(c:Addr)(i:Nat)(o:Obj):Prop:=o=nG c i
def jg(a:Addr)(o:Obj):Prop:=o=mH a
def fv(l:List Addr)(o:Obj):Prop:=∃n,o={cls:= .type "list",data:= .seq ⟨l.map λa=> .ref a⟩ n}
theorem CA{c:Addr} :cx (nG c i):= .inl (by show Value.type "list_iterator"≠Value.type "code";simp)
theorem Jk{a:Addr}:cx (mH a):= .inl (by show Value.type "method-wrapper"≠Value.type "code";simp)
theorem Ja{x:Expr}{c:Addr}{l:List Str}{p:Obj->Prop}(iD:Ev prog w n env m eE (.val (.builtin "iter")))(ag:aV prog w n env m (ay cs) x (.val (.ref c)))(U:(c,p)∈cs)(aa:∀o,p o->cy l o)
  (cv:(starEach [x] env).any (·.1)=false) (hs:starEach [x] env=[(false,eval x env)])
  (fo:eval (.Call eE [x] [] pos) env=(do callWith pos (<-eval eE env) [] (backTo pos (starEach [x] env)) (backToKw pos (keywordEach [] env)))):fa prog w n env m (ay cs) (.Call eE [x] [] pos) (λp r'=>∃D,p= .val (.ref D)/\r'=ay (cs++[(D,h1 c 0)])):=λs₀ W₀ aJ ad A s Q E ai F a4=>by
 rw[fo];refine aH (iD _ A s _ E ai F.F.st λv au aq az aF=>?_);rw[show v= .builtin "iter" from aq];have aX:=F.ext az aF;have I:=ja (pos:=pos) cv;refine Calls.callWith_builtin (j5 I) (g8 I (rT hs (ag _ A au _ E ai aX.F.st aX.dp aX.p λv aL aq aR aY=>?_)));rw[show v= .ref c from aq];have bp:=aX.ext aR aY;refine ah (bp.p.2 _ U) λo aj lU=>?_;refine dO (aa o lU) λvs k aU _=>?_;subst aU;refine Calls.call_function_entry (by kernel_rfl) (by kernel_rfl) kdk_entry_iter (kdk_args_iter _) ?_;unfold Builtin.«iter»;refine aH (m:=someArgs "iter" 1 2 _) (wpAny_of_eq (a:=[Value.ref c]) (by first |rfl |kernel_rfl!) ?_);show wpAny _ _ (pyIter (.ref c) >>=_) _ _ _;refine aH (wpAny_pyIter_list ⟨_,aj,rfl,_,rfl⟩ ?_);obtain⟨aS,k'⟩:=bp.mJ (p:=h1 c 0) (.push ..) (bp.F.st.g.push _) (er _) (dc _ rfl) CA rfl;exact bu ⟨_,rfl,a4 (.val (.ref aL.heap.objs.size)) _ _ _ aS (((bC.ext az).trans (.ext aR)).trans k') rfl trivial ⟨_,rfl,rfl⟩⟩
theorem H3{e:Expr}{r:Rs}{c:Addr}(he:fa prog w n env m r e (λp r'=>∃D,p= .val (.ref D)/\r'=ay (cs++[(D,h1 c 0)])))(I:attributeBase e "__next__" env (eval e env)=eval e env):
  fa prog w n env m r (.Attribute e "__next__" pos) (λp r'=>∃D wp,p= .val (.ref wp)/\r'=ay (cs++[(D,h1 c 0)]++[(wp,jg D)])):=λs₀ W₀ aJ ad A s Q E ai F a4=>by
 rw[arm_eval_Attribute,I];refine aH (he s₀ W₀ aJ ad A s _ E ai F λp r' v au aX k₁ aq eT cU=>aH (wpAny_standAt (aH (wpAny_holding ?_))));refine ah cU λD a7 bk=>?_;subst a7;subst bk;rw[show v= .ref D from aq];refine ah (aX.p.2 (D,h1 c 0) (b9 _ (.head _))) λo aj bz=>?_;subst bz;obtain⟨aa,g,d,tk,os⟩:=au;refine K1 (a:=D) aj λeV=>?_;refine aH (wpAny_letTemporaryGo (bu ?_));have e:Ext (⟨aa,g,d,tk,os⟩:Shared) ⟨aa.push (mH D),g,d,eV,os⟩:= .keeps λb o e=>dV _ e;obtain⟨aS,k'⟩:=aX.mJ (p:=jg D) e (aX.F.st.g.push _) (er _) (dc aa rfl) Jk rfl;exact a4 (.val (.ref aa.objs.size)) _ _ _ aS (k₁.trans k') rfl trivial ⟨_,_,rfl,rfl⟩
def fj(prog:Program)(w:World)(ks:List Str)(o:Obj):Prop:=∃kvs:List (Str×Value),o.IsDictOf (strKind prog w) kvs/\kvs.map (·.1)=ks
theorem CG{ks:List Str}{o:Obj}(h:fj prog w ks o):cx o:=by
 refine ah h λ_ a7 _=>?_;refine dO a7 λ_ _ ab _=>?_;exact .inl (by rw[ab.1];decide)
theorem IW{y:Str}(h:y∉kvs.map (·.1)):valueAt kvs y=none:=by
 unfold valueAt;rw[List.find?_eq_none.mpr λz hz q=>h (bA.mpr ⟨z,hz,by exact eq_of_beq q⟩)];rfl
theorem IK{y:Str}(h:y∈kvs.map (·.1)):(valueAt kvs y).isSome=true:=by
 unfold valueAt;rw[isSome_map];refine ah (bA.mp h) λz hz bk=>?_;subst bk;exact List.find?_isSome.mpr ⟨z,hz,by walk_at"o"⟩
theorem pop_at{p:List Value}{y:Value}{k:Nat}(aj:s.heap.get? D=some {cls:= .type "list",data:= .seq ⟨p++[y]⟩ k})(hz:p.length < sizeLine)
  (h:∀h',SameBut D s.heap h'->h'.get? D=some {cls:= .type "list",data:= .seq ⟨p⟩ (k+1)}->Q y {s with heap:=h'}):wpAny (model prog w) A (call (.builtin "list.pop") [.ref D]) Q E s:=by
 have ar:(p++[y]).toArray.size - 1=p.length:=by rw[List.size_toArray,length_append];rfl
 have av:(p++[y]).toArray[(p++[y]).toArray.size - 1]? =some y:=by rw[ar];simp
 refine call_meets PySem.F.slot_list_pop ⟨_,aj,rfl⟩ PySem.F.entry_list_pop (PySem.F.args_list_pop_1 _) (PySem.MeetsSeq.list_pop_last D _ k y av (by rw[List.size_toArray,length_append];exact hz)) ⟨aj,h _ (SameBut.update ..) ?_⟩;have q:=PySem.IsL.update aj λx=>x.eraseIdxIfInBounds ((p++[y]).toArray.size - 1);rw[show(p++[y]).toArray.eraseIdxIfInBounds ((p++[y]).toArray.size - 1)=⟨p⟩ by rw[ar,kl_erase,append_nil],aI (by simp)] at q;exact q
theorem H6{o e:Expr}{a:Addr}{l:List Addr}(aj:aV prog w n env m (ay cs) o (.val (.ref a)))(af:(a,fv l)∈cs)(he:fa prog w n env m (ay cs) e Ψ)
  (h:∀p r',Ψ p r'->∃wp cs',p= .val (.ref wp)/\r'=ay cs'/\(a,fv l)∈cs'/\l.length<=1000/\Φ .next m (ay (setC cs' a (fv (l++[wp])))))
  (cv:(starEach [e] env).any (·.1)=false) (Bq:starEach [e] env=[(false,eval e env)])
  (gS:attributeBase o "append" env (eval o env)=eval o env)
  (iS:((backTo pos (starEach [e] env)).all (λx=> !x.1)&&(backToKw pos (keywordEach [] env)).all (λx=>x.1.isSome)&&decide ([e].length+([]:List Keyword).length+(if([]:List Keyword).isEmpty then 0 else 1) < 30))=true)
  (gA:(apos.endLine==pos.line)=true) (hi:interactive env=false) (hs:swapsWith (.Call (.Attribute o "append" apos) [e] [] pos) none fQ.line env=pure false):
  ef prog w n env m (ay cs) (.Expr (.Call (.Attribute o "append" apos) [e] [] pos) fQ) Φ:=λs₀ W₀ aJ ad A s E ai F=>by
 refine wpAny_Expr_any ?_ hi hs;refine wpAny_Call_method gS iS gA k4.ho k4.slot k4.ty (aj _ A s _ E ai F.F.st F.dp F.p λv au aq az aF=>?_);rw[show v= .ref a from aq];have aX:=F.ext az aF;refine ah (aX.p.2 _ af) λob gq b7=>?_;refine aP b7 λFt bz=>?_;subst bz;refine⟨⟨_,gq,rfl⟩,λb q=>by(injection q with bB;subst bB);exact⟨_,gq,rfl⟩,?_⟩;have I:=ja (pos:=pos) cv;refine Calls.callWith_builtin (j5 I) (g8 I (rT Bq (he s₀ W₀ aJ ad A au _ E ai aX λp r' v aL bp k₂ aq eT cU=>?_)));refine sh (h p r' cU) λwp cs' cC c2 ju hz hE=>?_;subst cC;subst c2;rw[show v= .ref wp from aq];refine ah (bp.p.2 _ ju) λET nD eM=>?_;refine aP eM λk₁ c1=>?_;subst c1;refine call_meets PySem.F.slot_list_append ⟨_,nD,rfl⟩ PySem.F.entry_list_append (PySem.F.args_list_append_2 _ _) (list_append a ⟨l.map λa=> .ref a⟩ k₁ (.ref wp) (by show(l.map _).length<=_;rw[bO];have:sizeLine=2 ^ 24:=rfl;exact bH ‹_› rfl)) ⟨nD,?_⟩;have bL:SameBut a aL.heap (aL.heap.update a (Obj.mapSeq λx=>x.push (.ref wp))):= .update ..;have cS:(aL.heap.update a (Obj.mapSeq λx=>x.push (.ref wp))).get? a=some {cls:= .type "list",data:= .seq ⟨(l++[wp]).map λa=> .ref a⟩ (k₁+1)}:=by
  rw[get?_update_self _ nD rfl];simp[Obj.mapSeq]
 refine aE (bp.setC (tk:=aL.toks) (p':=fv (l++[wp])) ju bL cS mu ⟨_,rfl⟩) λdu fZ=>?_;exact⟨ad,m,_,du,((bC.ext az).trans k₂).trans fZ,hE⟩
theorem Il{o e:Expr}{d:Addr}{ks:List Str}{y:Str}{i:Int}(he:aV prog w n env m (ay cs) e (.int i))(aj:aV prog w n env m (ay cs) o (.val (.ref d)))(rl:aV prog w n env m (ay cs) me (.str y))(hd:(d,fj prog w ks)∈cs)(av:y∉ks)(hz:ks.length<=1000)
  (h:Φ .next m (ay (setC cs d (fj prog w (ks++[y]))))) (hs:swapsWith e (some (.Subscript o me fQ)) pos.line env=pure false):ef prog w n env m (ay cs) (.Assign [.Subscript o me fQ] e pos) Φ:=λs₀ W₀ aJ ad A s E ai F=>by
 refine wpAny_Assign_Subscript (he _ A s _ E ai F.F.st F.dp F.p λv au aq az aF=>?_) hs;have aX:=F.ext az aF;refine aj _ A au _ E ai aX.F.st aX.dp aX.p λg0 aL l1 aR aY=>?_;rw[show g0= .ref d from l1];have bp:=aX.ext aR aY;refine rl _ A aL _ E ai bp.F.st bp.dp bp.p λkv eb fK d9 eY=>?_;refine aP fK λt eJ=>?_;subst eJ;have du:=bp.ext d9 eY;refine ah (du.p.2 _ hd) λhX dv fJ=>?_;refine ah fJ λkvs sG fi=>?_;subst fi;have hlen:kvs.length<=sizeLine:=by
  rw[bO] at hz;have:sizeLine=2 ^ 24:=rfl;exact bH ‹_› rfl
 refine wpAny_setItem_pairs (knd:=strKind prog w) (k:=y) isKey (Heap.dictOf_iff.mpr ⟨hX,dv,sG⟩) (λh' hD bL=>?_) hlen;refine ah (Heap.dictOf_iff.mp hD) λbZ cS hd2=>?_;have e:stored kvs y v=kvs++[(y,v)]:=by
  unfold stored;rw[aI];intro q;refine ah (List.any_eq_true.mp q) λz hz nZ=>?_;exact av (bA.mpr ⟨z,hz,by exact eq_of_beq nZ⟩)
 rw[e] at hd2;have ar:fj prog w (kvs.map (·.1)++[y]) bZ:=⟨_,hd2,by rw[map_append];rfl⟩
 refine aE (du.setC (tk:=eb.toks+1) (p':=fj prog w (kvs.map (·.1)++[y])) hd bL cS (CG ar) ar) λf3 lP=>?_;exact⟨ad,m,_,f3,(((bC.ext az).trans (.ext aR)).trans (.ext d9)).trans lP,h⟩
theorem IQ{l e:Expr}{y:Str}{a:Addr}{ks:List Str}(ao:aV prog w n env m (ay cs) l (.str y))(bf:aV prog w n env m (ay cs) e (.val (.ref a)))(af:(a,fj prog w ks)∈cs)(iQ:(a==sysModules)=false)(av:y∉ks)(hm:behindInMarks .In e=false):gr prog w n env m (ay cs) (.Compare l [.In] [e] pos) false:=λW A s Q E ai x a0 aa h=>by
 refine wpAny_isTrue_Compare1 (ao W A s _ E ai x a0 aa λv au aq az aF=>bf W A au _ E ai (x.ext az aF) a0 (Rs.ext a0 x.low az aa) λu aL bD aR aY=>?_) hm;refine aP aq λt f5=>?_;subst f5;rw[show u= .ref a from bD];have c4:=x.ext az aF;refine ah ((Rs.ext (r:=ay cs) a0 c4.low aR (Rs.ext a0 x.low az aa)).2 _ af) λo aj h4=>?_;refine ah h4 λkvs sG h3=>?_;subst h3;refine wpAny_in_of (knd:=strKind prog w) (k:=y) isKey iQ (Heap.dictOf_iff.mpr ⟨o,aj,sG⟩).mapOf ?_;rw[IW av];exact wpAny_truthy_bool (h _ ((az.trans aR).trans (.tok aL _)) aY)
theorem Ih:fa prog w n env m (ay cs) (.Dict [] [] pU) (λp r'=>∃D,p= .val (.ref D)/\r'=ay (cs++[(D,fj prog w [])])/\(D==sysModules)=false):=λs₀ W₀ aJ ad A s Q E ai F a4=>by
 refine wpAny_Dict_empty ?_;obtain⟨aS,k'⟩:=F.mJ (p:=fj prog w []) (.push ..) (F.F.st.g.push _) (er _) (dc _ rfl) yl ⟨[],⟨#[],0,⟨rfl,rfl,rfl⟩,rfl,λ_ he=>by simp at he,.nil,nodup_nil⟩,rfl⟩;exact a4 (.val (.ref s.heap.objs.size)) _ _ _ aS k' rfl trivial ⟨_,rfl,rfl,F.F.st.g.noSys (Nat.le_refl _)⟩
theorem H8:fa prog w n env m (ay cs) (.List [] pU) (λp r'=>∃D,p= .val (.ref D)/\r'=ay (cs++[(D,fv [])])):=λs₀ W₀ aJ ad A s Q E ai F a4=>by
 refine PyProof.Rows.List_ (Calls.spliced_nil ?_);refine wpAny_newObj_type ?_ (by show(0:Nat)<=_;exact c0 _);obtain⟨aS,k'⟩:=F.mJ (p:=fv []) (.push ..) (F.F.st.g.push _) (er _) (dc _ rfl) mu ⟨0,rfl⟩;exact a4 (.val (.ref s.heap.objs.size)) _ _ _ aS k' rfl trivial ⟨_,rfl,rfl⟩
theorem Pa(h:Heap):∀l:List Addr,∃base:Heap,(∀b∈l,base.get? b=none)/\∀b,b∉l->base.get? b=h.get? b:=by
 intro a9;induction a9 with
 |nil=>
  exact⟨h,λ_ I=>absurd I b8,λ_ _=>rfl⟩
 |cons a l aw=>
  refine ah aw λbase ab ae=>?_;have key:(base.update a λ_=>{cls:= .none,data:= .freed}).get? a=none:=by
   unfold Heap.get? Heap.update;simp only[Array.getElem?_modify,if_true]
   (induction base.objs[a]?)<;>rfl
  refine⟨base.update a λ_=>{cls:= .none,data:= .freed},λb I=>?_,λb I=>?_⟩
  ·by_cases e:b=a
   ·rw[e];exact key
   ·rw[get?_update_other _ _ (Ne.symm e)];exact ab b ((bI.mp I).resolve_left e)
  ·rw[get?_update_other _ _ λe=>I (by rw[e];exact .head _)];exact ae b λq=>I (.tail _ q)
theorem bR.drop{ad:Str->Addr}{r:Rs}(F:bR w s₀ env W₀ aJ ad m r s)(a0:∀a,r'.J a->r.J a)(b5:∀h,r.P h->r'.P h):bR w s₀ env W₀ aJ ad m r' s/\bC (cE env m ad r) (cE env m ad r') s s:=
 ⟨⟨F.F.tP λa af=>af.imp id (a0 a),λa af q=>F.fM a af (a0 a q),b5 _ F.p⟩,(bC.refl _ s).trans λb o I aM e=>⟨e,λq=>I (q.imp id (a0 b))⟩⟩
theorem bR.OL{ad:Str->Addr}(F:bR w s₀ env W₀ aJ ad m (ay cs) s)(he:br cs'=br cs)(k:∀b o,b∉br cs->b≠env.locals->s.heap.get? b=some o->h'.get? b=some o)
  (tf:∀o,s.heap.get? env.locals=some o->∃bQ,h'.get? env.locals=some {o with slots:=bQ}) (aa:∀c∈cs',∃o,h'.get? c.1=some o/\cx o/\c.2 o):
  bR w s₀ env W₀ aJ ad m (ay cs') {s with heap:=h',toks:=tk}/\bC (cE env m ad (ay cs)) (cE env m ad (ay cs')) s {s with heap:=h',toks:=tk}:=by
 have ao:∃o,s.heap.get? env.locals=some o/\cx o:=by
  refine uo F.F.ns λcH o es ep e hd _=>?_;exact⟨o,e,.inr λvs q=>by rw[hd] at q;injection q⟩
 have g:G w h':=F.F.dJ.chg (X:=λa=>a∈br cs\/a=env.locals) F.F.st.g (λa af=>?_) λb o I e=>k b o (λq=>I (.inl q)) (λq=>I (.inr q)) e
 ·refine⟨⟨F.F.zx (λa af=>?_) ⟨h',tk,rfl⟩ (λb o ab ae aD e=>k b o (λq=>ab (.inr q)) ae e) tf g,λa af q=>F.fM a af (he▸q:a∈br cs),by show(br cs').Nodup;rw[he];exact F.p.1,λc U=>dK (aa c U) λo e _ q=>⟨o,e,q⟩⟩,λb o I aM e=>⟨k b o (λq=>I (.inr q)) (λq=>I (.inl (.inl q))) e,λq=>I (q.imp id λq=>(he▸q:b∈br cs))⟩⟩;rcases af with af |af
  ·refine aE (F.F.st.low a (.dw (.inl af))) λaU aM=>?_;refine ah aU λo e cF=>?_;exact⟨.inl (.inl af),o,k a o (F.fM a af) (F.F.ec a (.inl af)).2.1 e,cF⟩
  ·refine ah (bA.mp af) λc U a7=>?_;subst a7;refine dK (aa c U) λo e cY _=>?_;exact⟨.inl (.inr (he▸af:c.1∈br cs)),o,e,cY⟩
 ·rcases af with af |rfl
  ·refine cB (F.o4 a af) λab ae _=>?_;exact⟨ab,ae⟩
  ·exact⟨F.F.new,ao⟩
def qH(cs:dU)(e:Env):Prop:=e.scope.kind≠ .module/\e.frame=some e.locals/\∃o,oO o/\(e.locals,jd o)∈cs
theorem IL{base:Heap}:∀{l:List Env},(∀e∈l,e.scope.kind≠ .module/\e.frame=some e.locals/\base.get? e.locals=none/\∃o,h.get? e.locals=some o/\oO o)->h.FunFrames base l:=by
 intro a9;induction a9 with
 |nil=>
  intro _;exact trivial
 |cons e l aw=>
  intro x;refine eK (x e (.head _)) λab ae aD bk=>?_;refine ah bk λo bc dz=>?_;exact⟨ab,⟨e.locals,o,ae,aD,bc,dz⟩,aw λaO he=>x aO (.tail _ he)⟩
theorem Lw{y:Str}{v:Value}(fn:env.scope.kind= .function)(gl:env.globals=3)(bi:env.builtins=0)(g:G w s.heap)(ar:env.kindOf y=some .globalImplicit)(aq:nsIn (KF w) 3 y=some none)(I:bootBuiltins y=some v)(av:y≠"__name__")(hd:(y==("__debug__":Str))=false)
  (h:Q v s):wpAny (model prog w) A (eval (.Name y pos) env) Q E s:=by
 refine Calls.Name_function_global fn ar ?_ hd;unfold loadGlobal;refine aH ?_;rw[gl,bi];refine looks_nsIn g.K aq A _ E s (λ_ _ e=>e) ?_;refine ah g.B λlA ab ae=>?_;refine aH (wpAny_nsGet ab ?_);rw[ae y av,I];exact bu h
theorem DO{ad:Str->Addr}{r:Rs}{y:Str}{a:Addr}{M:Model}(F:bR w s₀ env W₀ aJ ad m r s)(ao:m.lookup y=some (.val (.ref a)))(hd:(y==("__debug__":Str))=false)(h:Q (.ref a) s):wpAny M A (eval (.Name y pos) env) Q E s:=by
 refine ah (F.F.st.has y _ ao) λv aq bf=>?_;rw[show v= .ref a from bf] at aq;exact wpAny_Name (aq.load F.F.st.fn h) hd
theorem bR.NG{pn:dU}{ad:Str->Addr}{it e:Addr}{cX:Heap}{Q:Unit->Shared->Prop}{cls:String}(d3:A.frames=some (env::fr))(F:bR w s₀ env W₀ aJ ad m (ay cs) s)(e1:∀e∈fr,qH cs e)(ar:env.scope.kind≠ .module)(kL:env.frame=some env.locals)
  (hit:it∈br cs) (bL:SameBut it s.heap h₁) (l2:∃o,h₁.get? it=some o/\cx o) (pd:∀e∈fr,e.locals≠it) (ag:NewExc h₁ cX e cls) (t2:br pn=br cs) (SA:∀c∈pn,c=(it,λ_=>True)\/c∈cs/\c.1≠it)
  (h:∀b2,bR w s₀ env W₀ aJ ad m (ay pn) b2->b2.TypeIs (.ref e) cls->(∀(HJ:Around) (cI:Unit->Shared->Prop) (c5:Value->Shared->Prop),(∀s',bR w s₀ env W₀ aJ ad m (ay pn) s'->bC (cE env m ad (ay cs)) (cE env m ad (ay pn)) s s'->cI () s')->wpAny (model prog w) HJ (setFlight (.ref e) none) cI c5 b2)->Q () b2):
  wpAny (model prog w) A (noteFrame (.ref e) env) (λ_ s'=>wpAny (model prog w) A (setFlight (.ref e) none) Q E s') E {s with heap:=cX}:=by
 refine ah (Pa cX (e::(env::fr).map (·.locals))) λbase AA o9=>?_;refine bj ag.there λob lB he iu hd=>?_;obtain⟨ol,AL,sE⟩:∃o,s.heap.get? env.locals=some o/\oO o:=by
  refine uo F.F.ns λcH o es ep e hd _=>?_;exact⟨o,e,λvs q=>by rw[hd] at q;injection q⟩
 have Qe:env.locals≠it:=λq=>(F.F.ec it (.inr hit)).2.1 q.symm;have up:∀b o,b≠it->s.heap.get? b=some o->cX.get? b=some o:=λb o I q=>ag.keeps b o (bL.extBut b o I q);have sI:∀b∈(env::fr).map (·.locals),∃o,s.heap.get? b=some o/\oO o/\b≠it:=λb I=>by
  refine ah (bA.mp I) λaO gc bz=>?_;subst bz;rcases bI.mp gc with rfl |gc
  ·exact⟨ol,AL,sE,Qe⟩
  ·refine cB (e1 aO gc) λ_ _ b7=>?_;refine ah b7 λzR aA hm=>?_;refine ah (F.p.2 _ hm) λo aj c2=>?_;refine aP c2 λbQ cC=>?_;subst cC;exact⟨_,aj,aA,pd aO gc⟩
 have Uj:cX.FunFrames base (env::fr):=IL λaO gc=>by
  refine dK (sI aO.locals (fO gc)) λo aj aA bY=>?_;refine⟨?_,?_,AA _ (.tail _ (fO gc)),o,up _ _ bY aj,aA⟩
  ·rcases bI.mp gc with rfl |gc
   ·exact ar
   ·exact(e1 aO gc).1
  ·rcases bI.mp gc with rfl |gc
   ·exact kL
   ·exact(e1 aO gc).2.1
 have Hf:s.heap.get? e=none:=by
  induction q:s.heap.get? e with
  |none=>rfl
  |some o=>
   by_cases Gu:e=it
   ·refine ah l2 λbZ cS _=>?_;have:=ag.new;rw[Gu,cS] at this;injection this
   ·have:=ag.new;rw[bL.extBut e o Gu q] at this;injection this
 have VW:e∉(env::fr).map (·.locals):=λq=>by
  refine ah (sI e q) λo aj _=>?_;rw[Hf] at aj;injection aj
 have T:∀h',(∀b o,b≠it->b∉(env::fr).map (·.locals)->s.heap.get? b=some o->h'.get? b=some o)->(∀b∈(env::fr).map (·.locals),∀o,s.heap.get? b=some o->∃bQ,h'.get? b=some {o with slots:=bQ})->(∃o,h'.get? it=some o/\cx o)->
   bR w s₀ env W₀ aJ ad m (ay pn) {s with heap:=h'}/\bC (cE env m ad (ay cs)) (cE env m ad (ay pn)) s {s with heap:=h'}:=λh' bP cJ gy=>by
  refine F.OL t2 (λb o I GD q=>bP b o (λz=>I (z▸hit)) (λz=>?_) q) (λo q=>cJ _ (fO (.head _)) o q) λc U=>?_
  ·refine ah (bA.mp z) λaO gc c1=>?_;subst c1;rcases bI.mp gc with rfl |gc
   ·exact GD rfl
   ·refine cB (e1 aO gc) λ_ _ eM=>?_;refine ah eM λzR aA hm=>?_;exact I (nq hm)
  ·rcases SA c U with rfl |⟨kh,TC⟩
   ·refine ah gy λo aj cY=>?_;exact⟨o,aj,cY,trivial⟩
   ·refine ah (F.p.2 c kh) λo aj rh=>?_;refine cB (F.o4 c.1 (fO kh)) λ_ eJ _=>?_;refine ah eJ λbZ cS cY=>?_;rw[aj] at cS;obtain rfl:=bT cS;by_cases hz:c.1∈(env::fr).map (·.locals)
    ·refine aP (cJ _ hz o aj) λbQ q=>?_;refine ah (bA.mp hz) λaO gc Gi=>?_;rcases bI.mp gc with rfl |gc
     ·exact absurd Gi.symm (F.F.ec c.1 (.inr (fO kh))).2.1
     ·refine cB (e1 aO gc) λ_ _ fi=>?_;refine ah fi λzR aA hm=>?_;have Ta:c.2=jd zR:=CP F.p.1 (a:=c.1) kh (by rw[<-Gi];exact hm);rw[Ta] at rh ⊢;refine aP rh λxd fJ=>?_;subst fJ;exact⟨_,q,.inr λvs=>aA vs,bQ,rfl⟩
    ·exact⟨o,bP _ o TC hz aj,cY,rh⟩
 unfold noteFrame;simp only[kL];refine aH (wpAny_field he hd (x:= .none) rfl ?_);rw[aI (by decide)];refine wpAny_newEntry d3 Uj kL he (λb o q=>?_) (AA e (.head _)) hd (Nat.lt_of_lt_of_eq (Nat.lt_of_sub_eq_succ rfl:1 < 6) rfl) λh' iI=>?_
 ·by_cases I:b∈e::(env::fr).map (·.locals)
  ·rw[AA b I] at q;injection q
  ·rw[<-o9 b I];exact q
 refine eK iI λdH dh f5 jA=>?_;refine Pr f5 λUt vs t V1 Ur Ho gx Ud t1 i4 T9 Hw Gm t3=>?_;have ne:∀b o,s.heap.get? b=some o->b≠e:=λb o q z=>by rw[z,Hf] at q;injection q
 have dR:∀b o,b∉(env::fr).map (·.locals)->cX.get? b=some o->b≠e->h'.get? b=some o:=λb o I q Tb=>dH b o (by
  rw[o9 b λz=>(bI.mp z).elim Tb I];exact q)
 have cJ:∀b∈(env::fr).map (·.locals),∀o,s.heap.get? b=some o->∃bQ,h'.get? b=some {o with slots:=bQ}:=λb I o q=>by
  refine dK (sI b I) λbZ cS gF bY=>?_;rw[q] at cS;obtain rfl:=bT cS;exact jA b o (up b o bY q) gF
 refine ah l2 λoq mZ GC=>?_;have Hc:it∉(env::fr).map (·.locals):=λz=>by refine dK (sI it z) λ_ _ _ q=>?_;exact q rfl
 have ite:it≠e:=λz=>by have:=ag.new;rw[<-z,mZ] at this;injection this
 have t5:h'.get? it=some oq:=dR it oq Hc (ag.keeps _ _ mZ) ite;have bP:∀b o,b≠it->b∉(env::fr).map (·.locals)->s.heap.get? b=some o->h'.get? b=some o:=λb o ab ae q=>dR b o ae (up b o ab q) (ne b o q);refine aE (T h' bP cJ ⟨oq,t5,GC⟩) λBy V5=>?_;refine h _ By ⟨Ut,Ho,by rw[gx,iu]⟩ λHJ cI c5 h=>?_;refine wpAny_setFlight_none Ho Ud t1 Hw Gm (Array.getElem?_eq_some_iff.mp t3).1 ?_;have xJ:∀b o,s.heap.get? b=some o->b≠it->t≠b:=λb o q uX z=>by
  subst z;by_cases I:t∈(env::fr).map (·.locals)
  ·refine dK (sI t I) λbZ cS gF bY=>?_;refine aP (cJ t I bZ cS) λbQ q'=>?_;rw[Hw] at q';obtain rfl:=bT q';exact gF Ur Gm
  ·have:=o9 t λz=>(bI.mp z).elim (ne t o q) I;rw[i4,up t o uX q] at this;injection this
 have RZ:t≠it:=λz=>by
  have:=o9 t λy=>(bI.mp y).elim T9 λy=>Hc (z▸y);rw[i4,z,ag.keeps _ _ mZ] at this;injection this
 obtain⟨BG,Ue⟩:=T (h'.update t (Obj.mapFields (·.setIfInBounds 3 .none))) (λb o ab ae q=>by rw[get?_update_other _ _ (xJ b o q ab)];exact bP b o ab ae q)
  (λb I o q=>by
   refine aP (cJ b I o q) λbQ q'=>?_;refine dK (sI b I) λ_ _ _ bY=>?_;exact⟨bQ,by rw[get?_update_other _ _ (xJ b o q bY)];exact q'⟩)
  ⟨oq,by rw[get?_update_other _ _ RZ];exact t5,GC⟩
 exact h _ BG Ue
theorem KD{a:Addr}{l:List Addr}(hz:(a,fv l)∈cs)(W:Addr->Prop)(h:Heap)(a0:∀b,(ay cs).J b->W b)(aa:(ay cs).P h)(v:Value)(aq:a6 w h W (.val (.ref a)) v):a6 w h W (.bw (l.map λa=> .val (.ref a))) v:=by
 refine ah (aa.2 _ hz) λo aj a7=>?_;refine aP a7 λk aU=>?_;subst aU;exact⟨a,_,k,aq,a0 a (nq hz),aj,DF⟩
theorem IG{a wp:Addr}(hw:s.heap.get? wp=some (mH a))(h:codeAny (model prog w) A (.call (.ref wp) ⟨[],[]⟩) (ot Q E) s):wpAny (model prog w) A (callWith pos (.ref wp) [] [] []) Q E s:=by
 unfold callWith;refine aH (wpAny_holding (g8 (λx ag=>absurd ag b8) (Calls.spliced_nil (aH (wpAny_standAt ?_)))));refine aH (m:=keeperOf (.ref wp)) ?_;unfold keeperOf;refine aH (wpAny_load hw ?_);show wpAny _ _ (pure Keeper.machine) _ _ _;refine bu ?_;show wpAny _ _ (call (.ref wp) [] [] >>=_) _ _ _;refine aH (wpAny_call ?_);exact codeAny_mono h λr s' q=>by
  induction r with
  |error e=>exact q
  |ok f=>induction f with
   |ret v=>exact aH (wpAny_holding (wpAny_point (bu q)))
   |_=>exact q
theorem DI{eA wp it:Addr}{ad:Str->Addr}(ai:bK n A)(F:bR w s₀ env W₀ aJ ad m (ay cs) s)(ag:m.lookup ("itstack":Str)=some (.val (.ref eA)))(hi:(eA,fv (ws++[wp]))∈cs)(hw:(wp,jg it)∈cs)(hz:ws.length<=1000)
  (h:∀s',Ext s s'->G w s'.heap->codeAny (model prog w) A (.call (.ref wp) ⟨[],[]⟩) (ot Q E) s'):
  wpAny (model prog w) A (eval (.Call (.Subscript (.Name "itstack" bW) (.UnaryOp .USub (.Constant (.int 1) 0 cc) fN) fy) [] [] ib) env) Q E s:=by
 rw[show eval (.Call (.Subscript (.Name "itstack" bW) (.UnaryOp .USub (.Constant (.int 1) 0 cc) fN) fy) [] [] ib) env=(do callWith ib (<-eval (.Subscript (.Name "itstack" bW) (.UnaryOp .USub (.Constant (.int 1) 0 cc) fN) fy) env) [] [] []) from rfl];have ax:aV prog w n env m (ay cs) (.Subscript (.Name "itstack" bW) (.UnaryOp .USub (.Constant (.int 1) 0 cc) fN) fy) (.val (.ref wp)):=by
  refine aV.item (nj (aV.name ag (by kernel_rfl)) (KD hi)) (Ev.R (k1 Ev.int)) Typed.bw fD.lookup (Cg (by decide) ?_ ?_ ?_) λ_ _=>rfl
  ·rw[bO,length_append];show -((ws.length+1:Nat):Int)<= -1;walk_at"o"
  ·rw[bO,length_append,map_append];show(ws.map _++[ak.val (.ref wp)])[(-1+((ws.length+1:Nat):Int)).toNat]? =_;rw[show(-1+((ws.length+1:Nat):Int)).toNat=(ws.map λa=>ak.val (.ref a)).length by rw[bO];walk_at"o"];simp
  ·rw[bO,length_append];show ws.length+1<=2 ^ 24;walk_at"o"
 refine aH (ax _ A s _ E ai F.F.st F.dp F.p λv au aq az aF=>?_);rw[show v= .ref wp from aq];refine ah ((F.ext az aF).p.2 _ hw) λo aj bk=>?_;subst bk;exact IG aj (h au az aF)
theorem Ia{K:Around->Prop}(bx:∀A,K A->bK n A){eA wp it c:Addr}{l:List Str}{j:Nat}{x:Str}{p:Obj->Prop}{h₀:ExceptHandler}{hs:List ExceptHandler}(ag:m.lookup ("itstack":Str)=some (.val (.ref eA)))(hi:(eA,fv (ws++[wp]))∈cs)(hw:(wp,jg it)∈cs)(hit:(it,h1 c j)∈cs)(U:(c,p)∈cs)(aa:∀o,p o->cy l o)(hz:ws.length<=1000)(aN:l[j]? =some x)
  (ar:env.kindOf "node"=some .local) (h:Φ .brk (("node",.str x)::m) (ay (setC cs it (h1 c (j+1))))) (iZ:swapsWith (.Call (.Subscript (.Name "itstack" bW) (.UnaryOp .USub (.Constant (.int 1) 0 cc) fN) fy) [] [] ib) (some (.Name "node" mr)) pV.line env=pure false):
  dB prog w K env m (ay cs) (.Try [.Assign [.Name "node" mr] (.Call (.Subscript (.Name "itstack" bW) (.UnaryOp .USub (.Constant (.int 1) 0 cc) fN) fy) [] [] ib) pV,.Break tc] (h₀::hs) [] [] s6) Φ:=λs₀ W₀ aJ ad A s E ai F=>by
 refine nW λcI jZ=>?_;refine wpAny_Try_except (wpAny_execs_cons (wpAny_Assign_Name (DI (bx A ai) F ag hi hw hz λau az aF=>?_) iZ));have aX:=F.ext az aF;refine e9 λfs cD=>?_;refine ah (aX.p.2 _ hw) λhW how bz=>?_;subst bz;refine ah (aX.p.2 _ hit) λoq mZ b7=>?_;subst b7;refine ah (aX.p.2 _ U) λcP sR Bj=>?_;refine dO (aa cP Bj) λvs k cC bb=>?_;subst cC;obtain⟨v,aq,t,rfl⟩:=(bb.uN (w:=w) (h:=au.heap) (W:=λ_=>False)).at (i:=j) (p:= .str x) (by rw[d7,aN];rfl);refine cD ?_;refine KC how mZ sR aq λh' bL fl=>?_;refine aE (aX.setC (tk:=au.toks) (p':=h1 c (j+1)) hit bL fl CA rfl) λbp k₂=>?_;refine bp.F.put (p:= .str x) ⟨t,rfl⟩ trivial (.inl ar) λs' aS k'=>?_;refine aE (bp.turn aS k') λdu fZ=>?_;exact wpAny_execs_cons (wpAny_Break (jZ _ _ ⟨ad,_,_,du,((bC.ext az).trans k₂).trans fZ,h⟩))
theorem yD{a:Addr}{p:Obj->Prop}{R:dU}(h:a∉br R):setC ((a,p)::R) a p'=(a,p')::R:=by
 unfold setC;rw[map_cons,aQ rfl];congr 1
 conv=>rhs;rw[<-List.map_id R]
 exact map_congr_left λz hz=>aI λe:z.1=a=>h (e▸fO hz)
theorem yC{a b:Addr}{p:Obj->Prop}{R:dU}(h:b≠a):setC ((b,p)::R) a p'=(b,p)::setC R a p':=by
 unfold setC;rw[map_cons,aI h]
theorem sf:Meth "list" "pop" "list.pop":=⟨PySem.F.plainAttrs_list,PySem.F.slot_list_pop,PySem.F.type_list_pop⟩
theorem D4{l:List Str}{y:Str}(h:iR (l++[y]) vs):∃us t,vs=us++[.str y t]/\iR l us:=by
 obtain⟨ls,aU,h⟩:=h;subst aU;obtain⟨l₁,l₂,a7,ab,ae⟩:=List.map_eq_append_iff.mp h;subst a7;obtain⟨z,bk,bz⟩:=List.map_eq_singleton_iff.mp ae;subst bk;subst bz;exact⟨strValues l₁,z.2,by unfold strValues;rw[map_append];rfl,l₁,rfl,ab⟩
section
variable {prog:Program} {w:World} {n:Nat} {env:Env} {m:Loc} {R:dU} {A:Around} {s:Shared} {E:Value->Shared->Prop} {Φ:dn->Loc->Rs->Prop}
theorem Mz{d:Addr}{o:Obj}{ks:List Str}{y:Str}{t:Tok}{Q:Unit->Shared->Prop}(aj:s.heap.get? d=some o)(hd:fj prog w (ks++[y]) o)(hz:ks.length<=1000)
  (h:∀h' bZ,SameBut d s.heap h'->h'.get? d=some bZ->fj prog w ks bZ->Q () {s with heap:=h',toks:=s.toks+1}):wpAny (model prog w) A (delItem (.ref d) (.str y t)) Q E s:=by
 refine ah hd λkvs sG ar=>?_;have gg:s.heap.DictOf (strKind prog w) d kvs:=Heap.dictOf_iff.mpr ⟨o,aj,sG⟩;have bo:(ks++[y]).Nodup:=by refine sh sG λ_ _ _ _ _ _ q=>?_;rw[<-ar];exact q
 have hlen:kvs.length<=sizeLine:=by
  have:=congrArg List.length ar;rw[bO,length_append] at this;have ae:sizeLine=2 ^ 24:=rfl;have aD:[y].length=1:=rfl;walk_at"o"
 have hw:(without kvs y).map (·.1)=ks:=by
  refine bj (List.map_eq_append_iff.mp ar) λbP cJ b7 ab ae=>?_;subst b7;refine ah (List.map_eq_singleton_iff.mp ae) λz cC c2=>?_;subst cC;subst c2;have aA:z.1∉ks:=λq=>(List.nodup_append.mp bo).2.2 _ q _ (.head _) rfl;have e:without (bP++[z]) z.1=without bP z.1++without [z] z.1:=filter_append ..;have aC:without [z] z.1=[]:=by unfold without;simp
  rw[e,without_of_not_mem bP z.1 (ab▸aA),aC,append_nil,ab]
 unfold delItem
 try with_reducible refine wpAny_holding ?_
 refine aH (wpAny_sequenceKey gg.typeIs (by decide) ?_);refine aH (wpAny_callSpecial?_slot (name:=Str.ofString "__delitem__") gg.typeIs PySem.F.slot_dict_delitem
  (call_meetsIn PySem.F.slot_dict_delitem gg.typeIs PySem.F.entry_dict_delitem (PySem.F.args_dict_delitem_2 _ _) (meets_dict_delitem_pairs (strKind prog w) d isKey) ⟨kvs,gg,hlen,IK (by rw[ar];exact b9 _ (.head _)),λh' Rw hs=>?_⟩))
 refine ah (Heap.dictOf_iff.mp Rw) λbZ cS hD=>?_;exact bu (h h' bZ hs cS ⟨_,hD,hw⟩)
theorem Ej{x:Str}{p:List Value}{v:Value}{k:Nat}{ad:Str->Addr}{r:Rs}(F:bR w s₀ env W₀ aJ ad m r s)(ao:m.lookup x=some (.val (.ref D)))(hd:(x==("__debug__":Str))=false)(I:attributeBase (.Name x bW) "pop" env (eval (.Name x bW) env)=eval (.Name x bW) env)(gA:(cc.endLine==fN.line)=true)
  (aj:s.heap.get? D=some {cls:= .type "list",data:= .seq ⟨p++[v]⟩ k}) (hz:p.length < sizeLine) (h:∀h',SameBut D s.heap h'->h'.get? D=some {cls:= .type "list",data:= .seq ⟨p⟩ (k+1)}->Q v {s with heap:=h'}):
  wpAny (model prog w) A (eval (.Call (.Attribute (.Name x bW) "pop" cc) [] [] fN) env) Q E s:=by
 refine wpAny_Call_method I rfl gA sf.ho sf.slot sf.ty (DO F ao hd ⟨⟨_,aj,rfl⟩,λb q=>by(injection q with bB;subst bB);exact⟨_,aj,rfl⟩,?_⟩);exact Calls.callWith_builtin rfl (g8 (λx ag=>absurd ag b8) (Calls.spliced_nil (pop_at aj hz h)))
theorem Iv{st eA fz wp it c:Addr}{bQ l:List Str}{y:Str}{j:Nat}{p:Obj->Prop}{pX HD UG Uy Hx Bz Ar Gw RR:Pos}
  (ag:m.lookup ("itstack":Str)=some (.val (.ref eA))) (Br:m.lookup ("stack":Str)=some (.val (.ref st))) (m3:m.lookup ("node2stacki":Str)=some (.val (.ref fz))) (U:(c,p)∈R) (aa:∀o,p o->cy l o) (hz:ws.length<=1000) (VB:bQ.length<=1000) (aN:l[j]? =none)
  (e1:∀e∈fr,qH R e) (kL:env.frame=some env.locals) (So:env.kindOf "StopIteration"=some .globalImplicit) (gp:interactive env=false) (u6:(pX.endLine==HD.line)=true) (xr:(Bz.endLine==Ar.line)=true)
  (h:Φ .next m (ay ((st,cy bQ)::(eA,fv ws)::(fz,fj prog w bQ)::R))) (iZ:swapsWith (.Call (.Subscript (.Name "itstack" bW) (.UnaryOp .USub (.Constant (.int 1) 0 cc) fN) fy) [] [] ib) (some (.Name "node" mr)) pV.line env=pure false) (PI:swapsWith (.Call (.Attribute (.Name "itstack" Hx) "pop" Bz) [] [] Ar) none Gw.line env=pure false):
  dB prog w (ph n (env::fr)) env m (ay ((st,cy (bQ++[y]))::(eA,fv (ws++[wp]))::(fz,fj prog w (bQ++[y]))::(it,h1 c j)::(wp,jg it)::R))
   (.Try [.Assign [.Name "node" mr] (.Call (.Subscript (.Name "itstack" bW) (.UnaryOp .USub (.Constant (.int 1) 0 cc) fN) fy) [] [] ib) pV,.Break tc]
    [.ExceptHandler (some (.Name "StopIteration" dy)) none [.Delete [.Subscript (.Name "node2stacki" bN) (.Call (.Attribute (.Name "stack" hq) "pop" pX) [] [] HD) UG] Uy,.Expr (.Call (.Attribute (.Name "itstack" Hx) "pop" Bz) [] [] Ar) Gw] RR] [] [] s6) Φ:=λs₀ W₀ aJ ad A s E ai F=>by
 have de:sizeLine=2 ^ 24:=rfl;refine nW λcI jZ=>?_;refine wpAny_Try_except (wpAny_execs_cons (wpAny_Assign_Name (DI ai.1 F ag (.tail _ (.head _)) (.tail _ (.tail _ (.tail _ (.tail _ (.head _))))) hz λau az aF=>?_) iZ));have aX:=F.ext az aF;have bo:(st::eA::fz::it::wp::br R).Nodup:=aX.p.1;simp only[nodup_cons,mem_cons,not_or] at bo;refine e9 λfs cD=>?_;refine ud bo λc1 eM eJ fi Vp Sk=>?_;refine Fp c1 λkm AE Hu UH HE=>?_;refine eK eM λB6 HC UP HM=>?_;refine cB eJ λGQ RJ GI=>?_;refine aE fi λTL GU=>?_;refine ah (aX.p.2 (wp,jg it) (.tail _ (.tail _ (.tail _ (.tail _ (.head _)))))) λhW how fJ=>?_;subst fJ;refine ah (aX.p.2 (it,h1 c j) (.tail _ (.tail _ (.tail _ (.head _))))) λoq mZ f5=>?_;subst f5;refine ah (aX.p.2 _ (.tail _ (.tail _ (.tail _ (.tail _ (.tail _ U)))))) λcP sR Bj=>?_;refine dO (aa cP Bj) λvs k h3 bb=>?_;subst h3;refine cD ?_;have RO:vs[j]? =none:=by
  rw[List.getElem?_eq_none_iff] at aN ⊢;rw[bb.len];exact aN
 refine Lg ai.1.calm how mZ sR RO λh₁ cX e bL l2 pk=>?_;have Qh:∀e∈fr,qH ((st,cy (bQ++[y]))::(eA,fv (ws++[wp]))::(fz,fj prog w (bQ++[y]))::(it,h1 c j)::(wp,jg it)::R) e:=λe he=>let⟨a1,a2,o,dF,fh⟩:=e1 e he;⟨a1,a2,o,dF,.tail _ (.tail _ (.tail _ (.tail _ (.tail _ fh))))⟩
 refine aX.NG (pn:=(st,cy (bQ++[y]))::(eA,fv (ws++[wp]))::(fz,fj prog w (bQ++[y]))::(it,λ_=>True)::(wp,jg it)::R) ai.2 Qh (by rw[F.F.st.fn];decide) kL (.tail _ (.tail _ (.tail _ (.head _)))) bL l2 (λe he q=>?_) pk rfl (λc U=>?_) λeb du bE pH=>?_
 ·refine e9 λfs cD=>?_;refine cB (e1 e he) λ_ _ h4=>?_;refine ah h4 λo _ fh=>?_;refine cD ?_;have q':e.locals=it:=q;exact GU (by rw[<-q'];exact nq fh)
 ·rcases bI.mp U with rfl |U
  ·exact .inr ⟨.head _,λq=>Hu q⟩
  rcases bI.mp U with rfl |U
  ·exact .inr ⟨.tail _ (.head _),λq=>HC q⟩
  rcases bI.mp U with rfl |U
  ·exact .inr ⟨.tail _ (.tail _ (.head _)),λq=>GQ q⟩
  rcases bI.mp U with rfl |U
  ·exact .inl rfl
  rcases bI.mp U with rfl |U
  ·exact .inr ⟨.tail _ (.tail _ (.tail _ (.tail _ (.head _)))),λq=>TL q.symm⟩
  ·exact .inr ⟨.tail _ (.tail _ (.tail _ (.tail _ (.tail _ U)))),λq=>GU (by have q':c.1=it:=q;rw[<-q'];exact fO (f:=λz=>z.1) U)⟩
 refine wpAny_handleBy_builtin (X:="StopIteration") (T:="StopIteration") (b:=true) (by rw[isSubtype_type];kernel_rfl) (by rw[isSubtype_type];kernel_rfl) (by rw[isSubtype_type];kernel_rfl) (Lw du.F.st.fn du.F.st.gl du.F.st.bi du.F.st.g So (by exact rfl) (by kernel_rfl) (by decide+kernel) (by kernel_rfl) ⟨rfl,bE,?_⟩);rw[aQ rfl];refine pH _ _ _ λc9 f3 lP=>?_;refine e9 λfs cD=>?_;refine ah (f3.p.2 (st,cy (bQ++[y])) (.head _)) λos q6 nI=>?_;refine dO nI λus ks kG hU=>?_;subst kG;refine dO (D4 hU) λjR t nO wJ=>?_;subst nO;refine cD ?_;refine wpAny_execs_cons (wpAny_Delete (wpAny_deleteEach_cons (PyProof.Rows.delete_Subscript (DO f3 m3 (by kernel_rfl) (Ej f3 Br (by kernel_rfl) rfl u6 q6 (by rw[wJ.len];exact od ‹_› rfl) λh' Qa cS=>?_)))));refine e9 λfs cD=>?_;refine aE (f3.setC (tk:=c9.toks) (p':=cy bQ) (.head _) Qa cS mu ⟨jR,_,rfl,wJ⟩) λiv o3=>?_;rw[yD (by simp only[br,map_cons,mem_cons,not_or];exact⟨km,AE,Hu,UH,HE⟩)] at iv o3;replace iv:=iv;refine ah (iv.p.2 (fz,fj prog w (bQ++[y])) (.tail _ (.tail _ (.head _)))) λhX dv AN=>?_;refine cD ?_;refine Mz dv AN (by assumption) λhA Vb NA OP EW=>wpAny_deleteEach_nil ?_;refine aE (iv.setC (tk:=c9.toks+1) (p':=fj prog w bQ) (.tail _ (.tail _ (.head _))) NA OP (CG EW) EW) λo7 Fb=>?_;rw[yC AE,yC B6,yD (by simp only[br,map_cons,mem_cons,not_or];exact⟨GQ,RJ,GI⟩)] at o7 Fb;replace o7:=o7;refine e9 λfs cD=>?_;refine ah (o7.p.2 (eA,fv (ws++[wp])) (.tail _ (.head _))) λoq mZ qP=>?_;refine aP qP λUU qE=>?_;subst qE;refine cD ?_;rw[map_append] at mZ;refine wpAny_execs_cons (wpAny_Expr_any (Ej o7 ag (by kernel_rfl) rfl xr mZ (by rw[bO];exact od ‹_› rfl) λVl NI OK=>?_) gp PI);refine aE (o7.setC (tk:=c9.toks+1) (p':=fv ws) (.tail _ (.head _)) NI OK mu ⟨_,rfl⟩) λFs Fj=>?_;rw[yC km,yD (by simp only[br,map_cons,mem_cons,not_or];exact⟨B6,HC,UP,HM⟩)] at Fs Fj;have d1:∀a,(ay ((st,cy bQ)::(eA,fv ws)::(fz,fj prog w bQ)::R)).J a->(ay ((st,cy bQ)::(eA,fv ws)::(fz,fj prog w bQ)::(it,λ_=>True)::(wp,jg it)::R)).J a:=λa af=>by
  have ju:a∈st::eA::fz::br R:=af;show a∈st::eA::fz::it::wp::br R;simp only[mem_cons] at ju ⊢;rcases ju with q |q |q |q
  ·exact .inl q
  ·exact .inr (.inl q)
  ·exact .inr (.inr (.inl q))
  ·exact .inr (.inr (.inr (.inr (.inr q))))
 obtain⟨QM,P4⟩:=Fs.drop d1 λh b5=>⟨by
   show(st::eA::fz::br R).Nodup;simp only[nodup_cons,mem_cons,not_or];exact⟨⟨km,AE,HE⟩,⟨B6,HM⟩,GI,Sk⟩,λc U=>b5.2 c (by
   simp only[mem_cons] at U ⊢;rcases U with q |q |q |q
   ·exact .inl q
   ·exact .inr (.inl q)
   ·exact .inr (.inr (.inl q))
   ·exact .inr (.inr (.inr (.inr (.inr q)))))⟩
 exact wpAny_execs_nil <| jZ _ _ ⟨ad,m,_,QM,(((((bC.ext az).trans lP).trans o3).trans Fb).trans Fj).trans P4,h⟩
end
theorem y2:Meth "dict" "values" "dict.values":=⟨PySem.F.plainAttrs_dict,PySem.F.slot_dict_values,PySem.F.type_dict_values⟩
theorem JY{o:Expr}{l:List (Str×Addr)}{d:Addr}(ai:bK n A)(st:St w env W m s.heap)(a0:∀a,(ay cs).J a->W a)(aa:(ay cs).P s.heap)(aj:aV prog w n env m (ay cs) o (.val (.ref d)))(hd:(d,eI w l)∈cs)(iQ:(d==sysModules)=false)
  (gS:attributeBase o "values" env (eval o env)=eval o env) (gA:(apos.endLine==pos.line)=true):lL prog w W A s (eval (.Call (.Attribute o "values" apos) [] [] pos) env) (l.map λz=> .val (.ref z.2)):=λR E h=>by
 refine wpAny_Call_method gS rfl gA y2.ho y2.slot y2.ty (aj W A s _ E ai st a0 aa λv au aq az aF=>?_);rw[show v= .ref d from aq];have OQ:=Rs.ext (r:=ay cs) a0 st.low az aa;refine ah (OQ.2 _ hd) λhX dv a7=>?_;refine h8 a7 λes k aU ab ae aD=>?_;subst aU;have gg:=qi (prog:=prog) dv ab ae;refine⟨⟨_,dv,rfl⟩,λb q=>by(injection q with bB;subst bB);exact⟨_,dv,rfl⟩,?_⟩;refine Calls.callWith_builtin rfl (g8 (λx ag=>absurd ag b8) (Calls.spliced_nil ?_));refine call_meetsIn PySem.F.slot_dict_values ⟨_,dv,rfl⟩ PySem.F.entry_dict_values (PySem.F.args_dict_values_1 _) (meets_dict_values (strKind prog w) d iQ) ⟨⟨_,gg.dictOf⟩,?_⟩
 let aL:Shared:={au with heap:=au.heap.push {cls:= .type "dict_values",data:= .fields #[.ref d]}}
 have aR:Ext au aL:= .push ..;have zr:aL.heap.DictAt (strKind prog w) d _ k:=gg.push _;refine wpAny_pyIter_values (s:=aL) ⟨_,dc _ rfl,rfl,rfl⟩ zr ?_;have bY:d≠aL.heap.objs.size:=Nat.ne_of_lt zr.lt_size;have aW:=Walks.dictValues (prog:=prog) (w:=w) (knd:=strKind prog w) ai.calm aL.heap.objs.size d bY ((l.map (·.1)).zip (es.map (·.val))) k;have ao:((l.map (·.1)).zip (es.map (·.val))).length=l.length:=by
  rw[aD,yS,bO]
 have e:((l.map (·.1)).zip (es.map (·.val))).length=(l.map λz=>ak.val (.ref z.2)).length:=by rw[ao,bO]
 rw[e] at aW;refine h aL _ _ _ _ _ _ (az.trans aR) (aF.push _) (.push ..) ((aF.push _).push _) aW ⟨?_,zr.push _⟩ (λb I=>?_) (λb I=>?_) (λi h bE b I=>?_) λi u bD=>?_
 ·rw[<-e];exact⟨_,dc _ rfl,rfl,rfl⟩
 ·rw[cQ.mp I];exact er _
 ·rcases bI.mp I with rfl |I
  ·exact⟨⟨_,dc _ rfl⟩,(aF.push _).fu (er _)⟩
  ·rw[cQ.mp I];exact⟨⟨_,dV _ (dV _ dv)⟩,aF.fY dv eG⟩
 ·rw[cQ.mp I];refine aE bE λbk _=>?_;refine dK bk λo ax aC _=>?_;exact⟨o,ax,.inl (by rw[aC];intro q;injection q with q;exact absurd q (by decide))⟩
 ·refine aP bD λy av=>?_;rw[aD,yS,d7] at av;refine ah (Option.map_eq_some_iff.mp av) λz hz q=>?_;cases q
  exact⟨.val (.ref z.2),by rw[d7,hz];rfl,rfl⟩
theorem Ic{iter:Expr}{x:Str}{f:ak->ak}{c:Bool}{sc:Scope}{l:List Str}(aq:∀y p,m.lookup y=some p->∃u,p= .val u)(ba:c6 env sc)
  (src:∀(W:Addr->Prop) (A:Around) (s:Shared),bK n A->St w env W m s.heap->(∀a,(ay cs).J a->W a)->(ay cs).P s.heap->lL prog w W A s (eval iter env) ps) (S:iK scope sc x c)
  (f7:∀y p,mf.lookup y=some p->m.lookup y=some p/\scope.names.lookup y=some .free) (hz:ps.length<=sizeLine) (cN:∀p∈ps,t p=true->cb (f p))
  (tests:∀p∈ps,∀cenv,c6 cenv scope->nA prog w n cenv ((x,p)::mf) (ay cs).J (ay cs).P ifs (t p)) (elts:∀p∈ps,t p=true->∀cenv,c6 cenv scope->aV prog w n cenv ((x,p)::mf) (ay cs) elt (f p))
  (hs:∀v,foldedSetIterable iter env v=pure v) (ao:(ps.filter t).map f=aB l):fa prog w n env m (ay cs) (.ListComp elt [⟨.Name x px,iter,ifs,0⟩] scope pos) (λp r'=>∃D,p= .val (.ref D)/\r'=ay (cs++[(D,cy l)])):=λs₀ W₀ aJ ad A s Q E ai F a4=>by
 have low:eB (λa=>(∃o,s.heap.get? a=some o/\cx o)/\¬cf a) s.heap:=λa h=>h;have st:St w env (λa=>(∃o,s.heap.get? a=some o/\cx o)/\¬cf a) m s.heap:=⟨F.F.st.fn,F.F.st.gl,F.F.st.bi,F.F.st.g,low,F.F.st.nl,F.F.st.cY,λy p av=>by
  refine ah (F.F.st.has y p av) λv ab ae=>?_;refine aP (aq y p av) λu bz=>?_;subst bz;exact⟨v,ab,ae⟩⟩
 have a0:∀a,(ay cs).J a->((∃o,s.heap.get? a=some o/\cx o)/\¬cf a):=λa af=>(F.o4 a af).2;refine Dh ai st a0 (λh h' k p=>(ay cs).st h h' (λb o I e=>k b o (a0 b I).2 e) p) F.p ba (src _ A s ai st a0 F.p) S f7 hz cN tests (λp aa aM cenv dQ=>elts p aa aM cenv dQ) hs λv s' aq e g=>?_;rw[ao] at aq;refine cg aq λa vs k b7 aW aj bb=>?_;subst b7;have aA:s.heap.get? a=none:=by
  induction q:s.heap.get? a with
  |none=>rfl
  |some o=>
   have aM:=g.fY aj eG;have:=e.keep a o aM q;rw[aj] at this;obtain rfl:=bT this;exact absurd ⟨⟨_,q,mu⟩,aM⟩ aW
 refine aE (F.mJ (p:=cy l) e g aA aj mu ⟨vs,k,rfl,iR.of bb⟩) λaS k'=>?_;exact a4 (.val (.ref a)) _ _ _ aS k' rfl trivial ⟨a,rfl,rfl⟩
theorem Mg{α:Type}(l:List α):(range l.length).filterMap (λk=>l[l.length - 1 - k]?)=l.reverse:=by
 have e:(range l.length).map (λk=>l[l.length - 1 - k]?)=l.reverse.map some:=by
  refine ext_getElem? λi=>?_;rw[d7,d7];rcases Nat.lt_or_ge i l.length with h |h
  ·have aN:l.length - 1 - i < l.length:=by walk_at"o"
   rw[getElem?_range h,getElem?_reverse h,map_some,cm aN];rfl
  ·rw[getElem?_eq_none (by rw[length_range];exact h),getElem?_eq_none (by rw[length_reverse];exact h)];rfl
 have:=congrArg (filterMap _root_.id) e;rw[filterMap_map,filterMap_map] at this;rw[show(λk=>l[l.length - 1 - k]?)=_root_.id∘(λk=>l[l.length - 1 - k]?) from rfl,this];exact filterMap_some
theorem LN{α β:Type}{f g:α->Option β}:∀{L:List α},(∀k∈L,f k=g k)->L.filterMap f=L.filterMap g:=by
 intro a9;induction a9 with
 |nil=>
  intro _;exact rfl
 |cons a L aw=>
  intro h;rw[filterMap_cons,filterMap_cons,h a (.head _),aw λk ar=>h k (.tail _ ar)]
theorem HV{bQ:Addr}{Q:Int×Int×Nat->Shared->Prop}(hs:s.heap.IsSliceOf bQ .none .none (.int (-1) u))(h:Q ((n:Int) - 1,-1,n) s):
  wpAny (model prog w) A (Builtin.Slice.sliceApplied (.ref bQ) (pure (n:Int))) Q E s:=by
 refine dK (_root_.id hs) λos q6 u0 A6=>?_;unfold Builtin.Slice.sliceApplied Builtin.Slice.sliceFields;refine aH (aH (wpAny_field q6 A6 (x:= .none) rfl (aH (wpAny_field q6 A6 (x:= .none) rfl (aH (wpAny_field q6 A6 (x:= .int (-1) u) rfl (bu ?_)))))));refine aH (PyProof.Rows.slicePart_int ?_);show wpAny _ _ (if((-1:Int)==0)=true then _ else _) _ _ s;rw[aI (by decide)];refine aH (PyProof.Rows.slicePart_none (aH (PyProof.Rows.slicePart_none (aH (bu ?_)))));show wpAny _ _ (match Builtin.Slice.sliceAdjust none none (-1) (n:Int) with |(lo,hi)=>pure (lo,(-1:Int),Builtin.Slice.slicePlaces lo hi (-1))) _ _ s;have ax:Builtin.Slice.sliceAdjust none none (-1) (n:Int)=((n:Int) - 1,-1):=rfl;have aC:Builtin.Slice.slicePlaces ((n:Int) - 1) (-1) (-1)=n:=by
  unfold Builtin.Slice.slicePlaces;have ab:¬((-1:Int) > 0):=by walk_at"o"
  simp only[ab,if_false];rw[show(-(-1):Int)=1 from rfl,Int.ediv_one];split<;>walk_at"o"
 rw[ax];show wpAny _ _ (pure ((n:Int) - 1,(-1:Int),Builtin.Slice.slicePlaces ((n:Int) - 1) (-1) (-1))) _ _ s;rw[aC];exact bu h
theorem HP{t bQ:Addr}{items:List Value}{k:Nat}(aM:s.heap.get? t=some {cls:= .type "tuple",data:= .seq ⟨items⟩ k})(hs:s.heap.IsSliceOf bQ .none .none (.int (-1) u))
  (h:Q (.ref s.heap.objs.size) {s with heap:=s.heap.push {cls:= .type "tuple",data:= .seq ⟨items.reverse⟩}}) (hg:items.length<=sizeLine):wpAny (model prog w) A (getItem (.ref t) (.ref bQ)) Q E s:=by
 have bE:s.TypeIs (.ref t) "tuple":=⟨_,aM,rfl⟩
 have Tz:s.TypeIs (.ref bQ) "slice":=dK hs λos q6 u0 _=>⟨os,q6,u0⟩
 unfold getItem
 try with_reducible refine wpAny_holding ?_
 first |refine aH (bu ?_) |skip
 refine aH (wpAny_sequenceKey bE (by decide) ?_);refine aH (wpAny_callSpecial?_slot (name:=Str.ofString "__getitem__") bE PySem.F.slot_tuple_getitem
  (wpAny_call_entry PySem.F.slot_tuple_getitem bE PySem.F.entry_tuple_getitem ?_ (PySem.F.args_tuple_getitem_2 _ _)))
 show wpAny _ _ (Builtin.Tuple.tupleItemsOf (.ref t) >>=_) _ _ s;refine aH (PyProof.Rows.tupleItemsOf_ ⟨_,aM,rfl,_,rfl⟩ ?_);refine aH (wpAny_typeOf Tz ?_);rw[aQ (by decide)];refine aH (HV hs ?_);show wpAny _ _ (if(((items.length:Int) - 1)==0&&(-1:Int)==1&&items.length==items.length)=true then _ else _) _ _ s;rw[aI (by walk_at"o")];have e:((range items.length).filterMap λ(k:Nat)=>(⟨items⟩:Array Value)[(((items.length:Int) - 1)+(k:Int)* -1).toNat]?).toArray=⟨items.reverse⟩:=by
  rw[<-Mg];refine congrArg List.toArray (LN λk ar=>?_);rw[show(((items.length:Int) - 1)+(k:Int)* -1).toNat=items.length - 1 - k by have:=List.mem_range.mp ar;walk_at"o"];simp
 show wpAny _ _ (do return<-ret (<-Builtin.Tuple.tupleExact ((range items.length).filterMap λ(k:Nat)=>(⟨items⟩:Array Value)[(((items.length:Int) - 1)+(k:Int)* -1).toNat]?).toArray)) _ _ s;rw[e];have wA:sizeOk (.seq (⟨items.reverse⟩:Array Value)):=by show items.reverse.length<=_;rw[length_reverse];exact hg
 first
  |exact aH (m:=Builtin.Tuple.tupleExact _) (wpAny_newObj_type (bu ⟨_,rfl,bu h⟩) wA)
  |exact aH (m:=Builtin.Tuple.tupleExact _) (wpAny_newObj_type (aH (bu (bu ⟨_,rfl,bu h⟩))) wA)
  |exact aH (aH (m:=Builtin.Tuple.tupleExact _) (wpAny_newObj_type (bu (bu ⟨_,rfl,bu h⟩)) wA))
  |exact aH (aH (m:=Builtin.Tuple.tupleExact _) (wpAny_newObj_type (bu ⟨_,rfl,bu h⟩) wA))
theorem H4{v:Expr}{r:Rs}{l:List Str}{Ψ:Rs->Prop}(he:fa prog w n env m r v (λp r'=>p= .tup (aB l)/\Ψ r'))(hz:l.length<=sizeLine):
  fa prog w n env m r (.Subscript v (.Slice none none (some (.UnaryOp .USub (.Constant (.int 1) 0 bW) cc)) sp) pos) (λp r'=>p= .tup (aB l.reverse)/\Ψ r'):=λs₀ W₀ aJ ad A s Q E ai F a4=>by
 refine PyProof.Rows.Subscript_ (he s₀ W₀ aJ ad A s _ E ai F λp r' o au aX k₁ aj _ cU=>?_);obtain⟨aU,cU⟩:=cU;subst aU;show wpAny _ _ (do
  let l<-valueOrNone (evalOpt none env)
  let u<-holding [l] (valueOrNone (evalOpt none env))
  let t<-holding [l,u] (valueOrNone (evalOpt (some (.UnaryOp .USub (.Constant (.int 1) 0 bW) cc)) env))
  newFields "slice" [l,u,t]) _ _ _
 have c4:=aX.F.st;refine aH (ny (i:=none) (e:=none) trivial ai c4 λgO aL eU aR aY=>aH (wpAny_holding (ny (i:=none) (e:=none) trivial ai (c4.ext aR aY) λgN eb pu d9 eY=>aH (wpAny_holding (ny (i:=some (-1)) (e:=some _) (k1 Ev.int) ai ((c4.ext aR aY).ext d9 eY) λiG c9 pt jo mL=>?_)))));refine wpAny_newObj_type ?_ (by show(3:Nat)<=_;decide);have jO:Ext c9 {c9 with heap:=c9.heap.push {cls:= .type "slice",data:= .fields [gO,gN,iG].toArray}}:= .push ..;have ji:=mL.push {cls:= .type "slice",data:= .fields [gO,gN,iG].toArray};have ax:=((aR.trans d9).trans jo).trans jO;have qT:=aj.ext c4.g ax;have de:(c9.heap.push {cls:= .type "slice",data:= .fields [gO,gN,iG].toArray}).IsSliceOf c9.heap.objs.size gO gN iG:= .new ..;refine cg qT λadr us k a7 aW iw hU=>?_;subst a7;cases eU
 cases pu
 cases pt
 rename_i u;refine PyProof.Rows.tail_any ⟨_,iw,rfl⟩ PySem.F.slot_tuple_getitem.lookup (HP iw de ?_ (by rw[<-hU.len,cz];exact hz)) rfl;have kD:Ext c9 _:=jO.trans (.push _ {cls:= .type "tuple",data:= .seq ⟨us.reverse⟩});have o7:=aX.ext (((aR.trans d9).trans jo).trans kD) (ji.push _);refine a4 (.tup (aB l.reverse)) r' _ _ o7 (k₁.trans (.ext (((aR.trans d9).trans jo).trans kD))) ?_ (show dA _ from d5) ⟨rfl,cU⟩;refine⟨_,us.reverse,0,rfl,?_,dc _ rfl,?_⟩
 ·exact(aX.ext ax ji).F.st.low.fresh
 ·refine ah (iR.of hU) λls bk ao=>?_;subst bk;exact iR.uN ⟨ls.reverse,by unfold strValues;rw[map_reverse],by rw[map_reverse,ao]⟩
section
variable {prog:Program} {w:World} {n:Nat} {env:Env} {m:Loc} {r:Rs} {cs G:dU} {Φ:dn->Loc->Rs->Prop}
theorem Jn{l:List ak}(hz:l.length+l'.length<=sizeLine):cA prog w (binaryOp .Add) (.bw l) (.list l') (.list (l++l')):=λW A s _ _ Q E r g low fm hH h=>by
 refine cg fm λa vs n e aW aj hs=>?_;refine cg hH λb us k aO pf cS eC=>?_;subst e aO;have hg:(⟨vs⟩:Array Value).size+(⟨us⟩:Array Value).size<=sizeLine:=by show vs.length+us.length<=_;rw[<-hs.len, <-eC.len];exact hz
 refine concat_meets ⟨_,aj,rfl⟩ ⟨_,cS,rfl⟩ noFill_list_add seq_list_add PySem.F.slot_list_add PySem.F.entry_list_add (PySem.F.args_list_add_2 _ _) (PyProof.Rows.list_addW a b ⟨vs⟩ ⟨us⟩ n k none none #[] #[] hg) ⟨aj,cS,?_⟩;refine h _ _ ⟨_,vs++us,0,rfl,low.fresh,?_,(hs.app eC).mono λb o U e=>dV _ e⟩ (.push ..) (g.push _);have e:(⟨vs⟩:Array Value)++⟨us⟩=⟨vs++us⟩:=by simp
 rw[e];exact dc _ rfl
theorem Jw{o:Expr}{a:Addr}{l:List Str}{y:Str}(aj:aV prog w n env m (ay cs) o (.val (.ref a)))(af:(a,cy (l++[y]))∈cs)(hz:l.length<=1000)
  (gS:attributeBase o "pop" env (eval o env)=eval o env) (gA:(apos.endLine==pos.line)=true):fa prog w n env m (ay cs) (.Call (.Attribute o "pop" apos) [] [] pos) (λp r'=>p= .str y/\r'=ay (setC cs a (cy l))):=λs₀ W₀ aJ ad A s Q E ai F a4=>by
 refine wpAny_Call_method gS rfl gA sf.ho sf.slot sf.ty (aj _ A s _ E ai F.F.st F.dp F.p λv au aq az aF=>?_);rw[show v= .ref a from aq];have aX:=F.ext az aF;refine ah (aX.p.2 _ af) λob gq a7=>?_;refine dO a7 λvs k aU bb=>?_;subst aU;refine⟨⟨_,gq,rfl⟩,λb q=>by(injection q with bB;subst bB);exact⟨_,gq,rfl⟩,?_⟩;refine dO (D4 bb) λus t bk hU=>?_;subst bk;refine Calls.callWith_builtin rfl (g8 (λx ag=>absurd ag b8) (Calls.spliced_nil (pop_at gq (by rw[hU.len];have:sizeLine=2 ^ 24:=rfl;exact od ‹_› rfl) λh' bL cS=>?_)));refine aE (aX.setC (tk:=au.toks) (p':=cy l) af bL cS mu ⟨us,_,rfl,hU⟩) λbp k₂=>?_;exact a4 (.str y) _ _ _ bp ((bC.ext az).trans k₂) ⟨t,rfl⟩ trivial ⟨rfl,rfl⟩
theorem H7{o e:Expr}{a:Addr}{l:List Str}(aj:aV prog w n env m (ay cs) o (.val (.ref a)))(af:(a,cy l)∈cs)(he:fa prog w n env m (ay cs) e Ψ)
  (h:∀p r',Ψ p r'->∃l' cs',p= .tup (aB l')/\b0 r' (ay cs')/\(a,cy l)∈cs'/\l.length+l'.length<=1000/\Φ .next m (ay (setC cs' a (cy (l++l')))))
  (cv:(starEach [e] env).any (·.1)=false) (Bq:starEach [e] env=[(false,eval e env)])
  (gS:attributeBase o "extend" env (eval o env)=eval o env)
  (iS:((backTo pos (starEach [e] env)).all (λx=> !x.1)&&(backToKw pos (keywordEach [] env)).all (λx=>x.1.isSome)&&decide ([e].length+([]:List Keyword).length+(if([]:List Keyword).isEmpty then 0 else 1) < 30))=true)
  (gA:(apos.endLine==pos.line)=true) (hi:interactive env=false) (hs:swapsWith (.Call (.Attribute o "extend" apos) [e] [] pos) none fQ.line env=pure false):
  ef prog w n env m (ay cs) (.Expr (.Call (.Attribute o "extend" apos) [e] [] pos) fQ) Φ:=λs₀ W₀ aJ ad A s E ai F=>by
 refine wpAny_Expr_any ?_ hi hs;refine wpAny_Call_method gS iS gA wd.ho wd.slot wd.ty (aj _ A s _ E ai F.F.st F.dp F.p λv au aq az aF=>?_);rw[show v= .ref a from aq];have aX:=F.ext az aF;refine ah (aX.p.2 _ af) λob gq b7=>?_;refine dO b7 λON Ft bz _=>?_;subst bz;refine⟨⟨_,gq,rfl⟩,λb q=>by(injection q with bB;subst bB);exact⟨_,gq,rfl⟩,?_⟩;have I:=ja (pos:=pos) cv;refine Calls.callWith_builtin (j5 I) (g8 I (rT Bq (he s₀ W₀ aJ ad A au _ E ai aX λp r' v aL bp k₂ aq eT cU=>?_)));refine sh (h p r' cU) λl' cs' cC le ju hz hE=>?_;subst cC;have oY:=bp.le le;rw[le.vy] at k₂;refine cg aq λb us k c2 w4 I hU=>?_;subst c2;refine ah (oY.p.2 _ ju) λET nD eM=>?_;refine dO eM λvs k₁ c1 bb=>?_;subst c1;have u6:=bb.len;have xr:=(iR.of hU).len;have de:sizeLine=2 ^ 24:=rfl;refine call_meets PySem.F.slot_list_extend ⟨_,nD,rfl⟩ PySem.F.entry_list_extend (PySem.F.args_list_extend_2 _ _) (AutoSeq1.list_extend_list_tuple_0 a ⟨vs⟩ k₁ b ⟨us⟩ k ?_ (by show vs.length<=_;walk_at"o") (by show vs.length+us.length<=_;walk_at"o")) ⟨nD,I,?_⟩
 ·have:Builtin.List.listTooLong ((⟨vs⟩:Array Value).size+(⟨us⟩:Array Value).size)=false:=by
   show Builtin.List.listTooLong (vs.length+us.length)=false;unfold Builtin.List.listTooLong;walk_at"o"
  rw[this];walk_at"o"
 have bL:SameBut a aL.heap (aL.heap.update a (Obj.mapSeq λx=>x++⟨us⟩)):= .update ..;have cS:∃cJ,(aL.heap.update a (Obj.mapSeq λx=>x++⟨us⟩)).get? a=some {cls:= .type "list",data:= .seq ⟨vs++us⟩ cJ}:=by
  rw[get?_update_self _ nD rfl];refine aP (C4 (λx=>x++⟨us⟩) (.type "list") ⟨vs⟩ k₁) λcJ q=>?_;exact⟨cJ,by rw[q];simp⟩
 refine aP cS λcJ cS=>?_;refine ah bb λdH eJ ab=>?_;subst eJ;refine ah (iR.of hU) λdh fi ae=>?_;subst fi;refine aE (oY.setC (tk:=aL.toks) (p':=cy (l++l')) ju bL cS mu ⟨_,_,rfl,dH++dh,by unfold strValues;rw[map_append],by rw[map_append,ab,ae]⟩) λdu fZ=>?_;exact⟨ad,m,_,du,((bC.ext az).trans k₂).trans fZ,hE⟩
theorem Iu{K:Around->Prop}(inv:Nat->Loc->Rs->Prop)(k:Nat)(h0:inv k m r)(cv:∀whole,isTrue test env whole=(do let v<-whole;standAt test.pos;holding [v] (truthy v)))
  (turn:∀k m' r',inv k m' r'->jn prog w K env m' r' test (λp zZ=>∃b,p= .bool b/\(b=true->bt prog w K env m' zZ body (pN (λdE eR=>∃k',k' < k/\inv k' dE eR) Φ))/\(b=false->bt prog w K env m' zZ orelse Φ))):
  dB prog w K env m r (.While test body orelse pos) Φ:=λs₀ W₀ aJ ad A s E ai F=>by
 refine wpAny_While (codeAny_whileLoop (λk s'=>∃a3 m' r',bR w s₀ env W₀ aJ a3 m' r' s'/\inv k m' r'/\bC (cE env m ad r) (cE env m' a3 r') s s') ?_ k ⟨ad,m,r,F,h0,.refl _ s⟩);intro k s' dg;refine sT λc5=>nW λcI jZ=>?_;refine gm dg λa3 m' r' aS hi kk=>?_;rw[cv];refine aH (turn k m' r' hi s₀ W₀ aJ a3 A s' _ _ ai aS λp zZ v aL bp k₂ aq _ cU=>?_);refine dK cU λb fJ I aA=>?_;subst fJ;rw[show v= .bool b from aq];refine aH (wpAny_standAt (wpAny_holding (wpAny_truthy_bool ?_)));refine jZ _ _ ?_;induction b with
 |true=>
  simp only[if_true];refine wpAny_mono (I rfl s₀ W₀ aJ a3 A aL _ ai bp) (λf eb o=>?_) λ_ _ e=>e;have nF:=kk.trans k₂;induction f with
  |next=>refine gm o λlV i6 i2 hk gy f5=>?_;refine ah f5 λk' cj jv=>?_;exact⟨k',cj,lV,i6,i2,hk,jv,nF.trans gy⟩
  |cont=>refine gm o λlV i6 i2 hk gy h3=>?_;refine ah h3 λk' cj jv=>?_;exact⟨k',cj,lV,i6,i2,hk,jv,nF.trans gy⟩
  |brk=>refine gm o λlV i6 i2 hk gy jv=>?_;exact⟨lV,i6,i2,hk,nF.trans gy,jv⟩
  |ret v=>exact jk.pre nF (f:= .ret v) o
 |false=>
  simp only[Bool.false_eq_true,if_false];refine wpAny_mono (aA rfl s₀ W₀ aJ a3 A aL _ ai bp) (λf eb o=>?_) λ_ _ e=>e;exact jk.pre (kk.trans k₂) o
theorem eQ.frame{f:Addr}{jS:ak->dU->Prop}(h:eQ prog w n f args (ay cs) Ψ)(cU:∀p r',Ψ p r'->∃cs',b0 r' (ay cs')/\jS p cs'):eQ prog w n f args (ay (cs++G)) (λp r'=>∃cs',r'=ay (cs'++G)/\jS p cs'):=λs₀ s W₀ aJ A vs Q E ai same keep dJ g low a0 fM aa bb a4=>by
 have ff:∀cs':dU,br (cs'++G)=br cs'++br G:=λcs'=>map_append ..;have bo:(br cs++br G).Nodup:=ff cs▸aa.1;refine cB (List.nodup_append.mp bo) λrd xp Hd=>?_;have gp:∀{cs':dU} {a},a∈br (cs'++G)↔a∈br cs'\/a∈br G:=λ{cs' a}=>by rw[ff];exact mem_append
 have tb:∀cs':dU,(λa=>W₀ a\/(aJ a\/(ay (cs'++G)).J a))=λa=>W₀ a\/((aJ a\/a∈br G)\/(ay cs').J a):=λcs'=>funext λa=>propext (by
  show(W₀ a\/(aJ a\/a∈br (cs'++G)))↔(W₀ a\/((aJ a\/a∈br G)\/a∈br cs'));rw[gp];constructor
  ·rintro(q |q |q |q)
   ·exact .inl q
   ·exact .inr (.inl (.inl q))
   ·exact .inr (.inr q)
   ·exact .inr (.inl (.inr q))
  ·rintro(q |(q |q) |q)
   ·exact .inl q
   ·exact .inr (.inl q)
   ·exact .inr (.inr (.inr q))
   ·exact .inr (.inr (.inl q)))
 have xo:∀a,a∈br G->s₀.heap.get? a=none/\(∃o,s.heap.get? a=some o/\cx o)/\¬cf a:=λa af=>a0 a (.inr (gp.mpr (.inr af)));refine h s₀ s W₀ (λa=>aJ a\/a∈br G) A vs Q E ai same keep dJ g low (λa af=>?_) (λa af q=>?_) ⟨rd,λc U=>aa.2 c (b6 _ U)⟩ (tb cs▸bb) λp v r' s' Qw aq eT B=>?_
 ·rcases af with(af |af) |af
  ·exact a0 a (.inl af)
  ·exact xo a af
  ·exact a0 a (.inr (gp.mpr (.inl af)))
 ·rcases af with af |af
  ·exact fM a af (gp.mpr (.inl q))
  ·exact Hd a q a af rfl
 ·refine ah (cU p r' Qw) λcs' le Q4=>?_;have rr:=B.le le;have B5:∀a∈br G,∀o,s.heap.get? a=some o->s'.heap.get? a=some o/\a∉br cs':=λa af o e=>rr.k a o (λq=>Hd a q a af rfl) (xo a af).2.2 e;refine a4 p v (ay (cs'++G)) s' ⟨cs',rfl,Q4⟩ ?_ eT ⟨rr.ext,rr.g,⟨?_,λc U=>?_⟩,λa af=>?_,λb o I aM e=>?_⟩
  ·rw[tb];have:r'.J=(ay cs').J:=funext λa=>propext (le.1 a);rw[<-this];exact aq
  ·rw[ff];refine List.nodup_append.mpr ⟨rr.p.1,xp,λa af b I q=>?_⟩;subst q;refine cB (xo a I) λ_ h4 _=>?_;refine ah h4 λo e _=>?_;exact(B5 a I o e).2 af
  ·rcases List.mem_append.mp U with U |U
   ·exact rr.p.2 c U
   ·refine ah (aa.2 c (b9 _ U)) λo e q=>?_;exact⟨o,(B5 c.1 (fO U) o e).1,q⟩
  ·rcases gp.mp af with af |af
   ·exact rr.j a af
   ·refine cB (xo a af) λab kG aD=>?_;refine ah kG λo e cY=>?_;exact⟨ab,⟨o,(B5 a af o e).1,cY⟩,aD⟩
  ·refine aE (rr.k b o (λq=>I (gp.mpr (.inl q))) aM e) λj3 hM=>?_;exact⟨j3,λq=>(gp.mp q).elim hM λq=>I (gp.mpr (.inr q))⟩
end
theorem KV{x dx f:Addr}{kv:List (Str×ak)}{name:Str}{es:List DictEntry}{k:Nat}(X:(KF w).In s.heap)(ag:s.heap.get? x=some ⟨.ref C,some dx,.plain,bQ⟩)(hd:s.heap.get? dx=some (dictOf es k))(af:iN kv es)
  (iu:hasDictIn (KF w) C=true) (dj:plainGet (KF w) C name=true) (hf:findIn (KF w) (.ref C) name=some (some (.ref f))) (iT:isFn (KF w) (.ref f)=true) (AG:specialIn (KF w) (.ref f) "__get__"=some (some (.builtin "function.__get__"))) (aM:takesIn (KF w) (.ref f)=some false) (U:copiedNames.contains name=false) (fK:kv.lookup name=none)
  (h:Q (.ref s.heap.objs.size) {s with heap:=s.heap.push (methodObj (.ref f) (.ref x)),toks:=s.toks+1}):wpAny (model prog w) A (getAttr (.ref x) name true) Q E s:=by
 have bh:InstAt s.heap x ⟨.ref C,some dx,.plain,bQ⟩ C (some (dictOf es k)):=⟨ag,rfl,rfl,hd⟩
 have ao:=af.get name;rw[fK] at ao;exact PySem.W.get_bind X bh (plainGet_of dj).1 (findObj_fn iu hf AG aM U (by show lookIn name (dictOf es k)=_;rw[lookIn_dict];exact ao)) (plainGet_of dj).2
  (wpAny_call (fn_get (s:={s with toks:=s.toks+1}) X (beq_iff_eq.mp iT) (handed_on rfl h)))
theorem IB{q f x:Addr}{o:Obj}{args:List (Bool×Sem Value)}(O1:args.any (·.1)=true)
  (h:wpAny (model prog w) A (evalArgs (.ref q) true args []) (λa au=>au.heap.get? q=some (methodObj (.ref f) (.ref x))/\au.heap.get? f=some o/\o.data= .func fd/\wpAny (model prog w) A (call (.ref q) a.pos a.kw) Q E au) E s):wpAny (model prog w) A (callWith pos (.ref q) [] args []) Q E s:=by
 unfold callWith;refine aH (wpAny_holding (wpAny_mono h (λa au h₁=>aH (wpAny_standAt ?_)) λ_ _ x=>x));refine eK h₁ λab ae aD bc=>?_;refine aH (m:=keeperOf (.ref q)) ?_;unfold keeperOf;refine aH (wpAny_load ab ?_);show wpAny _ _ (load f >>=_) _ _ _;refine aH (wpAny_load ae ?_);rw[aD];refine bu ?_;rw[O1];exact aH (wpAny_operating (wpAny_mono bc (λr aL bf=>aH (wpAny_holding (wpAny_point (bu bf)))) λ_ _ x=>x))
theorem HZ{o:Expr}{name:Str}{x dx f:Addr}{kv:List (Str×ak)}{of:Obj}(aj:aV prog w n env m (ay cs) o (.val (.ref x)))(ag:(x,fP C dx)∈cs)(hd:(dx,c7 kv)∈cs)
  (iu:hasDictIn (KF w) C=true) (dj:plainGet (KF w) C name=true) (hf:findIn (KF w) (.ref C) name=some (some (.ref f))) (iT:isFn (KF w) (.ref f)=true) (AG:specialIn (KF w) (.ref f) "__get__"=some (some (.builtin "function.__get__"))) (aM:takesIn (KF w) (.ref f)=some false) (U:copiedNames.contains name=false) (fK:kv.lookup name=none) (nT:(KF w).lookup f=some of) (nQ:of.data= .func fd)
  (af:dd prog w n env m (ay cs) pos es ps) (iW:dA ps) (hm:eQ prog w n f (.val (.ref x)::ps) (ay cs) Ψ) (cv:backTo pos (starEach es env)=[]\/∃x r,backTo pos (starEach es env)=(false,x)::r) (Po:(backTo pos (starEach es env)).any (·.1)=true)
  (gS:attributeBase o name env (eval o env)=eval o env) (OB:methodCallForm (es.length+([]:List Keyword).length) (backTo pos (starEach es env)) (backToKw pos (keywordEach [] env))=false):fa prog w n env m (ay cs) (.Call (.Attribute o name apos) es [] pos) Ψ:=λs₀ W₀ aJ ad A s Q E ai F a4=>by
 rw[arm_eval_Call,gS];refine aH (aj _ A s _ E ai F.F.st F.dp F.p λv au aq az aF=>aH (wpAny_standAt ?_));rw[show v= .ref x from aq];have aX:=F.ext az aF;refine e9 λfs cD=>?_;refine ah (aX.p.2 _ ag) λjC hG a7=>?_;refine aP a7 λbQ aU=>?_;subst aU;refine ah (aX.p.2 _ hd) λhX dv bz=>?_;refine dO bz λuK k bk lZ=>?_;subst bk;refine cD ?_;unfold methodCall;rw[OB];refine aH (wpAny_holding ?_);show wpAny _ _ (do pure (<-getAttr (.ref x) name true,([]:List Value))) _ _ _;refine aH (KV aF.K hG dv lZ iu dj hf iT AG aM U fK (bu ?_));have aR:Ext au {au with heap:=au.heap.push (methodObj (.ref f) (.ref x)),toks:=au.toks+1}:= .keeps λb o e=>dV _ e;have bp:=aX.ext aR (aF.push _);have aG:(au.heap.push (methodObj (.ref f) (.ref x))).get? au.heap.objs.size=some (methodObj (.ref f) (.ref x)):=dc _ rfl;refine aH (bu ?_);refine IB (f:=f) (x:=x) (o:=of) (fd:=fd) Po (yi cv (af _ A _ _ E ai bp.F.st bp.dp bp.p λvs eb bb d9 eY=>?_));have du:=bp.ext d9 eY;have GK:=d9.keep _ _ ((aF.push _).fY aG eG) aG;refine⟨GK,eY.K _ _ nT,nQ,wpAny_call (method_call GK ?_)⟩;refine du.callC hm ai ⟨.ref x,vs,rfl,rfl,bb⟩ ⟨trivial,iW⟩ λp r' v s' aS k' aq eT cU=>?_;exact a4 p r' v s' aS ((((bC.ext az).trans (.ext aR)).trans (.ext d9)).trans k') aq eT cU
theorem qk:findIn (KF w) (.ref 97) "__setattr__"=some (some (.builtin "object.__setattr__")):=by kernel_rfl
theorem qh:plainOver (KF w) 97=true:=by kernel_rfl
theorem qn:(clsIn (KF w) 97).isSome=true:=by kernel_rfl
theorem qp(name:Str):plainGet (KF w) 97 name=true:=by kernel_rfl
theorem Mj:keepIn (KF w) (.ref 97)=true:=by kernel_rfl
theorem Km:makesIn (KF w) 97=true:=by kernel_rfl
theorem L8:findIn (KF w) (.ref 97) "__init__"=some (some (.ref 93)):=by kernel_rfl
theorem TA:typeIn (KF w) (.ref 93)=some (.type "function"):=by kernel_rfl
theorem Lj:findIn (KF w) (.ref 97) "node"=some (some (.ref 98)):=by kernel_rfl
theorem v3:findIn (KF w) (.ref 97) "npredecessors"=some (some (.ref 99)):=by kernel_rfl
theorem yE:findIn (KF w) (.ref 97) "successors"=some (some (.ref 100)):=by kernel_rfl
theorem Nl:specialIn (KF w) (.ref 98) "__get__"=some (some (.builtin "member_descriptor.__get__")):=by kernel_rfl
theorem wb:specialIn (KF w) (.ref 99) "__get__"=some (some (.builtin "member_descriptor.__get__")):=by kernel_rfl
theorem yL:specialIn (KF w) (.ref 100) "__get__"=some (some (.builtin "member_descriptor.__get__")):=by kernel_rfl
theorem Kk:takesIn (KF w) (.ref 98)=some true:=by kernel_rfl
theorem vP:takesIn (KF w) (.ref 99)=some true:=by kernel_rfl
theorem yx:takesIn (KF w) (.ref 100)=some true:=by kernel_rfl
theorem DD:slotIn (KF w) 98 97=some 0:=by kernel_rfl
theorem qd:slotIn (KF w) 99 97=some 1:=by kernel_rfl
theorem vN:slotIn (KF w) 100 97=some 2:=by kernel_rfl
theorem KQ:takerIn (KF w) 97 "node"=some (some (.ref 98)):=by kernel_rfl
theorem tx:takerIn (KF w) 97 "npredecessors"=some (some (.ref 99)):=by kernel_rfl
theorem JI:takerIn (KF w) 97 "successors"=some (some (.ref 100)):=by kernel_rfl
theorem LV:typeIn (KF w) (.ref 98)=some (.type "member_descriptor"):=by kernel_rfl
theorem tH:typeIn (KF w) (.ref 99)=some (.type "member_descriptor"):=by kernel_rfl
theorem KX:typeIn (KF w) (.ref 100)=some (.type "member_descriptor"):=by kernel_rfl
theorem qf:findIn (KF w) (.ref 194) "__setattr__"=some (some (.builtin "object.__setattr__")):=by kernel_rfl
theorem qb:plainOver (KF w) 194=true:=by kernel_rfl
theorem hO:hasDictIn (KF w) 194=true:=by kernel_rfl
theorem hu(name:Str):plainGet (KF w) 194 name=true:=by kernel_rfl
theorem Kl:keepIn (KF w) (.ref 194)=true:=by kernel_rfl
theorem JG:makesIn (KF w) 194=true:=by kernel_rfl
theorem KS:findIn (KF w) (.ref 194) "__init__"=some (some (.ref 130)):=by kernel_rfl
theorem P5:typeIn (KF w) (.ref 130)=some (.type "function"):=by kernel_rfl
theorem tL:findIn (KF w) (.ref 194) "_node2info"=some none:=by kernel_rfl
theorem tO:findIn (KF w) (.ref 194) "_ready_nodes"=some none:=by kernel_rfl
theorem D6:findIn (KF w) (.ref 194) "_npassedout"=some none:=by kernel_rfl
theorem Eg:findIn (KF w) (.ref 194) "_nfinished"=some none:=by kernel_rfl
theorem Mn:takerIn (KF w) 194 "_node2info"=some none:=by kernel_rfl
theorem DM:takerIn (KF w) 194 "_ready_nodes"=some none:=by kernel_rfl
theorem DT:takerIn (KF w) 194 "_npassedout"=some none:=by kernel_rfl
theorem Dz:takerIn (KF w) 194 "_nfinished"=some none:=by kernel_rfl
theorem K7:findIn (KF w) (.ref 194) "_get_nodeinfo"=some (some (.ref 137)):=by kernel_rfl
theorem KR:findIn (KF w) (.ref 194) "add"=some (some (.ref 144)):=by kernel_rfl
theorem Ku:findIn (KF w) (.ref 194) "prepare"=some (some (.ref 149)):=by kernel_rfl
theorem Ko:findIn (KF w) (.ref 194) "get_ready"=some (some (.ref 156)):=by kernel_rfl
theorem KL:findIn (KF w) (.ref 194) "is_active"=some (some (.ref 163)):=by kernel_rfl
theorem La:findIn (KF w) (.ref 194) "done"=some (some (.ref 177)):=by kernel_rfl
theorem K3:findIn (KF w) (.ref 194) "_find_cycle"=some (some (.ref 184)):=by kernel_rfl
theorem MO:isFn (KF w) (.ref 137)=true:=by kernel_rfl
theorem MN:isFn (KF w) (.ref 144)=true:=by kernel_rfl
theorem MA:isFn (KF w) (.ref 149)=true:=by kernel_rfl
theorem MZ:isFn (KF w) (.ref 156)=true:=by kernel_rfl
theorem MV:isFn (KF w) (.ref 163)=true:=by kernel_rfl
theorem Mx:isFn (KF w) (.ref 177)=true:=by kernel_rfl
theorem Nf:isFn (KF w) (.ref 184)=true:=by kernel_rfl
theorem IJ:nsIn (KF w) 3 "_NodeInfo"=some (some (.ref 97)):=by kernel_rfl
theorem Js:nsIn (KF w) 3 "TopologicalSorter"=some (some (.ref 194)):=by kernel_rfl
theorem Ei:nsIn (KF w) 3 "_NODE_OUT"=some (some (.int (-1) 370)):=by kernel_rfl
theorem Ml:nsIn (KF w) 3 "_NODE_DONE"=some (some (.int (-2) 373)):=by kernel_rfl
theorem vK{y:Str}{k z:Int}{c:Addr}:jQ (lK y k c) 1 (.int z)=lK y z c:=by
 funext i;unfold jQ lK;by_cases ab:i=1
 ·subst ab;rfl
 ·rw[aI ab,aI ab,aI ab]
theorem L2{x dx:Addr}{y:Str}:eQ prog w 2 93 [.val (.ref x),.str y] (ay (base++[(dx,c7 [])]++[(x,g9 97 dx λ_=>none)])) (λp r'=>p= .none/\∃c,b0 r' (ay (base++eW ⟨y,x,dx,c,0,[],none⟩))):=by
 refine eQ.of (args:=[.val (.ref x),.str y]) (names:=["self","node"]) (c:=92) (by exact⟨rfl,rfl,rfl,rfl,rfl,rfl,rfl,ee (by kernel_rfl),rfl,rfl,rfl,kinds_of (by kernel_rfl),rfl,rfl,rfl,by dsimp only,by dsimp only,by kernel_rfl⟩) (by exact rfl) ⟨trivial,trivial,trivial⟩ ?_ ?_
 ·intro W A s vs cI c5 g low bb a4;have lQ:=bb;refine bj bb λv1 _ ax _ aU=>?_;refine bj aU λv2 _ aC _ bX=>?_;subst ax aC;rw[show _=[] from bX] at lQ ⊢;exact wpAny_of_eq (a:=([("self",v1),("node",v2)]:List (Str×Value))) (by rfl) (a4 [v1,v2] s lQ (.refl s) g)
 intro env ba d8 fw d3;show aZ prog w 1 env [("self",.val (.ref x)),("node",.str y)] _ _ _;have lu:∀{cs:dU} {pos:Pos},aV prog w 1 env [("self",.val (.ref x)),("node",.str y)] (ay cs) (.Name "self" pos) (.val (.ref x)):=aV.name (by walk_at"e") (by kernel_rfl);have step:∀{f:Nat->Option ak} {i:Nat} {p:ak},b0 (ay (setC (base++[(dx,c7 [])]++[(x,g9 97 dx f)]) x (g9 97 dx (jQ f i p)))) (ay (base++[(dx,c7 [])]++[(x,g9 97 dx (jQ f i p))])):=by
  intro f i p;refine jL (by simp[br]) (by simp) λc U=>?_;rcases List.mem_append.mp U with q |q
  ·exact .inr (b6 _ q)
  ·exact .inl (cQ.mp q)
 refine aZ.cons (vB (f:=λ_=>none) (p:= .str y) (q:=c7 []) (dx:=dx) (mem:=98) (i:=0) (aV.name (by walk_at"e") (by kernel_rfl)) trivial lu (b9 _ (.head _)) (b6 _ (b9 _ (.head _))) qk qh KQ LV DD (by decide) (step.ex ?_) rfl);refine aZ.cons (vB (p:= .int 0) (q:=c7 []) (dx:=dx) (mem:=99) (i:=1) (Ev.R Ev.int) trivial lu (b9 _ (.head _)) (b6 _ (b9 _ (.head _))) qk qh tx tH qd (by decide) (step.ex ?_) rfl);refine aZ.cons (HT (x:=x) (q:=c7 []) (dx:=dx) (mem:=100) (i:=2) yc qk qh JI KX vN (by decide) ?_ rfl);intro p r' dg;refine ah dg λD dq e2=>?_;subst dq;subst e2;refine⟨trivial,_,_,.refl _,lu,b6 _ (b9 _ (.head _)),b6 _ (b6 _ (b9 _ (.head _))),aZ.nil ⟨rfl,D,?_⟩⟩;have e:jQ (jQ (jQ (λ_=>none) 0 (.str y)) 1 (.int 0)) 2 (.val (.ref D))=lK y 0 D:=by
  funext i;unfold jQ lK;by_cases ae:i=2
  ·subst ae;rfl
  ·rw[aI ae];by_cases ab:i=1
   ·subst ab;rfl
   ·rw[aI ab];by_cases h0:i=0
    ·subst h0;rfl
    ·rw[aI h0,aI h0,aI ab,aI ae]
 rw[e];refine jL ?_ ?_ λc U=>?_
 ·simp[br,eW,ka]
 ·simp[eW,ka]
 ·rcases List.mem_append.mp U with q |q
  ·exact .inr (by simp[q,ka])
  ·simp only[eW,mem_cons,not_mem_nil,or_false] at q;replace q:=q;rcases q with q |q |q
   ·exact .inr (by simp[q,ka])
   ·exact .inl q
   ·exact .inr (by simp[q,ka])
theorem Ma{x dx:Addr}:eQ prog w 2 130 [.val (.ref x)] (ay (base++[(dx,c7 [])]++[(x,fP 194 dx)])) (λp r'=>p= .none/\∃d,(d==sysModules)=false/\b0 r' (ay (base++bl.cells w ⟨x,dx,d,[],none,0,0⟩))):=by
 refine eQ.of (args:=[.val (.ref x),.none]) (names:=["self","graph"]) (c:=129) (by exact⟨rfl,rfl,rfl,rfl,rfl,rfl,rfl,ee (by kernel_rfl),rfl,rfl,rfl,kinds_of (by kernel_rfl),rfl,rfl,rfl,by dsimp only,by dsimp only,by kernel_rfl⟩) (by exact rfl) ⟨trivial,trivial,trivial⟩ ?_ ?_
 ·intro W A s vs cI c5 g low bb a4;refine bj bb λv1 _ ax ab bX=>?_;subst ax;rw[show _=[] from bX];show wpAny _ _ (seqItems? (.ref 123) >>=_) _ _ _;have QZ:(KF w).lookup 123=some {cls:= .type "tuple",data:= .seq #[.none]}:=by kernel_rfl
  refine aH (wpAny_seqItems (g.K _ _ QZ) rfl ?_);exact wpAny_of_eq (a:=([("self",v1),("graph",.none)]:List (Str×Value))) (by rfl) (a4 [v1,.none] s ⟨v1,_,rfl,ab,.none,_,rfl,rfl,rfl⟩ (.refl s) g)
 intro env ba d8 fw d3;show aZ prog w 1 env [("self",.val (.ref x)),("graph",.none)] _ _ _;have lu:∀{cs:dU} {pos:Pos},aV prog w 1 env [("self",.val (.ref x)),("graph",.none)] (ay cs) (.Name "self" pos) (.val (.ref x)):=aV.name (by walk_at"e") (by kernel_rfl);refine aZ.cons (B9 (x:=x) (dx:=dx) Ij qf qb Mn hO ?_ rfl);intro p r' eZ;refine dK eZ λD hB iX gg=>?_;subst hB;subst iX;refine⟨trivial,_,_,.refl _,lu,b6 _ (b9 _ (.head _)),b6 _ (b6 _ (b9 _ (.head _))),by decide,?_⟩
 let C:List (Str×ak)->dU:=λkv=>base++[(x,fP 194 dx),(dx,c7 kv),(D,eI w [])]
 have l0:b0 (ay (setC (base++[(dx,c7 [])]++[(x,fP 194 dx)]++[(D,eI w [])]) dx (c7 (h5 "_node2info" (.val (.ref D)) [])))) (ay (C [("_node2info",.val (.ref D))])):=by
  have aa:(base++[(dx,c7 [])]++[(x,fP 194 dx)]++[(D,eI w [])]:dU).Perm (base++[(x,fP 194 dx),(dx,c7 []),(D,eI w [])]):=by
   rw[append_assoc,append_assoc];exact Perm.append_left _ (.swap _ _ _)
  refine b0.trans (r':=ay (setC (base++[(x,fP 194 dx),(dx,c7 []),(D,eI w [])]) dx (c7 (h5 "_node2info" (.val (.ref D)) [])))) (tT (aa.map _)) ?_;refine jL (by simp[C,br]) (b9 _ (.tail _ (.head _))) λc U=>?_;simp only[C,mem_append,mem_cons,not_mem_nil,or_false] at U ⊢;replace U:=U;rcases U with U |U |U |U
  ·exact .inr (.inl U)
  ·exact .inr (.inr (.inl U))
  ·exact .inl U
  ·exact .inr (.inr (.inr (.inr U)))
 have step:∀{kv q0:List (Str×ak)},b0 (ay (setC (C kv) dx (c7 q0))) (ay (C q0)):=by
  intro kv q0;refine jL (by simp[C,br]) (by simp[C]) λc U=>?_;simp only[C,mem_append,mem_cons,not_mem_nil,or_false] at U ⊢;replace U:=U;rcases U with U |U |U |U
  ·exact .inr (.inl U)
  ·exact .inr (.inr (.inl U))
  ·exact .inl U
  ·exact .inr (.inr (.inr (.inr U)))
 have BP:∀{kv:List (Str×ak)},(x,fP 194 dx)∈C kv:=by intro kv;exact b9 _ (.head _)
 have BR:∀{kv:List (Str×ak)},(dx,c7 kv)∈C kv:=by intro kv;simp[C]
 refine l0.ex ?_;refine aZ.cons (x7 (p:= .none) (Ev.R Ev.none) trivial lu BP BR (show(1:Nat)<=100 by decide) qf qb DM hO (step.ex ?_) rfl);refine aZ.cons (x7 (p:= .int 0) (Ev.R Ev.int) trivial lu BP BR (show(2:Nat)<=100 by decide) qf qb DT hO (step.ex ?_) rfl);refine aZ.cons (x7 (p:= .int 0) (Ev.R Ev.int) trivial lu BP BR (show(3:Nat)<=100 by decide) qf qb Dz hO (step.ex ?_) rfl);refine aZ.cons (lE (c:=false) (bV.R (bV.cmp (p:= .none) (q:= .none) (by walk_at"e") Ev.none vC (by with_unfolding_all rfl))) (λh=>by injection h) λ_=>aZ.nil (aZ.nil ⟨rfl,D,gg,?_⟩));refine⟨λa=>?_,λh aa=>aa⟩;exact Iff.rfl
def wV(S:bl)(y:Str)(S':bl)(nd:dt):Prop:=nd.x=y/\((nd∈S.bq/\S'=S)\/(y∉S.bq.map (·.x)/\nd.np=0/\nd.cO=[]/\nd.pin=none/\S'={S with bq:=S.bq++[nd]}))
theorem fn_get{y:Str}(g:S.Good)(hf:S.bq.length < 100):eQ prog w 4 137 [.val (.ref S.a),.str y] (S.R w) (λp r'=>∃S' nd,b0 r' (S'.R w)/\wV S y S' nd/\p= .val (.ref nd.b)):=by
 refine eQ.of (args:=[.val (.ref S.a),.str y]) (names:=["self","node"]) (c:=136) (by exact⟨rfl,rfl,rfl,rfl,rfl,rfl,rfl,ee (by kernel_rfl),rfl,rfl,rfl,kinds_of (by kernel_rfl),rfl,rfl,rfl,by dsimp only,by dsimp only,by kernel_rfl⟩) (by exact rfl) ⟨trivial,trivial,trivial⟩ ?_ ?_
 ·intro W A s vs cI c5 g low bb a4;have lQ:=bb;refine bj bb λv1 _ ax _ a7=>?_;refine bj a7 λv2 _ aC _ bX=>?_;subst ax aC;rw[show _=[] from bX] at lQ ⊢;exact wpAny_of_eq (a:=([("self",v1),("node",v2)]:List (Str×Value))) (by rfl) (a4 [v1,v2] s lQ (.refl s) g)
 intro env ba d8 fw d3;show aZ prog w 3 env [("self",.val (.ref S.a)),("node",.str y)] _ _ _;have GS:∀{cs:dU} {m:Loc} {bW cc:Pos},bM m "self" (.val (.ref S.a))->(S.a,fP 194 S.dx)∈cs->(S.dx,c7 S.attrs)∈cs->aV prog w 3 env m (ay cs) (.Attribute (.Name "self" bW) "_node2info" cc) (.val (.ref S.d)):=λh ab ae=>
  kY (aV.name h (by kernel_rfl)) ab ae hO (hu _) tL (by exact rfl) (λi q=>by cases q) rfl
 refine aZ.cons (Cb (x:="result") (p:=((S.pairs.lookup y).map λb=>ak.val (.ref b)).getD .none) (q:= .none) (b:=(S.pairs.lookup y).isNone) ?_ ?_ (.inl (by walk_at"e")) (Ev.R Ev.none) ?_ (by with_unfolding_all rfl) (λI=>?_) λI=>?_)
 ·rw[<-vE];exact CB z6 (nj (GS (by walk_at"e") S.g4 S.g7) (vM S.vu g.sys)) Typed.eH (dd.cons (aV.name (by walk_at"e") (by kernel_rfl)) dd.nil rfl) CR rfl rfl rfl rfl
 ·(induction S.pairs.lookup y)<;>exact trivial
 ·induction S.pairs.lookup y with
  |none=>exact JD
  |some b=>exact tv
 ·
  have hT:S.pairs.lookup y=none:=by exact Option.isNone_iff_eq_none.mp I
  have av:y∉S.pairs.map (·.1):=λq=>by
   refine ah (bA.mp q) λz hz bk=>?_;subst bk;refine ah (bA.mp hz) λnd bo bz=>?_;subst bz;rw[S.find g bo] at hT;injection hT
  have RF:y∉S.bq.map (·.x):=λq=>av (by unfold bl.pairs;rw[dW];exact q);rw[hT];refine aZ.cons (IC (x:="result") (fa.make (n:=2) (C:=97) (fI:=93) (ps:=[.str y]) (px:=λdx=>g9 97 dx λ_=>none) (Ψ:=λp r'=>∃b gW c,p= .val (.ref b)/\b0 r' (ay (S.cells w++eW ⟨y,b,gW,c,0,[],none⟩))) (fC (by walk_at"e") IJ (by kernel_rfl)) Mj Km L8 TA (dd.cons (aV.name (bS (by decide+kernel) (by walk_at"e")) (by kernel_rfl)) dd.nil rfl) ⟨trivial,trivial⟩ (λdx=>⟨#[],rfl,by decide,λi=>rfl⟩) ?_ rfl rfl) (.inl (by walk_at"e")) ?_ rfl rfl)
  ·intro x dx s₀ s W₀ aJ A vs Q E ab ae aD bc dz i8 mj pY pS sC Av;refine L2 s₀ s W₀ aJ A vs Q E ab ae aD bc dz i8 mj pY pS sC λp v r' s' cU=>?_;obtain⟨b7,c,hle⟩:=cU;subst b7;exact Av .none v r' s' ⟨rfl,x,dx,c,rfl,hle⟩
  ·intro p r' gE;refine t9 gE λb gW c jU hle=>?_;subst jU
   let nd:dt:=⟨y,b,gW,c,0,[],none⟩
   let S':bl:={S with bq:=S.bq++[nd]}
   refine⟨_,S.d,S.pairs,b,y,hle,rfl,GS (bS (by decide+kernel) (by walk_at"e")) (b6 _ S.g4) (b6 _ S.g7),aV.name (bS (by kernel_rfl) (by walk_at"e")) (by kernel_rfl),b6 _ S.vu,av,by unfold bl.pairs;rw[bO];exact bH (Nat.le_of_lt ‹_›) rfl,?_⟩;have QR:b0 (ay (setC (S.cells w++eW nd) S.d (eI w (S.pairs++[(y,b)])))) (S'.R w):=by
    have e:S'.cells w=[(S.a,fP 194 S.dx),(S.dx,c7 S.attrs),(S.d,eI w (S.pairs++[(y,b)]))]++nu S.cR++S.bq.flatMap eW++eW nd:=by
     unfold bl.cells bl.pairs;show [(S.a,fP 194 S.dx),(S.dx,c7 S.attrs),(S.d,eI w ((S.bq++[nd]).map λnd=>(nd.x,nd.b)))]++nu S.cR++(S.bq++[nd]).flatMap eW=_;rw[map_append,flatMap_append, <-append_assoc];exact rfl
    unfold bl.R;rw[e];refine jL ?_ ?_ λz hz=>?_
    ·unfold bl.cells;exact rfl
    ·exact .tail _ (.tail _ (.head _))
    ·unfold bl.cells;rcases List.mem_append.mp hz with hz |hz
     ·rcases List.mem_append.mp hz with hz |hz
      ·rcases List.mem_append.mp hz with hz |hz
       ·rcases bI.mp hz with rfl |hz
        ·exact .inr (b6 _ (b6 _ (b6 _ (.head _))))
        ·rcases bI.mp hz with rfl |hz
         ·exact .inr (b6 _ (b6 _ (b6 _ (.tail _ (.head _)))))
         ·exact .inl (cQ.mp hz)
       ·exact .inr (b6 _ (b6 _ (b9 _ hz)))
      ·exact .inr (b6 _ (b9 _ hz))
     ·exact .inr (b9 _ hz)
   refine QR.ex (aZ.nil (aZ.cons (ef.ret (p:= .val (.ref b)) (aV.name a5 (by kernel_rfl)) trivial ⟨S',nd,.refl _,⟨rfl,.inr ⟨RF,rfl,rfl,rfl,rfl⟩⟩,rfl⟩)))
 ·obtain⟨b,kO⟩:∃b,S.pairs.lookup y=some b:=by
   induction q:S.pairs.lookup y with
   |none=>rw[q] at I;injection I
   |some b=>exact⟨b,rfl⟩
  refine ah (bA.mp (mem_of_lookup kO)) λnd bo q=>?_;refine aE (Prod.mk.inj q) λdy bN=>?_;refine aZ.nil (aZ.cons (ef.ret (p:= .val (.ref b)) (aV.name (by rw[kO];exact a5) (by kernel_rfl)) trivial ⟨S,nd,.refl _,⟨dy,.inl ⟨bo,rfl⟩⟩,by rw[bN]⟩))
variable {N:dS} {cI:List (Str×Value)->Shared->Prop}
theorem ya{K:Around->Prop}{r:Rs}{x:Str}{e:Expr}(he:jn prog w K env m r e Ψ)(ar:env.kindOf x=some .local\/(env.kindOf x=some .cell/\(env.cells.lookup x).isSome=true))(h:∀p r',Ψ p r'->cb p->Φ .next ((x,p)::m) r')
  (hs:swapsWith e (some (.Name x px)) pos.line env=pure false):dB prog w K env m r (.Assign [.Name x px] e pos) Φ:=λs₀ W₀ aJ ad A s E ai F=>by
 refine wpAny_Assign_Name (he s₀ W₀ aJ ad A s _ E ai F λp r' v au aX k₁ aq eT cU=>?_) hs;exact aX.F.put aq eT ar λs' aS k=>aE (aX.turn aS k) λab ae=>⟨ad,_,r',ab,k₁.trans ae,h p r' cU eT⟩
theorem oJ{r:Rs}{x:Str}{e:Expr}(he:fa prog w n env m r e Ψ)(ar:env.kindOf x=some .local\/(env.kindOf x=some .cell/\(env.cells.lookup x).isSome=true))(h:∀p r',Ψ p r'->cb p->Φ .next ((x,p)::m) r')
  (hs:swapsWith e (some (.Name x px)) pos.line env=pure false):ef prog w n env m r (.Assign [.Name x px] e pos) Φ:=ya he ar h hs
noncomputable abbrev dS:=List (Str×Int×List Str)
noncomputable def bl.bG(S:bl):dS:=S.bq.map λnd=>(nd.x,nd.np,nd.cO)
noncomputable def ha(N:dS)(y:Str):dS:=if y∈N.map (·.1) then N else N++[(y,0,[])]
noncomputable def jl(N:dS)(y:Str)(f:Int×List Str->Int×List Str):dS:=N.map λz=>if z.1=y then(z.1,f z.2) else z
noncomputable def jj(N:dS)(y:Str)(k:Int):dS:=jl N y λq=>(q.1+k,q.2)
noncomputable def sd(N:dS)(p y:Str):dS:=jl N p λq=>(q.1,q.2++[y])
noncomputable def mI(N:dS)(y:Str)(gB:List Str):dS:=gB.foldl (λN p=>sd (ha N p) p y) (jj (ha N y) y gB.length)
theorem tl:S.bG.map (·.1)=S.bq.map (·.x):=by unfold bl.bG;rw[dW];rfl
theorem tE{y:Str}{f:Int×List Str->Int×List Str}:(jl N y f).map (·.1)=N.map (·.1):=by
 unfold jl;rw[dW];refine map_congr_left λz _=>?_;show(if z.1=y then(z.1,f z.2) else z).1=z.1;split<;>rfl
theorem LJ{y:Str}:(ha N y).length<=N.length+1:=by unfold ha;split<;>simp
structure l7 (S S':bl):Prop where
 a:S'.a=S.a
 cR:S'.cR=S.cR
 po:S'.po=S.po
 da:S'.da=S.da
theorem l7.refl(S:bl):l7 S S:=⟨rfl,rfl,rfl,rfl⟩
theorem l7.trans{GR:bl}(x:l7 S S')(y:l7 S' GR):l7 S GR:=⟨y.a.trans x.a,y.cR.trans x.cR,y.po.trans x.po,y.da.trans x.da⟩
theorem wV.all{y:Str}{nd:dt}(g:S.Good)(d3:S.iz)(aA:S.bq.length < 100)(h:wV S y S' nd):S'.Good/\S'.iz/\l7 S S'/\S'.bG=ha S.bG y/\nd∈S'.bq/\nd.x=y:=by
 obtain⟨ag,⟨ab,rfl⟩ |⟨ab,ae,aD,bc,rfl⟩⟩:=h
 ·refine⟨g,d3,.refl S',?_,ab,ag⟩;unfold ha;rw[aQ];rw[tl];exact bA.mpr ⟨nd,ab,ag⟩
 ·refine⟨⟨?_,g.sys,by show(S.bq++[nd]).length<=_;rw[length_append];simp;walk_at"o"⟩,λz hz=>?_,⟨rfl,rfl,rfl,rfl⟩,?_,b9 _ (.head _),ag⟩
  ·show((S.bq++[nd]).map (·.x)).Nodup;rw[map_append,nodup_append];refine⟨g.nd,by simp,λa af b I q=>?_⟩;rw[show b=nd.x from cQ.mp I,ag] at q;exact ab (q▸af)
  ·rcases List.mem_append.mp hz with q |q
   ·exact d3 z q
   ·rw[cQ.mp q];exact bc
  ·unfold ha;rw[aI (by rw[tl];exact ab)];show(S.bq++[nd]).map _=_;rw[map_append];show _++[(nd.x,nd.np,nd.cO)]=_;rw[ag,ae,aD];rfl
theorem vZ{y:Str}{f:dt->dt}{f':Int×List Str->Int×List Str}(ag:∀nd,(f nd).x=nd.x)(hf:∀nd,((f nd).np,(f nd).cO)=f' (nd.np,nd.cO)):(S.hx y f).bG=jl S.bG y f':=by
 unfold bl.bG bl.hx jl;rw[dW,dW];refine map_congr_left λnd _=>?_;show((if nd.x=y then f nd else nd).x,(if nd.x=y then f nd else nd).np,(if nd.x=y then f nd else nd).cO)=if nd.x=y then(nd.x,f' (nd.np,nd.cO)) else(nd.x,nd.np,nd.cO)
 split
 ·rw[ag, <-hf]
 ·rfl
theorem vI{y:Str}{f:dt->dt}(d3:S.iz)(aa:∀nd,(f nd).pin=nd.pin):(S.hx y f).iz:=λz hz=>by
 refine ah (bA.mp hz) λnd bo aU=>?_;subst aU;by_cases q:nd.x=y
 ·rw[aQ q,aa];exact d3 nd bo
 ·rw[aI q];exact d3 nd bo
theorem zf{nd:dt}(h:nd∈S.bq):(nd.x,nd.np,nd.cO)∈S.bG:=bA.mpr ⟨nd,h,rfl⟩
theorem LQ{oF:Str}{v1 v2:Value}{rest:List Value}{bW cc:ak}{gB:List ak}(g:G w s.heap)(low:eB W s.heap)(hz:rest.length<=sizeLine)
  (I:bindArgs fd ⟨v1::v2::rest,[]⟩=(newTuple rest >>=λt=>pure ([(hl,v1),(hK,v2),(oF,t)]:List (Str×Value)))) (ab:a6 w s.heap W bW v1) (ae:a6 w s.heap W cc v2) (aD:bJ w s.heap W gB rest)
  (a4:∀eh au,bJ w au.heap W [bW,cc,.tup gB] eh->Ext s au->G w au.heap->cI ([hl,hK,oF].zip eh) au):wpAny (model prog w) A (bindArgs fd ⟨v1::v2::rest,[]⟩) cI c5 s:=by
 rw[I];refine aH (wpAny_newTuple (bu ?_) hz);have e:Ext s {s with heap:=s.heap.push {cls:= .type "tuple",data:= .seq rest.toArray}}:= .push ..;exact a4 [v1,v2,.ref s.heap.objs.size] _ ⟨v1,_,rfl,ab.ext g e,v2,_,rfl,ae.ext g e,_,_,rfl,⟨_,rest,0,rfl,low.fresh,dc _ rfl,aD.ext g e⟩,rfl⟩ e (g.push _)
theorem Nr{y:Str}(g:S.Good)(jN:S.iz)(bf:S.cR=none)(aa:gB.length<=1)(aA:S.bq.length<=90)(Bc:∀z∈S.bG,z.2.2.length<=1000):eQ prog w 6 144 (.val (.ref S.a):: .str y::aB gB) (S.R w) (λp r'=>p= .none/\∃S',b0 r' (S'.R w)/\S'.Good/\S'.iz/\l7 S S'/\S'.bG=mI S.bG y gB):=by
 have de:sizeLine=2 ^ 24:=rfl;refine eQ.of (args:=[.val (.ref S.a),.str y,.tup (aB gB)]) (names:=["self","node","predecessors"]) (c:=143) (by exact⟨rfl,rfl,rfl,rfl,rfl,rfl,rfl,ee (by kernel_rfl),rfl,rfl,rfl,kinds_of (by kernel_rfl),rfl,rfl,rfl,by dsimp only,by dsimp only,by kernel_rfl⟩) (by exact rfl) ⟨trivial,trivial,d5,trivial⟩ ?_ ?_
 ·intro W A s vs cI c5 g low bb a4;refine bj bb λv1 _ ax ab a7=>?_;refine bj a7 λv2 rest aC ae aD=>?_;subst ax aC;have hlen:=aD.len;rw[cz] at hlen;have I:∀fd:FuncData,(rest=[]->bindArgs fd ⟨[v1,v2],[]⟩=(newTuple [] >>=λt=>pure ([("self",v1),("node",v2),("predecessors",t)]:List (Str×Value))))->(∀oD,rest=[oD]->bindArgs fd ⟨[v1,v2,oD],[]⟩=(newTuple [oD] >>=λt=>pure ([("self",v1),("node",v2),("predecessors",t)]:List (Str×Value))))->bindArgs fd ⟨v1::v2::rest,[]⟩=(newTuple rest >>=λt=>pure ([("self",v1),("node",v2),("predecessors",t)]:List (Str×Value))):=λfd a b=>by
   induction rest with
   |nil=>exact a rfl
   |cons oD r=>
    induction r with
    |nil=>exact b oD rfl
    |cons _ _=>simp at hlen;walk_at"o"
  exact LQ g low (by walk_at"o") (I _ (λ_=>by exact rfl) λoD _=>by exact rfl) ab ae aD a4
 intro env ba d8 fw d3;show aZ prog w 5 env [("self",.val (.ref S.a)),("node",.str y),("predecessors",.tup (aB gB))] _ _ _;refine ht λxg nM=>?_;refine aZ.cons (lE (c:=false) (gr.cmp (p:= .none) (q:= .none) (kY (aV.name (by walk_at"e") (by kernel_rfl)) S.g4 S.g7 hO (hu _) tO (by unfold bl.attrs;rw[bf];exact rfl) (λi q=>by injection q) rfl) (Ev.R Ev.none) vC (by with_unfolding_all rfl)) (λh=>by injection h) λ_=>aZ.nil ?_);have FR:∀{S:bl} {m:Loc} {x z:Str} {bW cc fN fy:Pos} {eU:Sem Bool},S.Good->S.bq.length < 100->(eval (.Call (.Attribute (.Name "self" bW) "_get_nodeinfo" cc) [.Name x fN] [] fy) env=(do
   let g0<-eval (.Name "self" bW) env
   standAt cc.atName
   let(f,first)<-holding [g0] (getMethod g0 "_get_nodeinfo" eU)
   callWith fy f first (backTo fy (starEach [.Name x fN] env)) (backToKw fy (keywordEach [] env))))->bM m "self" (.val (.ref S.a))->bM m x (.str z)->(x==("__debug__":Str))=false->fa prog w 5 env m (S.R w) (.Call (.Attribute (.Name "self" bW) "_get_nodeinfo" cc) [.Name x fN] [] fy) (λp r'=>∃S' nd,b0 r' (S'.R w)/\wV S z S' nd/\p= .val (.ref nd.b)):=λ{S m x z bW cc fN fy eU} g hf fo ab ae aD=>by
  have:=fn_get (prog:=prog) (w:=w) (y:=z) g hf;refine vF (aV.name ab (by kernel_rfl)) S.g4 S.g7 (hu _) K7 MO (by exact rfl) (by exact rfl) (by exact rfl) (dd.cons (aV.name ae aD) dd.nil rfl) ⟨trivial,trivial⟩ ?_ (.inr ⟨_,_,rfl⟩) fo;exact λs₀ s W₀ aJ A vs Q E ai=>this s₀ s W₀ aJ A vs Q E (ai.le (by exact fW rfl))
 refine aZ.cons (oJ (FR g (by exact od ‹_› rfl) rfl (by walk_at"e") (by walk_at"e") (by kernel_rfl)) (.inl (by walk_at"e")) ?_ rfl);intro p r' dg _;refine bj dg λb3 nd hle iw dq=>?_;subst dq;refine ud (iw.all g jN (by exact od ‹_› rfl)) λg1 xe bP ma bo ag=>?_;have rd:b3.bq.length<=91:=by
  have:=LJ (N:=S.bG) (y:=y);rw[<-ma] at this;simp only[bl.bG,length_map] at this;walk_at"o"
 refine hle.ex ?_;refine aZ.cons (CF (x:=nd.b) (dx:=nd.gW) (mem:=99) (ix:=1) (i:=nd.np) (j:=gB.length) (z:=nd.np+gB.length) (aV.name a5 (by kernel_rfl)) (Ev.R (Ev.call (ft (by walk_at"e") nv (by exact rfl) (by decide+kernel) (by kernel_rfl)) (.inl ⟨"len",rfl⟩) (aK.cons (Ev.name (bS (by decide+kernel) (by walk_at"e")) (by kernel_rfl)) aK.nil rfl) (cz (a:=gB)▸Dg (by rw[cz];exact bH ‹_› rfl)) rfl rfl)) (b3.p0 bo) (b3.pW bo) (λA s t eV Q E h=>PySem.AutoIntOps.iadd_0 h) qn (qp _) v3 wb vP qd (by decide) rfl qk qh tx tH ?_);rw[vK]
 let f1:dt->dt:=λnd=>{nd with np:=nd.np+gB.length}
 have uT:=v5 (w:=w) (f:=f1) g1 bo (λ_=>rfl) (λ_=>rfl) (λ_=>rfl) (λ_=>rfl) (a:=nd.b) (p:=g9 97 nd.gW (lK nd.x (nd.np+gB.length) nd.c)) (by exact .tail _ (.head _)) (λc U=>by
  simp only[eW,f1,mem_cons,not_mem_nil,or_false] at U ⊢;replace U:=U;rcases U with U |U |U
  ·exact .inr (.inl U)
  ·exact .inl U
  ·exact .inr (.inr (.inr U)))
 refine uT.ex ?_;have q4:(b3.hx nd.x f1).iz:=vI xe λ_=>rfl;have g2:=b3.p7 g1 (y:=nd.x) (f:=f1) λ_=>rfl;have lT:(b3.hx nd.x f1).bG=jj (ha S.bG y) y gB.length:=by
  rw[vZ (f:=f1) (f':=λq=>(q.1+gB.length,q.2)) (λ_=>rfl) λ_=>rfl,ma,ag];rfl
 have cJ:l7 S (b3.hx nd.x f1):=bP.trans ⟨rfl,rfl,rfl,rfl⟩;have xp:(b3.hx nd.x f1).bq.length<=91:=by show(List.map _ _).length<=_;rw[bO];exact rd
 generalize VU:b3.hx nd.x f1=cG at*;induction cG using jf;rename_i cG
 have Fi:∀z∈cG.bG,z.2.2.length<=1000:=λz hz=>by
  rw[lT] at hz;refine ah (bA.mp hz) λeN eD bk=>?_;subst bk;have:eN.2.2.length<=1000:=by
   unfold ha at eD;split at eD
   ·exact Bc eN eD
   ·rcases List.mem_append.mp eD with q |q
    ·exact Bc eN q
    ·rw[cQ.mp q];exact c0 _
  split<;>exact this
 let ig:Nat->Loc->Rs->Prop:=λj m' r'=>bM m' "self" (.val (.ref S.a))/\bM m' "node" (.str y)/\∃S',b0 r' (S'.R w)/\S'.Good/\S'.iz/\l7 S S'/\S'.bG=(gB.take j).foldl (λN p=>sd (ha N p) p y) cG.bG/\(j=0->S'=cG)
 refine aZ.cons (ni (q:= .tup (aB gB)) (ps:=aB gB) ig (aV.name (bS (by decide+kernel) (by walk_at"e")) (by kernel_rfl)) cw.tup d5 (λp aa=>by refine ah (hv aa) λx _ bz=>?_;subst bz;exact trivial) (.inl (by walk_at"e")) ⟨by walk_at"e",by walk_at"e",cG,.refl _,g2,q4,cJ,rfl,λ_=>rfl⟩ ?_ ?_ (λ_=>rfl))
 ·intro j p m' r' gL eZ;refine ht λpK hQ=>?_;refine cB eZ λa1 a2 e2=>?_;refine sg e2 λe5 z5 g3 q8 gy sx SP=>?_;rw[d7] at gL;refine ah (Option.map_eq_some_iff.mp gL) λq aG b7=>?_;subst b7;have aN:j=0:=by have:=iL aG;walk_at"o"
  subst aN;have:=SP rfl;subst this;refine z5.ex ?_;refine aZ.cons (oJ (FR (z:=q) g2 (by exact od ‹_› rfl) rfl (by rw[<-cJ.a] at a1;exact bS (by kernel_rfl) a1) a5 (by kernel_rfl)) (.inl (by walk_at"e")) ?_ rfl);intro p eR gE _;refine bj gE λoA mU Ro O5 hB=>?_;subst hB;refine ud (O5.all g2 q4 (by exact od ‹_› rfl)) λtd w5 ou GL o8 AK=>?_;refine Ro.ex ?_;have Vj:mU.cO.length<=1000:=by
   have hm:=zf o8;rw[GL] at hm;replace hm:=hm;unfold ha at hm;split at hm
   ·exact Fi _ hm
   ·rcases List.mem_append.mp hm with z |z
    ·exact Fi _ z
    ·have:=cQ.mp z;have ae:mU.cO=[]:=congrArg (λz=>z.2.2) this;rw[ae];exact c0 _
  refine aZ.cons (vD (id:="list.append") (a:=mU.c) (l:=mU.cO) (l':=mU.cO++[y]) (ps:=[.str y]) k4 (tp (x:=mU.b) (dx:=mU.gW) (mem:=100) (i:=2) (aV.name a5 (by kernel_rfl)) (oA.p0 o8) (oA.pW o8) qn (qp _) yE yL yx vN rfl (λi q=>by cases q) rfl) (oA.Hy o8 (w5 _ o8)) (dd.cons (aV.name (bS (by kernel_rfl) (bS (by kernel_rfl) a2)) (by kernel_rfl)) dd.nil rfl) ⟨trivial,trivial⟩ (by rw[jH];exact iE.append (by rw[cz];exact bH ‹_› rfl)) ?_ rfl rfl rfl rfl (jc ba) rfl)
  let f4:dt->dt:=λnd=>{nd with cO:=nd.cO++[y]}
  have A3:=v5 (w:=w) (f:=f4) td o8 (λ_=>rfl) (λ_=>rfl) (λ_=>rfl) (λ_=>rfl) (a:=mU.c) (p:=cy (mU.cO++[y])) (by simp[eW,f4,ka,w5 _ o8]) (λc U=>by
   simp only[eW,f4,w5 _ o8,ka,mem_cons,not_mem_nil,or_false] at U ⊢;replace U:=U;rcases U with U |U |U
   ·exact .inr (.inl U)
   ·exact .inr (.inr (.inl U))
   ·exact .inl U)
  subst hQ;refine A3.ex (aZ.nil ⟨by walk_at"e",by walk_at"e",oA.hx mU.x f4,.refl _,oA.p7 td λ_=>rfl,vI w5 λ_=>rfl,(cJ.trans ou).trans ⟨rfl,rfl,rfl,rfl⟩,?_,λh=>by injection h⟩);rw[vZ (f:=f4) (f':=λq=>(q.1,q.2++[y])) (λ_=>rfl) λ_=>rfl,GL,AK,take_add_one,aG];rfl
 ·intro m' r' h9;refine cB h9 λ_ _ iX=>?_;refine sg iX λe5 z5 g3 q8 gy sx _=>?_;rw[cz,take_length] at sx;subst nM;exact aZ.nil (aZ.nil ⟨rfl,e5,z5,g3,q8,gy,by rw[sx,lT];rfl⟩)
theorem Kw:nsIn (KF w) 3 "tuple"=some none:=by kernel_rfl
theorem Lr:nsIn (KF w) 3 "bool"=some none:=by kernel_rfl
theorem bl.has{y:Str}(h:y∈S.bG.map (·.1)):∃nd∈S.bq,nd.x=y:=by
 rw[tl] at h;refine ah (bA.mp h) λnd a b=>?_;exact⟨nd,a,b⟩
theorem Dr{nd:dt}{d e:Expr}(g:S.Good)(h:nd∈S.bq)(hd:aV prog w n env m (S.R w) d (.val (.ref S.d)))(he:aV prog w n env m (S.R w) e (.str nd.x))(hs:∀o j,subscripted e false o j=operate [o,j] (getItem o j)):aV prog w n env m (S.R w) (.Subscript d e pos) (.val (.ref nd.b)):=
 aV.item (nj hd (vM S.vu g.sys)) he Typed.eH slot_dict_getitem.lookup (rK (by rw[vE,S.find g h];rfl)) hs
theorem rQ{c:Str}{p:ak}(g:G w s.heap)(bb:bJ w s.heap W [p] vs)
  (I:∀v,bindArgs fd ⟨[v],[]⟩=pure ([(c,v)]:List (Str×Value)))
  (a4:∀eh au,bJ w au.heap W [p] eh->Ext s au->G w au.heap->cI ([c].zip eh) au):wpAny (model prog w) A (bindArgs fd ⟨vs,[]⟩) cI c5 s:=by
 have lQ:=bb;refine bj bb λv1 _ ax _ bX=>?_;subst ax;rw[show _=[] from bX] at lQ ⊢;exact wpAny_of_eq (a:=([(c,v1)]:List (Str×Value))) (I v1) (a4 [v1] s lQ (.refl s) g)
theorem yt(g:S.Good){nd:dt}(h:nd∈S.bq){k:Int}:b0 (ay (setC (S.cells w) nd.b (g9 97 nd.gW (lK nd.x k nd.c)))) ((S.hx nd.x λnd=>{nd with np:=k}).R w):=
 v5 (f:=λnd=>{nd with np:=k}) g h (λ_=>rfl) (λ_=>rfl) (λ_=>rfl) (λ_=>rfl) (a:=nd.b) (p:=g9 97 nd.gW (lK nd.x k nd.c)) (.tail _ (.head _)) (λc U=>by
  rcases bI.mp U with U |U
  ·exact .inr (U▸ .head _)
  ·rcases bI.mp U with U |U
   ·exact .inl U
   ·exact .inr (.tail _ (.tail _ U)))
noncomputable def k6(N:dS)(y:Str)(k:Int):dS:=jl N y λq=>(k,q.2)
theorem yr{y:Str}{k:Int}:(S.hx y λnd=>{nd with np:=k}).bG=k6 S.bG y k:=vZ (f:=λnd=>{nd with np:=k}) (f':=λq=>(k,q.2)) (λ_=>rfl) λ_=>rfl
structure nH (S S':bl):Prop where
 good:S'.Good
 free:S'.iz
 a:S'.a=S.a
 d:S'.d=S.d
theorem b0.of_eq{r:Rs}(h:r=r'):b0 r r':=h▸ .refl _
theorem Lc{l:List Str}(g:S.Good)(jN:S.iz)(bf:S.cR=some (eo,l))(ao:l.length<=1000)(gp:∀y∈l,y∈S.bG.map (·.1)):eQ prog w 3 156 [.val (.ref S.a)] (S.R w) (λp r'=>p= .tup (aB l)/\∃S',b0 r' (S'.R w)/\nH S S'/\S'.bG=l.foldl (λN y=>k6 N y (-1)) S.bG/\S'.cR=some (eo,[])/\S'.po=S.po+l.length/\S'.da=S.da):=by
 have de:sizeLine=2 ^ 24:=rfl;refine eQ.of (args:=[.val (.ref S.a)]) (names:=["self"]) (c:=155) (by exact⟨rfl,rfl,rfl,rfl,rfl,rfl,rfl,ee (by kernel_rfl),rfl,rfl,rfl,kinds_of (by kernel_rfl),rfl,rfl,rfl,by dsimp only,by dsimp only,by kernel_rfl⟩) (by exact rfl) ⟨trivial,trivial⟩ (λW A s vs cI c5 g low bb a4=>rQ g bb (λv=>by exact rfl) a4) ?_;intro env ba d8 fw d3;show aZ prog w 2 env [("self",.val (.ref S.a))] _ _ _;refine ht λxg nM=>?_;have cR:∀{S:bl} {eo:Addr} {l:List Str} {m:Loc} {bW cc:Pos},S.cR=some (eo,l)->bM m "self" (.val (.ref S.a))->aV prog w 2 env m (S.R w) (.Attribute (.Name "self" bW) "_ready_nodes" cc) (.val (.ref eo)):=λ{S eo l m bW cc} bf h=>
  kY (aV.name h (by kernel_rfl)) S.g4 S.g7 hO (hu _) tO (by unfold bl.attrs;rw[bf];exact rfl) (λi q=>by cases q) rfl
 refine aZ.cons (lE (c:=false) (gr.cmp (cR bf (by walk_at"e")) (Ev.R Ev.none) tv (by with_unfolding_all rfl)) (λh=>by injection h) λ_=>aZ.nil ?_);refine aZ.cons (lD (p:= .tup (aB l)) (CI (ft (by walk_at"e") Kw (by exact rfl) (by decide+kernel) (by kernel_rfl)) (dd.cons (nj (cR bf (by walk_at"e")) (tD (S.x4 bf))) dd.nil rfl) (I4 (by rw[cz];exact bH ‹_› rfl)) rfl rfl) d5 (.inl (by walk_at"e")) ?_ rfl);refine aZ.cons (lD (p:= .val (.ref S.d)) (kY (aV.name (by walk_at"e") (by kernel_rfl)) S.g4 S.g7 hO (hu _) tL (by exact rfl) (λi q=>by cases q) rfl) trivial (.inl (by walk_at"e")) ?_ rfl)
 let ig:Nat->Loc->Rs->Prop:=λj m' r'=>bM m' "self" (.val (.ref S.a))/\bM m' "result" (.tup (aB l))/\bM m' "n2i" (.val (.ref S.d))/\∃S',b0 r' (S'.R w)/\nH S S'/\S'.bG=(l.take j).foldl (λN y=>k6 N y (-1)) S.bG/\S'.cR=S.cR/\S'.po=S.po/\S'.da=S.da
 refine aZ.cons (ni (q:= .tup (aB l)) (ps:=aB l) ig (aV.name (by walk_at"e") (by kernel_rfl)) cw.tup d5 (λp aa=>by refine ah (hv aa) λx _ aU=>?_;subst aU;exact trivial) (.inl (by walk_at"e")) ⟨by walk_at"e",by walk_at"e",by walk_at"e",S,.refl _,⟨g,jN,rfl,rfl⟩,rfl,rfl,rfl,rfl⟩ ?_ ?_ (λ_=>rfl))
 ·intro j p m' r' gL dg;refine ht λpK hQ=>?_;refine eK dg λa1 a2 dF dq=>?_;refine sg dq λb3 hle hj ma ax aC a8=>?_;rw[d7] at gL;refine ah (Option.map_eq_some_iff.mp gL) λy av a7=>?_;subst a7;have iq:y∈b3.bG.map (·.1):=by
   rw[ma];have:∀(ys:List Str) (N:dS),(ys.foldl (λN y=>k6 N y (-1)) N).map (·.1)=N.map (·.1):=λys=>by
    induction ys with
    |nil=>intro N;rfl
    |cons z r aw=>intro N;rw[foldl_cons,aw];exact tE
   rw[this];exact gp y (eP av)
  refine ah (bl.has iq) λnd bo bk=>?_;subst bk;refine hle.ex ?_;rw[<-hj.d] at dF;replace dF:=dF;refine aZ.cons (vB (p:= .int (-1)) (q:=c7 []) (dx:=nd.gW) (mem:=99) (i:=1) (Ev.R (yo (by walk_at"e") Ei (by kernel_rfl))) trivial (Dr hj.good bo (aV.name (bS (by kernel_rfl) dF) (by kernel_rfl)) (aV.name a5 (by kernel_rfl)) λ_ _=>rfl) (b3.p0 bo) (b3.pW bo) qk qh tx tH qd (by decide) ?_ rfl);rw[vK];subst hQ;refine(yt hj.good bo).ex (aZ.nil ⟨by walk_at"e",by walk_at"e",by rw[hj.d] at dF;walk_at"e",b3.hx nd.x λnd=>{nd with np:= -1},.refl _,⟨b3.p7 hj.good λ_=>rfl,vI hj.free λ_=>rfl,hj.a,hj.d⟩,?_,ax,aC,a8⟩);rw[yr,ma,take_add_one,av,toList_some,foldl_append];rfl
 ·intro m' r' eZ;refine eK eZ λa1 a2 dF e2=>?_;refine sg e2 λb3 hle hj ma ax aC a8=>?_;rw[cz,take_length] at ma;refine aZ.nil (hle.ex ?_);rw[<-hj.a] at a1;replace a1:=a1;have lq:=ax.trans bf;refine aZ.cons (vD (id:="list.clear") (a:=eo) (l:=l) (l':=[]) (ps:=[]) NB (cR lq a1) (b3.x4 lq) dd.nil trivial (I8 (by rw[cz];exact bH ‹_› rfl)) ?_ rfl rfl rfl rfl (jc ba) rfl)
  let cG:bl:={b3 with cR:=some (eo,[])}
  have n7:b0 (ay (setC (b3.cells w) eo (cy []))) (cG.R w):=EC lq;have VN:nH S cG:=⟨⟨hj.good.nd,hj.good.sys,hj.good.pB⟩,hj.free,hj.a,hj.d⟩
  refine n7.ex ?_;refine aZ.cons (Cw (i:=b3.po) (j:=l.length) (aV.name a1 (by kernel_rfl)) (CH (ft (by walk_at"e") nv (by exact rfl) (by decide+kernel) (by kernel_rfl)) (dd.cons (aV.name a2 (by kernel_rfl)) dd.nil rfl) (cz (a:=l)▸Dg (by rw[cz];exact bH ‹_› rfl)) rfl rfl) cG.g4 cG.g7 (show(4:Nat)<=100 by decide) hO (hu _) D6 (by exact rfl) qf qb DT ?_)
  let e5:bl:={cG with po:=b3.po+l.length}
  have A7:b0 (ay (setC (cG.cells w) cG.dx (c7 (h5 "_npassedout" (.int (b3.po+l.length)) cG.attrs)))) (e5.R w):=DS (S':=e5) rfl rfl rfl rfl rfl;subst nM;refine A7.ex (aZ.cons (ef.ret (p:= .tup (aB l)) (aV.name a2 (by kernel_rfl)) d5 ⟨rfl,e5,.refl _,⟨⟨hj.good.nd,hj.good.sys,hj.good.pB⟩,hj.free,hj.a,hj.d⟩,ma,rfl,by show b3.po+_=_;rw[aC],a8⟩))
theorem KZ{l:List Str}(bf:S.cR=some (eo,l))(ao:l.length<=1000):eQ prog w 3 163 [.val (.ref S.a)] (S.R w) (λp r'=>p= .bool (decide (S.da < S.po)|| !l.isEmpty)/\b0 r' (S.R w)):=by
 have de:sizeLine=2 ^ 24:=rfl;refine eQ.of (args:=[.val (.ref S.a)]) (names:=["self"]) (c:=162) (by exact⟨rfl,rfl,rfl,rfl,rfl,rfl,rfl,ee (by kernel_rfl),rfl,rfl,rfl,kinds_of (by kernel_rfl),rfl,rfl,rfl,by dsimp only,by dsimp only,by kernel_rfl⟩) (by exact rfl) ⟨trivial,trivial⟩ (λW A s vs cI c5 g low bb a4=>rQ g bb (λv=>by exact rfl) a4) ?_;intro env ba d8 fw d3;show aZ prog w 2 env [("self",.val (.ref S.a))] _ _ _;have lu:∀{p:Pos},aV prog w 2 env [("self",.val (.ref S.a))] (S.R w) (.Name "self" p) (.val (.ref S.a)):=aV.name (by walk_at"e") (by kernel_rfl);have cR:∀{bW cc:Pos},aV prog w 2 env [("self",.val (.ref S.a))] (S.R w) (.Attribute (.Name "self" bW) "_ready_nodes" cc) (.val (.ref eo)):=
  kY lu S.g4 S.g7 hO (hu _) tO (by unfold bl.attrs;rw[bf];exact rfl) (λi q=>by cases q) rfl
 refine aZ.cons (lE (c:=false) (gr.cmp cR (Ev.R Ev.none) tv (by with_unfolding_all rfl)) (λh=>by injection h) λ_=>aZ.nil ?_);refine aZ.cons (ef.ret (KA (x:=decide (S.da < S.po)) (y:= !l.isEmpty) (aV.cmp (p:= .int S.da) (q:= .int S.po) (kY lu S.g4 S.g7 hO (hu _) Eg (by exact rfl) (λi q=>by injection q) rfl) (kY lu S.g4 S.g7 hO (hu _) D6 (by exact rfl) (λi q=>by injection q) rfl) yB (by with_unfolding_all rfl)) λ_=>?_) trivial ⟨rfl,.refl _⟩);have:(!l.isEmpty)= !(aB l).isEmpty:=by(induction l)<;>rfl
 rw[this];exact CI (ft (by walk_at"e") Lr (by exact rfl) (by decide+kernel) (by kernel_rfl)) (dd.cons (nj cR (tD (S.x4 bf))) dd.nil rfl) (JE (by rw[cz];exact bH ‹_› rfl)) rfl rfl
theorem C9{c:Addr}{p:Obj->Prop}(le:b0 (ay (setC cs c p)) r'):r'.J=(ay cs).J/\∀h,(ay cs).P h->(∃o,h.get? c=some o/\p o)->r'.P h:=by
 refine⟨funext λa=>propext ⟨λq=>?_,λq=>?_⟩,λh aa aj=>le.2 h ⟨?_,λz hz=>?_⟩⟩
 ·have:a∈br (setC cs c p):=(le.1 a).mpr q;rw[p8] at this;exact this
 ·refine(le.1 a).mp ?_;show a∈br (setC cs c p);rw[p8];exact q
 ·rw[p8];exact aa.1
 ·refine ah (bA.mp hz) λeN eD aU=>?_;subst aU;by_cases q:eN.1=c
  ·rw[aQ q];refine ah aj λo e ae=>?_;exact⟨o,q▸e,ae⟩
  ·rw[aI q];exact aa.2 eN eD
noncomputable def bl.r9(S:bl)(y:Str)(o:Option Obj):bl:=S.hx y λnd=>{nd with pin:=o}
theorem DA(g:S.Good){nd:dt}(h:nd∈S.bq)(o:Option Obj):b0 (ay (setC (S.cells w) nd.c (ka o nd.cO))) ((S.r9 nd.x o).R w):=
 v5 (f:=λnd=>{nd with pin:=o}) g h (λ_=>rfl) (λ_=>rfl) (λ_=>rfl) (λ_=>rfl) (.tail _ (.tail _ (.head _))) (λc U=>by
  rcases bI.mp U with U |U
  ·exact .inr (U▸ .head _)
  ·rcases bI.mp U with U |U
   ·exact .inr (U▸ .tail _ (.head _))
   ·exact .inl (cQ.mp U))
theorem DJ{y:Str}{o:Option Obj}:(S.r9 y o).bG=S.bG:=by
 unfold bl.r9;rw[vZ (f:=λnd=>{nd with pin:=o}) (f':=id) (λ_=>rfl) λ_=>rfl];unfold jl;exact(map_congr_left λz _=>by show(if z.1=y then(z.1,z.2) else z)=z;split<;>rfl).trans (List.map_id _)
noncomputable def oa(N:dS)(y:Str):Int:=((N.lookup y).map (·.1)).getD 0
noncomputable def mS(N:dS)(y:Str):List Str:=((N.lookup y).map (·.2)).getD []
theorem bl.yW(g:S.Good){nd:dt}(h:nd∈S.bq):S.bG.lookup nd.x=some (nd.np,nd.cO):=
 vz (y:=(nd.x,nd.np,nd.cO)) (by rw[tl];exact g.nd) (zf h)
noncomputable def fF(q:dS×List Str)(z:Str):dS×List Str:=(jj q.1 z (-1),if oa (jj q.1 z (-1)) z=0 then q.2++[z] else q.2)
noncomputable def jM(N:dS)(l:List Str)(y:Str):dS×List Str:=(mS N y).foldl fF (k6 N y (-2),l)
theorem JK{q:dS×List Str}:(fF q z).1.map (·.1)=q.1.map (·.1):=by
 show(jj q.1 z (-1)).map (·.1)=_;unfold jj;exact tE
theorem Kq{q:dS×List Str}:(fF q z).2.length<=q.2.length+1:=by
 unfold fF;dsimp only;split<;>simp
theorem I0:∀{zs:List Str} {q:dS×List Str},(zs.foldl fF q).1.map (·.1)=q.1.map (·.1):=by
 intro a9;induction a9 with
 |nil=>
  intro q;exact rfl
 |cons z r aw=>
  intro q;rw[foldl_cons,aw,JK]
theorem JZ:∀{zs:List Str} {q:dS×List Str},(zs.foldl fF q).2.length<=q.2.length+zs.length:=by
 intro a9;induction a9 with
 |nil=>
  intro q;exact Nat.le_refl _
 |cons z r aw=>
  intro q;rw[foldl_cons];have ab:=aw (q:=fF q z);have ae:=Kq (z:=z) (q:=q);rw[dI];walk_at"o"
theorem Mo{bW cc:ak}(g:G w s.heap)(low:eB W s.heap)(bb:bJ w s.heap W [bW,cc] vs)
  (I:∀v1 v2,bindArgs fd ⟨[v1,v2],[]⟩=(newTuple [v2] >>=λt=>pure ([(hl,v1),(hK,t)]:List (Str×Value))))
  (a4:∀eh au,bJ w au.heap W [bW,.tup [cc]] eh->Ext s au->G w au.heap->cI ([hl,hK].zip eh) au):wpAny (model prog w) A (bindArgs fd ⟨vs,[]⟩) cI c5 s:=by
 refine bj bb λv1 _ ax ab a7=>?_;refine bj a7 λv2 _ aC ae bX=>?_;subst ax aC;rw[show _=[] from bX,I];refine aH (wpAny_newTuple (bu ?_) (fW rfl));have e:Ext s {s with heap:=s.heap.push {cls:= .type "tuple",data:= .seq [v2].toArray}}:= .push ..;exact a4 [v1,.ref s.heap.objs.size] _ ⟨v1,_,rfl,ab.ext g e,_,_,rfl,⟨_,[v2],0,rfl,low.fresh,dc _ rfl,⟨v2,_,rfl,ae.ext g e,rfl⟩⟩,rfl⟩ e (g.push _)
theorem Np{l:List Str}{nd:dt}(g:S.Good)(jN:S.iz)(bf:S.cR=some (eo,l))(ao:l.length<=1000)(bo:nd∈S.bq)(Rv:nd.np= -1)(Bc:nd.cO.length<=1000)(gp:∀z∈nd.cO,z∈S.bG.map (·.1)):eQ prog w 3 177 [.val (.ref S.a),.str nd.x] (S.R w) (λp r'=>p= .none/\∃S',b0 r' (S'.R w)/\nH S S'/\S'.bG=(jM S.bG l nd.x).1/\S'.cR=some (eo,(jM S.bG l nd.x).2)/\S'.po=S.po/\S'.da=S.da+1):=by
 have de:sizeLine=2 ^ 24:=rfl;refine eQ.of (args:=[.val (.ref S.a),.tup [.str nd.x]]) (names:=["self","nodes"]) (c:=176) (by exact⟨rfl,rfl,rfl,rfl,rfl,rfl,rfl,ee (by kernel_rfl),rfl,rfl,rfl,kinds_of (by kernel_rfl),rfl,rfl,rfl,by dsimp only,by dsimp only,by kernel_rfl⟩) (by exact rfl) ⟨trivial,⟨trivial,trivial⟩,trivial⟩ (λW A s vs cI c5 g low bb a4=>Mo g low bb (λv1 v2=>by exact rfl) a4) ?_;intro env ba d8 fw d3;show aZ prog w 2 env [("self",.val (.ref S.a)),("nodes",.tup [.str nd.x])] _ _ _;refine ht λxg nM=>?_;have cR:∀{S:bl} {eo:Addr} {l:List Str} {m:Loc} {bW cc:Pos},S.cR=some (eo,l)->bM m "self" (.val (.ref S.a))->aV prog w 2 env m (S.R w) (.Attribute (.Name "self" bW) "_ready_nodes" cc) (.val (.ref eo)):=λ{S eo l m bW cc} bf h=>
  kY (aV.name h (by kernel_rfl)) S.g4 S.g7 hO (hu _) tO (by unfold bl.attrs;rw[bf];exact rfl) (λi q=>by cases q) rfl
 have Hg:∀{S:bl} {nd:dt} {m:Loc} {x:Str} {bW cc:Pos},nd∈S.bq->bM m x (.val (.ref nd.b))->(x==("__debug__":Str))=false->attributeBase (.Name x bW) "npredecessors" env (eval (.Name x bW) env)=eval (.Name x bW) env->aV prog w 2 env m (S.R w) (.Attribute (.Name x bW) "npredecessors" cc) (.int nd.np):=λ{S nd m x bW cc} h ag hd I=>
  tp (x:=nd.b) (dx:=nd.gW) (mem:=99) (i:=1) (aV.name ag hd) (S.p0 h) (S.pW h) qn (qp _) v3 wb vP qd rfl (λi q=>by injection q) I
 refine aZ.cons (lE (c:=false) (gr.cmp (cR bf (by walk_at"e")) (Ev.R Ev.none) tv (by with_unfolding_all rfl)) (λh=>by injection h) λ_=>aZ.nil ?_);refine aZ.cons (lD (p:= .val (.ref S.d)) (kY (aV.name (by walk_at"e") (by kernel_rfl)) S.g4 S.g7 hO (hu _) tL (by exact rfl) (λi q=>by cases q) rfl) trivial (.inl (by walk_at"e")) ?_ rfl)
 let ig:Nat->Loc->Rs->Prop:=λj m' r'=>bM m' "self" (.val (.ref S.a))/\bM m' "n2i" (.val (.ref S.d))/\(j=0->b0 r' (S.R w))/\(j=1->∃S',b0 r' (S'.R w)/\nH S S'/\S'.bG=(jM S.bG l nd.x).1/\S'.cR=some (eo,(jM S.bG l nd.x).2)/\S'.po=S.po/\S'.da=S.da+1)
 refine aZ.cons (ni (q:= .tup [.str nd.x]) (ps:=[.str nd.x]) ig (aV.name (by walk_at"e") (by kernel_rfl)) cw.tup ⟨trivial,trivial⟩ (λp aa=>by rw[cQ.mp aa];exact trivial) (.inl (by walk_at"e")) ⟨by walk_at"e",by walk_at"e",λ_=> .refl _,λh=>by injection h⟩ ?_ ?_ (λ_=>rfl))
 ·intro j p m' r' gL dg;refine ht λpK hQ=>?_;refine eK dg λa1 a2 dF _=>?_;have aN:j=0:=by have:=iL gL;exact Nat.lt_one_iff.mp this
  subst aN;obtain rfl: .str nd.x=p:=by exact bT gL
  refine(dF rfl).ex ?_;refine aZ.cons (Cb (x:="nodeinfo") (p:= .val (.ref nd.b)) (q:= .none) (b:=false) ?_ trivial (.inl (by walk_at"e")) (Ev.R Ev.none) tv (by with_unfolding_all rfl) (λh=>by injection h) λ_=>aZ.nil ?_)
  ·have e:ak.val (.ref nd.b)=(dictAt (S.pairs.map (·.1)) (S.pairs.map λz=> .val (.ref z.2)) nd.x).getD .none:=by rw[vE,S.find g bo];rfl
   rw[e];exact CB z6 (nj (aV.name (bS (by kernel_rfl) a2) (by kernel_rfl)) (vM S.vu g.sys)) Typed.eH (dd.cons (aV.name a5 (by kernel_rfl)) dd.nil rfl) CR rfl rfl rfl rfl
  refine aZ.cons (lD (Hg bo a5 (by kernel_rfl) rfl) trivial (.inl (by walk_at"e")) ?_ rfl);refine aZ.cons (lE (c:=false) (gr.cmp (p:= .int nd.np) (q:= .int (-1)) (aV.name a5 (by kernel_rfl)) (Ev.R (yo (by walk_at"e") Ei (by kernel_rfl))) (by have:=yF (prog:=prog) (w:=w) (a:=nd.np) (b:= -1);rw[Rv] at this ⊢;exact this) (by with_unfolding_all rfl)) (λh=>by injection h) λ_=>aZ.nil ?_);refine aZ.cons (vB (p:= .int (-2)) (q:=c7 []) (dx:=nd.gW) (mem:=99) (i:=1) (Ev.R (yo (by walk_at"e") Ml (by kernel_rfl))) trivial (aV.name (by walk_at"e") (by kernel_rfl)) (S.p0 bo) (S.pW bo) qk qh tx tH qd (by decide) ?_ rfl);rw[vK];refine(yt g bo).ex ?_
  let b3:bl:=S.hx nd.x λnd=>{nd with np:= -2}
  let qS:dt:={nd with np:= -2}
  have g1:b3.Good:=S.p7 g λ_=>rfl;have xe:b3.iz:=vI jN λ_=>rfl;have mK:qS∈b3.bq:=bA.mpr ⟨nd,bo,by rw[aQ rfl]⟩;have ma:b3.bG=k6 S.bG nd.x (-2):=yr;have PC:mS S.bG nd.x=nd.cO:=by unfold mS;rw[S.yW g bo];rfl
  show aZ prog w 2 env _ (b3.R w) _ _;have T5:∀{m:Loc} {bW cc:Pos},bM m "nodeinfo" (.val (.ref nd.b))->aV prog w 2 env m (b3.R w) (.Attribute (.Name "nodeinfo" bW) "successors" cc) (.val (.ref nd.c)):=λ{m bW cc} h=>
   tp (x:=qS.b) (dx:=qS.gW) (mem:=100) (i:=2) (aV.name h (by kernel_rfl)) (b3.p0 mK) (b3.pW mK) qn (qp _) yE yL yx vN rfl (λi q=>by cases q) rfl
  let oH:Obj->Nat->Loc->Rs->Prop:=λo j m' r'=>bM m' "self" (.val (.ref S.a))/\bM m' "n2i" (.val (.ref S.d))/\∃cG:bl,b0 r' (cG.R w)/\cG.Good/\(∀z:dt,z∈cG.bq->z.x≠nd.x->z.pin=none)/\(∃z:dt,z∈cG.bq/\z.x=nd.x/\z.pin=some o/\z.c=nd.c)/\cG.a=S.a/\cG.d=S.d/\cG.po=S.po/\cG.da=S.da/\cG.bG=((nd.cO.take j).foldl fF (b3.bG,l)).1/\cG.cR=some (eo,((nd.cO.take j).foldl fF (b3.bG,l)).2)
  refine aZ.cons (II (c:=nd.c) (l:=nd.cO) oH
   (T5 (by walk_at"e")) (b3.Hy (nd:=qS) mK (xe qS mK)) (.inl (by walk_at"e")) (λo aj=>?_) ?_ ?_ ?_ λ_=>rfl)
  ·refine aE (C9 (DA (w:=w) g1 mK (some o))) λab ae=>?_;refine⟨(b3.r9 nd.x (some o)).R w,ab,λh aa cS=>ae h aa ⟨o,cS,rfl,aj⟩,by walk_at"e",by walk_at"e",b3.r9 nd.x (some o),.refl _,b3.p7 g1 λ_=>rfl,λz hz bY=>?_,?_,rfl,rfl,rfl,rfl,DJ,bf⟩
   ·refine ah (bA.mp hz) λeN eD bk=>?_;subst bk;by_cases q:eN.x=nd.x
    ·rw[aQ q] at bY;exact absurd q bY
    ·rw[aI q];exact xe eN eD
   ·exact⟨{qS with pin:=some o},bA.mpr ⟨qS,mK,by rw[aQ rfl]⟩,rfl,rfl,rfl⟩
  ·intro o j m' r' h eZ b5;refine cB eZ λ_ _ e2=>?_;refine mO e2 λcG n7 _ _ dq _=>?_;refine h7 dq λz hz _ aa U=>?_;refine ah ((n7.2 h b5).2 _ (cG.vp hz (.tail _ (.tail _ (.head _))))) λbZ e q=>?_;rw[aa] at q;rw[<-U,e,q.1]
  ·intro o j p m' r' gL gE;refine ht λAw mR=>?_;refine cB gE λgI i1 iX=>?_;refine EI iX λcG n7 g2 q4 hB ff tg xc w0 lT uY=>?_;refine h7 hB λxM oe pa zu G4=>?_;rw[d7] at gL;refine ah (Option.map_eq_some_iff.mp gL) λy av bz=>?_;subst bz;refine n7.ex ?_;have iq:y∈cG.bG.map (·.1):=by
    rw[lT,I0];show y∈b3.bG.map (·.1);rw[ma];unfold k6;rw[tE];exact gp y (eP av)
   refine ah (bl.has iq) λz hz b7=>?_;subst b7;rw[<-tg] at i1;replace i1:=i1;refine aZ.cons (lD (Dr g2 hz (aV.name (bS (by kernel_rfl) i1) (by kernel_rfl)) (aV.name a5 (by kernel_rfl)) λ_ _=>rfl) trivial (.inl (by walk_at"e")) ?_ rfl);refine aZ.cons (CF (x:=z.b) (dx:=z.gW) (mem:=99) (ix:=1) (i:=z.np) (j:=1) (z:=z.np+ -1) (aV.name a5 (by kernel_rfl)) (Ev.R Ev.int) (cG.p0 hz) (cG.pW hz) (λA s t eV Q E h=>PySem.AutoIntOps.isub_0 (by rw[Int.sub_eq_add_neg];exact h)) qn (qp _) v3 wb vP qd (by decide) rfl qk qh tx tH ?_);rw[vK];refine(yt g2 hz).ex ?_
   let e5:bl:=cG.hx z.x λnd=>{nd with np:=z.np+ -1}
   let rp:dt:={z with np:=z.np+ -1}
   have Hm:rp∈e5.bq:=bA.mpr ⟨z,hz,by rw[aQ rfl]⟩;have g3:e5.Good:=cG.p7 g2 λ_=>rfl;have sx:e5.bG=jj cG.bG z.x (-1):=by
    show(cG.hx z.x _).bG=_;rw[yr];unfold k6 jj jl;refine map_congr_left λq aG=>?_;by_cases e:q.1=z.x
    ·rw[aQ e,aQ e];refine ah (bA.mp aG) λeL o2 cC=>?_;subst cC;have:=cG.uniq g2 o2 hz e;subst this;rfl
    ·rw[aI e,aI e]
   have q8:∀q:dt,q∈e5.bq->q.x≠nd.x->q.pin=none:=λq aG bY=>by
    refine ah (bA.mp aG) λq' pj c2=>?_;subst c2;by_cases e:q'.x=z.x
    ·rw[aQ e] at bY ⊢;exact q4 q' pj bY
    ·rw[aI e] at bY ⊢;exact q4 q' pj bY
   have Fe:∃q:dt,q∈e5.bq/\q.x=nd.x/\q.pin=some o/\q.c=nd.c:=by
    refine⟨_,bA.mpr ⟨xM,oe,rfl⟩,?_⟩;split<;>exact⟨pa,zu,G4⟩
   have R8:oa e5.bG z.x=z.np+ -1:=by unfold oa;rw[show z.x=rp.x from rfl,e5.yW g3 Hm];rfl
   have xn:(nd.cO.take (j+1)).foldl fF (b3.bG,l)=fF ((nd.cO.take j).foldl fF (b3.bG,l)) z.x:=by
    rw[take_add_one,av,toList_some,foldl_append];rfl
   have ax:(fF ((nd.cO.take j).foldl fF (b3.bG,l)) z.x).1=e5.bG:=by rw[sx,lT];rfl
   have aC:(fF ((nd.cO.take j).foldl fF (b3.bG,l)) z.x).2=if z.np+ -1=0 then((nd.cO.take j).foldl fF (b3.bG,l)).2++[z.x] else((nd.cO.take j).foldl fF (b3.bG,l)).2:=by
    show(if oa (jj ((nd.cO.take j).foldl fF (b3.bG,l)).1 z.x (-1)) z.x=0 then _ else _)=_;rw[<-lT, <-sx,R8]
   rw[tg] at i1;refine aZ.cons (lE (c:=z.np+ -1==0) (gr.cmp (p:= .int (z.np+ -1)) (q:= .int 0) (Hg (nd:=rp) Hm a5 (by kernel_rfl) rfl) (Ev.R Ev.int) rP (by with_unfolding_all rfl)) (λh=>?_) λh=>aZ.nil (aZ.nil ?_))
   ·rw[<-ff] at gI;replace gI:=gI;have Ai:e5.cR=some (eo,((nd.cO.take j).foldl fF (b3.bG,l)).2):=uY;have Vw:((nd.cO.take j).foldl fF (b3.bG,l)).2.length<=3000:=by
     have ab:=JZ (zs:=nd.cO.take j) (q:=(b3.bG,l));have ae:(nd.cO.take j).length<=nd.cO.length:=by rw[length_take];exact Nat.min_le_right ..
     have aD:(b3.bG,l).2.length=l.length:=rfl;walk_at"o"
    refine aZ.cons (vD (id:="list.append") (a:=eo) (l:=((nd.cO.take j).foldl fF (b3.bG,l)).2) (l':=((nd.cO.take j).foldl fF (b3.bG,l)).2++[z.x]) (ps:=[.str z.x]) k4 (cR (S:=e5) Ai (bS (by kernel_rfl) (bS (by kernel_rfl) gI))) (e5.x4 Ai) (dd.cons (aV.name (bS (by kernel_rfl) a5) (by kernel_rfl)) dd.nil rfl) ⟨trivial,trivial⟩ (by rw[jH];exact iE.append (by rw[cz];exact bH ‹_› rfl)) ?_ rfl rfl rfl rfl (jc ba) rfl);subst mR;refine(EC Ai).ex (aZ.nil (aZ.nil ⟨by rw[ff] at gI;walk_at"e",by walk_at"e",{e5 with cR:=some (eo,((nd.cO.take j).foldl fF (b3.bG,l)).2++[z.x])},.refl _,⟨g3.nd,g3.sys,g3.pB⟩,q8,Fe,ff,tg,xc,w0,?_,?_⟩))
    ·rw[xn,ax];rfl
    ·rw[xn,aC,aQ (eq_of_beq h)]
   ·subst mR;refine⟨by walk_at"e",by walk_at"e",e5,.refl _,g3,q8,Fe,ff,tg,xc,w0,?_,?_⟩
    ·rw[xn,ax]
    ·rw[xn,aC,aI (λq=>by rw[ey] at h;exact h q)];exact uY
  ·intro o m' r' h9;refine cB h9 λgI i1 l6=>?_;refine EI l6 λcG n7 g2 q4 jU ff tg xc w0 lT uY=>?_;refine h7 jU λxM oe pa zu G4=>?_;rw[cz,take_length] at lT uY
   let e5:bl:=cG.r9 nd.x none
   have A7:b0 (cG.R w) (e5.R w):=by
    have le:=DA (w:=w) g2 oe none;rw[pa] at le;refine aE (C9 le) λab ae=>?_;refine⟨λa=>by rw[ab],λh aa=>ae h aa ?_⟩;refine ah (aa.2 _ (cG.vp oe (.tail _ (.tail _ (.head _))))) λbZ e q=>?_;rw[zu] at q;exact⟨bZ,e,q.2⟩
   have g3:e5.Good:=cG.p7 g2 λ_=>rfl;have q8:e5.iz:=λq aG=>by
    refine ah (bA.mp aG) λq' pj c1=>?_;subst c1;by_cases e:q'.x=nd.x
    ·rw[aQ e]
    ·rw[aI e];exact q4 q' pj e
   refine aZ.nil (n7.ex (A7.ex ?_));rw[<-ff] at gI;replace gI:=gI;refine aZ.cons (Cw (i:=e5.da) (j:=1) (aV.name gI (by kernel_rfl)) (Ev.R Ev.int) e5.g4 e5.g7 (show(4:Nat)<=100 by decide) hO (hu _) Eg (by exact rfl) qf qb Dz ?_)
   let oA:bl:={e5 with da:=e5.da+1}
   have A3:b0 (ay (setC (e5.cells w) e5.dx (c7 (h5 "_nfinished" (.int (e5.da+1)) e5.attrs)))) (oA.R w):=DS (S':=oA) rfl rfl rfl rfl rfl;have fin:jM S.bG l nd.x=nd.cO.foldl fF (b3.bG,l):=by unfold jM;rw[PC,ma]
   subst hQ;refine A3.ex (aZ.nil ⟨by rw[ff] at gI;walk_at"e",by walk_at"e",λh=>(by injection h),λ_=>⟨oA,.refl _,⟨⟨g3.nd,g3.sys,g3.pB⟩,q8,ff,tg⟩,?_,?_,xc,by show cG.da+1=_;rw[w0]⟩⟩)
   ·rw[fin, <-lT];exact DJ
   ·rw[fin];exact uY
 ·intro m' r' n5;refine eK n5 λ_ _ _ h=>?_;refine sg (h rfl) λS' ab ae aD bc dz i8=>?_;subst nM;exact aZ.nil (aZ.nil ⟨rfl,S',ab,ae,aD,bc,dz,i8⟩)
theorem ME:nsIn (KF w) 3 "set"=some none:=by exact rfl
structure i5 where
 y:Str
 c:Addr
 l:List Str
 j:Nat
 it:Addr
 wp:Addr
noncomputable def rV(f:i5):dU:=[(f.it,h1 f.c f.j),(f.wp,jg f.it)]
noncomputable def fU(K:List i5):List Str:=(K.map (·.y)).reverse
noncomputable def kJ(K:List i5):List Addr:=(K.map (·.wp)).reverse
structure uJ where
 st:Addr
 eA:Addr
 fz:Addr
 jz:Addr
noncomputable def gx(prog:Program)(w:World)(t:uJ)(K:List i5)(sn:Str->Bool)(k:Nat)(cs:dU):dU:=
 (t.st,cy (fU K))::(t.eA,fv (kJ K))::(t.fz,fj prog w (fU K))::(K.flatMap rV++(t.jz,h6 prog w sn k)::cs)
section
variable {t:uJ} {K:List i5} {sn:Str->Bool} {k:Nat} {cs:dU} {f:i5}
theorem ql{c:Addr×(Obj->Prop)}(h:c∈cs):c∈gx prog w t K sn k cs:= .tail _ (.tail _ (.tail _ (b9 _ (.tail _ h))))
theorem E3:(t.st,cy (fU K))∈gx prog w t K sn k cs:= .head _
theorem y7:(t.eA,fv (kJ K))∈gx prog w t K sn k cs:= .tail _ (.head _)
theorem E7:(t.fz,fj prog w (fU K))∈gx prog w t K sn k cs:= .tail _ (.tail _ (.head _))
theorem wt:(t.jz,h6 prog w sn k)∈gx prog w t K sn k cs:= .tail _ (.tail _ (.tail _ (b9 _ (.head _))))
theorem Mv{P:Obj->Prop}{sn':Str->Bool}{k':Nat}(b5:P=h6 prog w sn' k'):b0 (ay (setC (gx prog w t K sn k cs) t.jz P)) (ay (gx prog w t K sn' k' cs)):=by
 subst b5;refine jL ?_ wt λc U=>?_
 ·simp only[gx,br,map_cons,map_append]
 ·simp only[gx,mem_cons,mem_append] at U ⊢;rcases U with h |h |h |h |h |h
  ·exact .inr (.inl h)
  ·exact .inr (.inr (.inl h))
  ·exact .inr (.inr (.inr (.inl h)))
  ·exact .inr (.inr (.inr (.inr (.inl h))))
  ·exact .inl h
  ·exact .inr (.inr (.inr (.inr (.inr (.inr h)))))
theorem le_next:b0 (ay (setC (gx prog w t (f::K) sn k cs) f.it (h1 f.c (f.j+1)))) (ay (gx prog w t ({f with j:=f.j+1}::K) sn k cs)):=by
 refine jL rfl (.tail _ (.tail _ (.tail _ (.head _)))) λc U=>?_;have ax:∀f:i5,gx prog w t (f::K) sn k cs=(t.st,cy (fU (f::K)))::(t.eA,fv (kJ (f::K)))::(t.fz,fj prog w (fU (f::K)))::(f.it,h1 f.c f.j)::(f.wp,jg f.it)::(K.flatMap rV++(t.jz,h6 prog w sn k)::cs):=λf=>rfl;rw[ax] at U ⊢;simp only[mem_cons] at U ⊢;rcases U with h |h |h |h |h
 ·exact .inr (.inl h)
 ·exact .inr (.inr (.inl h))
 ·exact .inr (.inr (.inr (.inl h)))
 ·exact .inl h
 ·exact .inr (.inr (.inr (.inr (.inr h))))
theorem MW{it wp c:Addr}{A:dU}
  (u9:A=setC (gx prog w t K sn k cs++[(it,h1 c 0)]++[(wp,jg it)]) t.eA (fv (kJ K++[wp]))):b0 (ay A) (ay ((t.st,cy (fU K))::(t.eA,fv (kJ K++[wp]))::(t.fz,fj prog w (fU K))::(it,h1 c 0)::(wp,jg it)::(K.flatMap rV++(t.jz,h6 prog w sn k)::cs))):=by
 subst u9;refine b0.trans (r':=ay ((t.st,cy (fU K))::(t.eA,fv (kJ K++[wp]))::(t.fz,fj prog w (fU K))::((K.flatMap rV++(t.jz,h6 prog w sn k)::cs)++[(it,h1 c 0),(wp,jg it)]))) ?_ (tT (((List.perm_append_comm.cons _).cons _).cons _));refine jL ?_ (.tail _ (.head _)) λc U=>?_
 ·simp only[gx,br,map_cons,map_append,cons_append,append_assoc,nil_append]
 ·rcases bI.mp U with rfl |U
  ·exact .inr (b6 _ (b6 _ E3))
  rcases bI.mp U with rfl |U
  ·exact .inl rfl
  rcases bI.mp U with rfl |U
  ·exact .inr (b6 _ (b6 _ E7))
  rcases List.mem_append.mp U with U |U
  ·exact .inr (b6 _ (b6 _ (.tail _ (.tail _ (.tail _ U)))))
  rcases bI.mp U with rfl |U
  ·exact .inr (b6 _ (b9 _ (.head _)))
  ·exact .inr (b9 _ U)
theorem OZ{f:i5}{l:List Addr}{P:Obj->Prop}(b5:P=fj prog w (fU (f::K))):b0 (ay (setC ((t.st,cy (fU K))::(t.eA,fv l)::(t.fz,fj prog w (fU K))::cs) t.fz P)) (ay ((t.st,cy (fU K))::(t.eA,fv l)::(t.fz,fj prog w (fU (f::K)))::cs)):=by
 subst b5;refine jL rfl (.tail _ (.tail _ (.head _))) λc U=>?_;rcases bI.mp U with rfl |U
 ·exact .inr (.head _)
 rcases bI.mp U with rfl |U
 ·exact .inr (.tail _ (.head _))
 rcases bI.mp U with rfl |U
 ·exact .inl rfl
 ·exact .inr (.tail _ (.tail _ (.tail _ U)))
theorem Ov{l l':List Str}{R:dU}:b0 (ay (setC ((t.st,cy l)::R) t.st (cy l'))) (ay ((t.st,cy l')::R)):=
 jL rfl (.head _) λc U=>(bI.mp U).imp id λh=> .tail _ h
end
theorem bt.drop{K:Around->Prop}{r:Rs}(h:bt prog w K env m r' ss Φ)(a0:∀a,r'.J a->r.J a)(b5:∀h,r.P h->r'.P h):bt prog w K env m r ss Φ:=λs₀ W₀ aJ ad A s E ai F=>by
 refine aE (F.drop a0 b5) λaS k=>?_;exact wpAny_mono (h s₀ W₀ aJ ad A s E ai aS) (λf s' o=>o.pre k) λ_ _ e=>e
theorem b0.kK{K:Around->Prop}{r:Rs}(x:b0 r r')(h:bt prog w K env m r' ss Φ):bt prog w K env m r ss Φ:=h.weak x.1 x.2
noncomputable def hP(L:List dt)(sn:Str->Bool):Nat:=(L.map λnd=>if sn nd.x then 0 else nd.cO.length+1).sum
noncomputable def ke(K:List i5):Nat:=(K.map λf=>f.l.length - f.j).sum
theorem DZ{a b:Bool}{k:Nat}:(if(a||b)=true then 0 else k)<=if a=true then 0 else k:=by
 induction a with
 |true=>exact c0 _
 |false=>induction b with
  |true=>exact c0 _
  |false=>exact Nat.le_refl _
theorem K6{sn:Str->Bool}{y:Str}:∀L:List dt,hP L (λz=>sn z||decide (z=y))<=hP L sn:=by
 intro a9;induction a9 with
 |nil=>
  exact Nat.le_refl _
 |cons nd L aw=>
  unfold hP;rw[map_cons,map_cons,sum_cons,sum_cons];refine Nat.add_le_add ?_ (aw);exact DZ
theorem JP{sn:Str->Bool}{nd:dt}(hs:sn nd.x=false):∀L:List dt,nd∈L->hP L (λz=>sn z||decide (z=nd.x))+(nd.cO.length+1)<=hP L sn:=by
 intro a9;induction a9 with
 |nil=>
  intro h;exact absurd h b8
 |cons n L aw=>
  intro h;have e:∀sn,hP (n::L) sn=(if sn n.x then 0 else n.cO.length+1)+hP L sn:=λsn=>rfl;rw[e,e];rcases bI.mp h with rfl |h
  ·rw[hs,aQ (by walk_at"o"),aI (by decide),Nat.zero_add,Nat.add_comm];exact Nat.add_le_add_left (K6 L) _
  ·rw[Nat.add_assoc];exact Nat.add_le_add DZ (aw h)
noncomputable def bl.mz(S:bl)(q:Obj->Prop):dU:=(S.a,fP 194 S.dx)::(S.dx,c7 S.attrs)::(S.d,q)::(nu S.cR++S.bq.flatMap eW)
theorem yJ{o:Option Obj}{l:List Str}(h:ka o l bZ):cy l bZ:=by
 induction o with
 |none=>exact h
 |some _=>exact h.2
variable {rk:Str->Nat}
section
variable {prog:Program} {w:World} {S:bl} {q:Obj->Prop} {G:dU} {nd:dt}
theorem bl.xX(h:nd∈S.bq){c:Addr×(Obj->Prop)}(U:c∈eW nd):c∈S.mz q++G:=b6 _ (.tail _ (.tail _ (.tail _ (b9 _ (List.mem_flatMap.mpr ⟨nd,h,U⟩)))))
theorem JX{d:Addr}{l:List (Str×Addr)}(hz:(d,q)∈cs)(aG:∀o,q o->eI w l o)(hd:(d==sysModules)=false)(W:Addr->Prop)(h:Heap)(a0:∀b,(ay cs).J b->W b)(aa:(ay cs).P h)(v:Value)(aq:a6 w h W (.val (.ref d)) v):a6 w h W (.eH (l.map (·.1)) (l.map λz=> .val (.ref z.2))) v:=by
 refine ah (aa.2 _ hz) λo aj Al=>?_;refine vM (cs:=[(d,eI w l)]) (.head _) hd W h (λb I=>?_) ⟨List.nodup_cons.mpr ⟨b8,nodup_nil⟩,λc U=>?_⟩ v aq
 ·rw[show b=d from cQ.mp I];exact a0 d (nq hz)
 ·rw[cQ.mp U];exact⟨o,aj,aG o Al⟩
structure qV (S:bl) (t:uJ) (m:Loc):Prop where
 a:bM m "n2i" (.val (.ref S.d))
 b:bM m "stack" (.val (.ref t.st))
 c:bM m "itstack" (.val (.ref t.eA))
 d:bM m "seen" (.val (.ref t.jz))
 e:bM m "node2stacki" (.val (.ref t.fz))
theorem qV.node{t:uJ}{p:ak}(h:qV S t m):qV S t (("node",p)::m):=
 ⟨bS (by kernel_rfl) h.a,bS (by kernel_rfl) h.b,bS (by kernel_rfl) h.c,bS (by kernel_rfl) h.d,bS (by kernel_rfl) h.e⟩
structure BZ (S:bl) (rk:Str->Nat) (K:List i5):Prop where
 ok:∀f∈K,∃nd∈S.bq,f.y=nd.x/\f.c=nd.c/\f.l=nd.cO
 xF:K.Pairwise λf g=>rk f.y < rk g.y
theorem EF{q':Obj->Prop}(aa:(ay (X++(S.mz q++G))).P h)(aG:∃o,h.get? S.d=some o/\q' o):(ay (X++(S.mz q'++G))).P h:=by
 have e:br (X++(S.mz q'++G))=br (X++(S.mz q++G)):=by simp only[bl.mz,br,map_append,map_cons]
 refine⟨by rw[e];exact aa.1,λc U=>?_⟩;rcases List.mem_append.mp U with U |U
 ·exact aa.2 c (b6 _ U)
 rcases List.mem_append.mp U with U |U
 ·rcases bI.mp U with rfl |U
  ·exact aa.2 _ (b9 _ (.head _))
  rcases bI.mp U with rfl |U
  ·exact aa.2 _ (b9 _ (.tail _ (.head _)))
  rcases bI.mp U with rfl |U
  ·exact aG
  ·exact aa.2 c (b9 _ (b6 _ (.tail _ (.tail _ (.tail _ U)))))
 ·exact aa.2 c (b9 _ (b9 _ U))
theorem b0.Uk{r:Rs}{e:Expr}{b:Bool}(x:b0 r r')(h:gr prog w n env m r' e b):gr prog w n env m r e b:=
 λW A s Q E ai st a0 aa a4=>h W A s Q E ai st (λa af=>a0 a ((x.1 a).mpr af)) (x.2 _ aa) a4
theorem vU{f:i5}{K:List i5}:fU (f::K)=fU K++[f.y]:=by unfold fU;rw[map_cons,reverse_cons]
theorem kws_cons{f:i5}{K:List i5}:kJ (f::K)=kJ K++[f.wp]:=by unfold kJ;rw[map_cons,reverse_cons]
theorem kys_len{K:List i5}:(fU K).length=K.length:=by unfold fU;rw[length_reverse,bO]
theorem y3{K:List i5}:(kJ K).length=K.length:=by unfold kJ;rw[length_reverse,bO]
theorem LS(g:S.Good)(jN:S.iz)(vr:∀e∈fr,qH G e)(n3:∀nd∈S.bq,∀z∈nd.cO,(∃eL∈S.bq,eL.x=z)/\rk z < rk nd.x)(vt:hP S.bq (λ_=>false)<=900):
  h2 prog w 3 fr 184 [.val (.ref S.a)] (ay (S.cells w++G)) (λp r'=>p= .none/\b0 r' (ay (S.cells w++G))):=by
 have de:sizeLine=2 ^ 24:=rfl;refine h2.of (args:=[.val (.ref S.a)]) (names:=["self"]) (c:=183) (by exact⟨rfl,rfl,rfl,rfl,rfl,rfl,rfl,ee (by kernel_rfl),rfl,rfl,rfl,kinds_of (by kernel_rfl),rfl,rfl,rfl,by dsimp only,by dsimp only,by kernel_rfl⟩) (by exact rfl) ⟨trivial,trivial⟩ (λW A s vs cI c5 g low bb a4=>rQ g bb (λv=>by exact rfl) a4) ?_;intro env ba d8 fw kL;have bx:∀A:Around,ph 2 (env::fr) A->bK 2 A:=λA h=>h.1;show bt prog w _ env [("self",.val (.ref S.a))] _ _ _;refine ht λxg nM=>?_;refine bt.cons (dB.of bx (lD (p:= .val (.ref S.d)) (kY (aV.name (by walk_at"e") (by kernel_rfl)) (b6 _ S.g4) (b6 _ S.g7) hO (hu _) tL (by exact rfl) (λi q=>by cases q) rfl) trivial (.inl (by walk_at"e")) ?_ rfl));refine bt.cons (dB.of bx (oJ yc (.inl (by walk_at"e")) ?_ rfl));intro _ _ dg _;refine ah dg λst dq e2=>?_;subst dq;subst e2;refine bt.cons (dB.of bx (oJ H8 (.inl (by walk_at"e")) ?_ rfl));intro _ _ eZ _;refine ah eZ λeA hB iX=>?_;subst hB;subst iX;refine bt.cons (dB.of bx (oJ (Iq (ft (by walk_at"e") ME (by exact rfl) (by decide+kernel) (by kernel_rfl)) rfl) (.inl (by walk_at"e")) ?_ rfl));intro _ _ gE _;refine ah gE λjz jU l6=>?_;subst jU;subst l6;refine bt.cons (dB.of bx (oJ Ih (.inl (by walk_at"e")) ?_ rfl));intro _ _ h9 _;refine dK h9 λfz nX nV xp=>?_;subst nX;subst nV
 let t:uJ:=⟨st,eA,fz,jz⟩
 have AQ:b0 (ay (S.cells w++G++[(st,cy [])]++[(eA,fv [])]++[(jz,h6 prog w (λ_=>false) 0)]++[(fz,fj prog w [])])) (ay (gx prog w t [] (λ_=>false) 0 (S.mz (eI w S.pairs)++G))):=by
  refine tT ((perm_append_singleton _ _).trans ?_);refine(((perm_append_singleton _ _).trans (((perm_append_singleton _ _).trans ((perm_append_singleton _ _).cons _)).cons _)).cons _).trans ?_;exact((((Perm.swap _ _ _).cons _).cons _).trans ((Perm.swap _ _ _).cons _)).trans ((Perm.swap _ _ _).trans ((((Perm.swap _ _ _).cons _).cons _).trans ((Perm.swap _ _ _).cons _)))
 refine AQ.kK ?_
 let ig:Obj->Nat->Loc->Rs->Prop:=λo j m' r'=>∃sn k,b0 r' (ay (gx prog w t [] sn k (S.mz (λbZ=>bZ=o/\eI w S.pairs bZ)++G)))/\qV S t m'/\k+hP S.bq sn<=900
 refine bt.cons (Co bx (p:=eI w S.pairs) (c:=S.d) (l:=S.pairs.map (·.1)) ig
  (aV.name (by walk_at"e") (by kernel_rfl)) (ql (.tail _ (.tail _ (.head _)))) (λo aj=> .dict g.sys aj) (.inl (by walk_at"e")) (λo aj=>?_) ?_ ?_ ?_ λ_=>rfl)
 ·refine⟨ay (gx prog w t [] (λ_=>false) 0 (S.mz (λbZ=>bZ=o/\eI w S.pairs bZ)++G)),rfl,λh aa cS=>EF (X:=[(st,cy []),(eA,fv []),(fz,fj prog w []),(jz,h6 prog w (λ_=>false) 0)]) aa ⟨o,cS,rfl,aj⟩,_,_,.refl _,⟨by walk_at"e",by walk_at"e",by walk_at"e",by walk_at"e",by walk_at"e"⟩,by rw[Nat.zero_add];exact vt⟩
 ·intro o j m' r' h n5 b5;refine bj n5 λsn k le _ _=>?_;refine ah ((le.2 h b5).2 (S.d,_) (ql (.tail _ (.tail _ (.head _))))) λbZ cS aG=>?_;rw[cS,aG.1]
 ·intro o j p m' r' gL q5;refine ht λpK hQ=>?_;refine bj q5 λsn k le L ar=>?_;rw[d7] at gL;replace gL:=gL;refine ah (Option.map_eq_some_iff.mp gL) λy av aU=>?_;subst aU;obtain⟨nd,bo,rfl⟩:∃nd∈S.bq,nd.x=y:=by
   have:=eP av;unfold bl.pairs at this;rw[dW] at this;refine ah (bA.mp this) λnd bo e=>?_;exact⟨nd,bo,e⟩
  let B:dU:=S.mz (λbZ=>bZ=o/\eI w S.pairs bZ)++G
  have BD:∀e∈fr,qH B e:=λe he=>let⟨a1,a2,o,dF,fh⟩:=vr e he;⟨a1,a2,o,dF,b9 _ fh⟩
  refine le.kK ?_;refine bt.cons (nk bx (c:=sn nd.x) (Cz (aV.name a5 (by kernel_rfl)) (aV.name L.node.d (by kernel_rfl)) wt rfl) (λ_=>bt.cons (dB.cont <| by subst hQ;exact⟨sn,k,.refl _,L.node,ar⟩)) λG0=>bt.nil ?_)
  let oH:Nat->Loc->Rs->Prop:=λκ m' r'=>∃K sn k nd,b0 r' (ay (gx prog w t K sn k B))/\qV S t m'/\bM m' "node" (.str nd.x)/\nd∈S.bq/\BZ S rk K/\(∀f∈K,rk nd.x < rk f.y)/\κ=hP S.bq sn+ke K/\K.length<=k/\k+κ<=900
  refine bt.cons (ye bx oH
   (hP S.bq sn) ⟨[],sn,k,nd,.refl _,L.node,a5,bo,⟨λ_ h=>(by exact absurd h b8),.nil⟩,λ_ h=>(by exact absurd h b8),rfl,c0 _,ar⟩ ?_)
  clear G0 ar gL av L le bo;clear nd;intro κ m' r' qY;refine QJ qY λK sn k nd le L aA bo kU bf GO pb ar=>?_;refine⟨true,bV.R (bV.plain Ev.bool gR.bool λ_=>rfl),λ_=>ht λAw mR=>le.kK ?_,λh=>by injection h⟩;have GH:nd.x∉fU K:=λq=>by
   refine ah (bA.mp (List.mem_reverse.mp q)) λf hf e=>?_;have:=bf f hf;rw[e] at this;exact Nat.lt_irrefl _ this
  refine bt.cons (dB.mono (Φ:=λej dE eR=>ej= .next/\∃K sn k,b0 eR (ay (gx prog w t K sn k B))/\qV S t dE/\BZ S rk K/\K.length<=k/\k+(hP S.bq sn+ke K)<=900/\hP S.bq sn+ke K<=κ)
   (nk bx (c:=sn nd.x) (Cz (aV.name aA (by kernel_rfl)) (aV.name L.d (by kernel_rfl)) wt rfl) (λ_=>?_) λhs=>bt.of bx ?_) ?_)
  ·refine bt.cons (nk bx (c:=false) (IQ (aV.name aA (by kernel_rfl)) (aV.name L.e (by kernel_rfl)) E7 xp GH rfl) (λh=>by injection h) λ_=>bt.nil (bt.nil ⟨rfl,K,sn,k,.refl _,L,kU,pb,GO▸ar,Nat.le_of_eq GO.symm⟩))
  ·
   refine ht λGe qG=>?_;refine aZ.cons (IE (aV.name L.d (by kernel_rfl)) (dd.cons (aV.name aA (by kernel_rfl)) dd.nil rfl) wt (by walk_at"o") ?_ rfl rfl rfl rfl (jc ba) rfl);refine(Mv (sn':=λz=>sn z||decide (z=nd.x)) (k':=k+1) (by rw[hs];rfl)).ex ?_;refine aZ.cons (H6 (aV.name L.c (by kernel_rfl)) y7 (H3 (Ja (c:=nd.c) (l:=nd.cO) (ft (by walk_at"e") DC (by exact rfl) (by decide+kernel) (by kernel_rfl))
    (tp (x:=nd.b) (dx:=nd.gW) (mem:=100) (i:=2) (aV.item (nj (aV.name L.a (by kernel_rfl)) (JX (q:=λbZ=>bZ=o/\eI w S.pairs bZ) (ql (.tail _ (.tail _ (.head _)))) (λo h=>h.2) g.sys)) (aV.name aA (by kernel_rfl)) Typed.eH slot_dict_getitem.lookup (rK (by rw[vE,S.find g bo];rfl)) λ_ _=>rfl)
     (ql (S.xX bo (.tail _ (.head _)))) (ql (S.xX bo (.head _))) qn (qp _) yE yL yx vN rfl (λi q=>by cases q) rfl)
    (ql (S.xX bo (.tail _ (.tail _ (.head _))))) (λ_ h=>yJ h) rfl rfl rfl) rfl) ?_ rfl rfl rfl rfl rfl (jc ba) rfl)
   intro _ _ rb;refine dO rb λit wp rm qO=>?_;subst rm;subst qO;refine⟨wp,_,rfl,rfl,b6 _ (b6 _ y7),by rw[y3];walk_at"o",?_⟩;refine(MW rfl).ex ?_
   let f:i5:=⟨nd.x,nd.c,nd.cO,0,it,wp⟩
   refine aZ.cons (Il (CH (ft (by walk_at"e") nv (by exact rfl) (by decide+kernel) (by kernel_rfl)) (dd.cons (nj (aV.name L.b (by kernel_rfl)) (tD (.head _))) dd.nil rfl) (Ks (by rw[cz,kys_len];walk_at"o")) rfl rfl) (aV.name L.e (by kernel_rfl)) (aV.name aA (by kernel_rfl)) (.tail _ (.tail _ (.head _))) GH (by rw[kys_len];walk_at"o") ?_ rfl);refine(OZ (f:=f) (by rw[vU])).ex ?_;refine aZ.cons (vD (id:="list.append") (l:=fU K) (l':=fU K++[nd.x]) (ps:=[.str nd.x]) k4 (aV.name L.b (by kernel_rfl)) (.head _) (dd.cons (aV.name aA (by kernel_rfl)) dd.nil rfl) ⟨trivial,trivial⟩ (by rw[jH];exact iE.append (by rw[cz,kys_len];walk_at"o")) ?_ rfl rfl rfl rfl (jc ba) rfl);have s8:gx prog w t (f::K) (λz=>sn z||decide (z=nd.x)) (k+1) B=(t.st,cy (fU K++[nd.x]))::(t.eA,fv (kJ K++[wp]))::(t.fz,fj prog w (fU (f::K)))::(it,h1 nd.c 0)::(wp,jg it)::(K.flatMap rV++(t.jz,h6 prog w (λz=>sn z||decide (z=nd.x)) (k+1))::B):=by
    unfold gx;rw[kws_cons,vU];rfl
   subst qG;refine Ov.ex (aZ.nil ⟨rfl,f::K,_,k+1,.of_eq (congrArg ay s8.symm),L,⟨λf' gX=>?_,.cons (λf' gX=>bf f' gX) kU.xF⟩,Nat.succ_le_succ pb,?_,?_⟩)
   ·rcases bI.mp gX with rfl |gX
    ·exact⟨nd,bo,rfl,rfl,rfl⟩
    ·exact kU.ok f' gX
   all_goals
    have ab:=JP hs S.bq bo;have ae:ke (f::K)=nd.cO.length+ke K:=rfl;walk_at"o"
  ·intro ej dE eR uW;obtain⟨qF,K,sn,k,le,L,kU,pb,ar,zS⟩:=uW;subst qF
   let vn:Nat->Loc->Rs->Prop:=λGY m' r'=>∃K,b0 r' (ay (gx prog w t K sn k B))/\qV S t m'/\BZ S rk K/\K.length<=k/\k+(hP S.bq sn+ke K)<=900/\hP S.bq sn+ke K<=κ/\GY=K.length
   refine le.kK (bt.cons (ye bx vn K.length ⟨K,.refl _,L,kU,pb,ar,zS,rfl⟩ ?_));clear le L kU pb ar zS;clear K;intro GY m' r' zN;refine Fm zN λK le L kU pb ar zS qR=>?_;subst qR;refine⟨!(aB (fU K)).isEmpty,le.Uk (gr.plain (nj (aV.name L.b (by kernel_rfl)) (tD E3)) (gR.bw (by rw[cz,kys_len];walk_at"o")) λ_=>rfl),λI=>ht λVJ F8=>le.kK ?_,λI=>le.kK ?_⟩
   ·induction K with
    |nil=>injection I
    |cons f K=>
     refine h7 (kU.ok f (.head _)) λnd bo ax aC a8=>?_;have U:∀{X:dU},(nd.c,ka nd.pin nd.cO)∈X++(t.jz,h6 prog w sn k)::B:=b9 _ (.tail _ (S.xX bo (.tail _ (.tail _ (.head _)))));have s8:gx prog w t (f::K) sn k B=(t.st,cy (fU K++[f.y]))::(t.eA,fv (kJ K++[f.wp]))::(t.fz,fj prog w (fU K++[f.y]))::(f.it,h1 f.c f.j)::(f.wp,jg f.it)::(K.flatMap rV++(t.jz,h6 prog w sn k)::B):=by
      unfold gx;rw[kws_cons,vU];rfl
     have Vo:K.length+1<=k:=pb;have Vf:ke (f::K)=(f.l.length - f.j)+ke K:=rfl;induction aN:f.l[f.j]? with
     |some x=>
      have ag:x∈nd.cO:=a8▸eP aN;refine aE (n3 nd bo x ag) λa7 cu=>?_;refine ah a7 λeL o2 bk=>?_;subst bk;have kR:=iL aN;refine bt.cons (Ia bx (c:=f.c) (j:=f.j) (l:=f.l) (p:=ka nd.pin nd.cO) L.c (kws_cons▸y7) (.tail _ (.tail _ (.tail _ (.tail _ (.head _))))) (.tail _ (.tail _ (.tail _ (.head _)))) (by rw[aC];exact .tail _ (.tail _ (.tail _ (.tail _ (.tail _ U))))) (λo h=>a8▸yJ h) (by rw[y3];walk_at"o") aN (by walk_at"e") ?_ rfl);subst F8 mR;refine bt.nil ⟨hP S.bq sn+ke ({f with j:=f.j+1}::K),?_,{f with j:=f.j+1}::K,sn,k,eL,le_next,L.node,a5,o2,⟨λf' gX=>?_,?_⟩,λf' gX=>?_,rfl,pb,?_⟩
      ·have:ke ({f with j:=f.j+1}::K)=(f.l.length - (f.j+1))+ke K:=rfl;walk_at"o"
      ·rcases bI.mp gX with rfl |gX
       ·exact⟨nd,bo,ax,aC,a8⟩
       ·exact kU.ok f' (.tail _ gX)
      ·refine aE (List.pairwise_cons.mp kU.xF) λab ae=>?_;exact .cons (λf' gX=>ab f' gX) ae
      ·rcases bI.mp gX with rfl |gX
       ·show rk eL.x < rk f.y;rw[ax];exact cu
       ·exact Nat.lt_trans cu (ax▸(List.pairwise_cons.mp kU.xF).1 f' gX)
      ·have:ke ({f with j:=f.j+1}::K)=(f.l.length - (f.j+1))+ke K:=rfl;walk_at"o"
     |none=>
      rw[s8];refine bt.cons (Iv (l:=f.l) (p:=ka nd.pin nd.cO) L.c L.b L.e (by rw[aC];exact U) (λo h=>a8▸yJ h) (by rw[y3];walk_at"o") (by rw[kys_len];walk_at"o") aN (λe he=>?_) kL (by walk_at"e") (jc ba) rfl rfl ?_ rfl rfl)
      ·refine cB (BD e he) λa1 a2 bz=>?_;refine ah bz λo dF fh=>?_;exact⟨a1,a2,o,dF,b9 _ (.tail _ fh)⟩
      ·subst F8;refine bt.nil ⟨K.length,Nat.lt_succ_self _,K,.refl _,L,⟨λf' gX=>kU.ok f' (.tail _ gX),(List.pairwise_cons.mp kU.xF).2⟩,by exact Nat.le_of_succ_le ‹_›,by walk_at"o",by walk_at"o",rfl⟩
   ·induction K with
    |cons f K=>exfalso;rw[vU,jH] at I;simp[aB] at I
    |nil=>subst mR hQ;exact bt.cons (dB.brk (bt.nil ⟨sn,k,.refl _,L,ar⟩))
 ·intro o m' r' zH;refine bj zH λsn k le L ar=>?_;refine bt.nil (le.kK ?_);refine(bt.drop (r':=ay (S.cells w++G)) ?_ (λa af=> .tail _ (.tail _ (.tail _ (.tail _ af)))) λh aa=>?_)
  ·subst nM;exact bt.cons (dB.of bx (ef.ret (Ev.R Ev.none) trivial ⟨rfl,.refl _⟩))
  ·refine aE (EF (X:=[(st,cy []),(eA,fv []),(fz,fj prog w []),(jz,h6 prog w sn k)]) (q':=eI w S.pairs) aa (ah (aa.2 (S.d,_) (ql (.tail _ (.tail _ (.head _))))) λbZ e q=>⟨bZ,e,q.2⟩)) λab ae=>?_;exact⟨(nodup_append (l₁:=[st,eA,fz,jz])).mp ab |>.2.1,λc U=>ae c (.tail _ (.tail _ (.tail _ (.tail _ U))))⟩
end
theorem OI{α:Type}{φ:α->ak}{f:ak->ak}{d:α->Bool}{g:α->ak}:∀{l:List α},(∀x∈l,t (φ x)=d x)->(∀x∈l,f (φ x)=g x)->((l.map φ).filter t).map f=(l.filter d).map g:=by
 intro a9;induction a9 with
 |nil=>
  intro _ _;exact rfl
 |cons x l aw=>
  intro aM hf;have aw:=aw (λy av=>aM y (.tail _ av)) λy av=>hf y (.tail _ av);rw[map_cons,filter_cons,filter_cons,aM x (.head _)];induction d x with
  |true=>rw[aQ rfl,aQ rfl,map_cons,map_cons,aw,hf x (.head _)]
  |false=>rw[aI (by decide),aI (by decide),aw]
theorem bt.nodup{K:Around->Prop}(h:(br cs).Nodup->bt prog w K env m (ay cs) ss Φ):bt prog w K env m (ay cs) ss Φ:=λs₀ W₀ aJ ad A s E ai F=>h F.p.1 s₀ W₀ aJ ad A s E ai F
theorem Ni:∀{L:List dt},(br (L.flatMap eW)).Nodup->∀nd∈L,∀eL∈L,nd.b=eL.b->nd=eL:=by
 intro L;induction L with
 |nil=>exact λ_ nd h=>absurd h b8
 |cons n L aw=>
  intro aA nd h eL h' e;have gF:(n.gW::n.b::n.c::br (L.flatMap eW)).Nodup:=aA;have key:∀nd∈L,n.b≠nd.b:=λnd h q=>by
   have:=(List.nodup_cons.mp (List.nodup_cons.mp gF).2).1;refine this (.tail _ ?_);rw[q];exact bA.mpr ⟨(nd.b,_),List.mem_flatMap.mpr ⟨nd,h,.tail _ (.head _)⟩,rfl⟩
  rcases bI.mp h with q |q<;>rcases bI.mp h' with q' |q'
  ·rw[q,q']
  ·exact absurd (q▸e) (key eL q')
  ·exact absurd (q'▸e.symm) (key nd q)
  ·exact aw (List.nodup_cons.mp (List.nodup_cons.mp (List.nodup_cons.mp gF).2).2).2 nd q eL q' e
theorem h2.mono{f:Addr}{r:Rs}(h:h2 prog w n fr f args r Ψ)(k:∀p r',Ψ p r'->jS p r'):h2 prog w n fr f args r jS:=
 λs₀ s W₀ aJ A vs Q E a1 a2 dF fh kT pR va BK B3 gI i1 a4=>h s₀ s W₀ aJ A vs Q E a1 a2 dF fh kT pR va BK B3 gI i1 λp v r' s' cU=>a4 p v r' s' (k p r' cU)
section
variable {prog:Program} {w:World} {S:bl} {G:dU}
noncomputable def j8(S:bl):List Str:=(S.bq.filter λnd=>nd.np==0).map (·.x)
theorem Jo(g:S.Good)(jN:S.iz)(bf:S.cR=none)(vr:∀e∈fr,qH G e)(n3:∀nd∈S.bq,∀z∈nd.cO,(∃eL∈S.bq,eL.x=z)/\rk z < rk nd.x)(vt:hP S.bq (λ_=>false)<=900):
  h2 prog w 4 fr 149 [.val (.ref S.a)] (ay (S.cells w++G)) (λp r'=>p= .none/\∃eo,b0 r' (ay (bl.cells w {S with cR:=some (eo,j8 S)}++G))):=by
 have de:sizeLine=2 ^ 24:=rfl;refine h2.of (args:=[.val (.ref S.a)]) (names:=["self"]) (c:=148) (by exact⟨rfl,rfl,rfl,rfl,rfl,rfl,rfl,ee (by kernel_rfl),rfl,rfl,rfl,kinds_of (by kernel_rfl),rfl,rfl,rfl,by dsimp only,by dsimp only,by kernel_rfl⟩) (by exact rfl) ⟨trivial,trivial⟩ (λW A s vs cI c5 g low bb a4=>rQ g bb (λv=>by exact rfl) a4) ?_;intro env ba d8 fw kL;have bx:∀A:Around,ph 3 (env::fr) A->bK 3 A:=λA h=>h.1;show bt prog w _ env [("self",.val (.ref S.a))] _ _ _;refine bt.nodup λbo=>?_;have I:∀nd∈S.bq,S.bq.find? (λz=>z.b==nd.b)=some nd:=λnd h=>by
  have aA:(br (S.bq.flatMap eW)).Nodup:=by
   unfold br at bo;rw[map_append,bl.cells,map_append] at bo;exact(List.nodup_append.mp (List.nodup_append.mp bo).1).2.1
  induction q:S.bq.find? (λz=>z.b==nd.b) with
  |none=>exact absurd (List.find?_eq_none.mp q nd h) (by walk_at"o")
  |some z=>
   have ab:=mem_of_find?_eq_some q;have ae:=find?_some q;rw[Ni aA z ab nd h (eq_of_beq ae)]
 let look:ak->Option dt:=λp=>match p with | .val (.ref b)=>S.bq.find? (λz=>z.b==b) |_=>none
 let pe:ak->Bool:=λp=>((look p).map λnd=>nd.np==0).getD false
 let GF:ak->ak:=λp=> .str (((look p).map (·.x)).getD "")
 have kI:S.pairs.map (λz=>ak.val (.ref z.2))=S.bq.map λnd=> .val (.ref nd.b):=by unfold bl.pairs;rw[dW];rfl
 have oG:∀{c:Addr×(Obj->Prop)},c∈S.cells w->c∈S.cells w++G:=λh=>b6 _ h;have attr:∀{n:Nat} {env:Env} {m:Loc} {name:Str} {mem:Addr} {i:Nat} {p:ak} {nd:dt} {bW cc:Pos},nd∈S.bq->bM m "i" (.val (.ref nd.b))->findIn (KF w) (.ref 97) name=some (some (.ref mem))->specialIn (KF w) (.ref mem) "__get__"=some (some (.builtin "member_descriptor.__get__"))->takesIn (KF w) (.ref mem)=some true->slotIn (KF w) mem 97=some i->lK nd.x nd.np nd.c i=some p->(∀i,p≠ .val (.builtin i))->attributeBase (.Name "i" bW) name env (eval (.Name "i" bW) env)=eval (.Name "i" bW) env->aV prog w n env m (ay (S.cells w++G)) (.Attribute (.Name "i" bW) name cc) p:=
  λ{n env m name mem i p nd bW cc} h ao a1 a2 dF fh kT pR va=>tp (x:=nd.b) (dx:=nd.gW) (aV.name ao (by kernel_rfl)) (oG (S.p0 h)) (oG (S.pW h)) qn (qp _) a1 a2 dF fh kT pR va
 refine bt.cons (nk bx (c:=false) (gr.cmp (p:= .none) (kY (kv:=S.attrs) (aV.name (by walk_at"e") (by kernel_rfl)) (oG S.g4) (oG S.g7) hO (hu _) tO (by unfold bl.attrs;rw[bf];exact rfl) (λi q=>by injection q) rfl) (Ev.R Ev.none) vC (by with_unfolding_all rfl)) (λh=>by injection h) λ_=>bt.nil ?_);refine bt.cons (dB.of bx (B9 (x:=S.a) (dx:=S.dx) (C:=194) (Ic (mf:=[]) (c:=false) (ps:=S.bq.map λnd=> .val (.ref nd.b)) (t:=pe) (f:=GF) (l:=j8 S) (λy p h=>?_) ba (λW A s ai st a0 aa=>?_) ⟨λ_ _=>rfl,λ_=>rfl,by kernel_rfl,by kernel_rfl,by decide+kernel,rfl⟩ (λ_ _ h=>by injection h) ?_ (λp aa _=>trivial) (λp aa cenv dQ=>?_) (λp aa aM cenv dQ=>?_) (λ_=>rfl) ?_) qf qb DM hO ?_ rfl))
 ·simp only[List.lookup] at h;replace h:=h;split at h
  ·obtain rfl:=bT h;exact⟨_,rfl⟩
  ·injection h
 ·rw[<-kI];exact JY ai st a0 aa (kY (kv:=S.attrs) (aV.name (by walk_at"e") (by kernel_rfl)) (oG S.g4) (oG S.g7) hO (hu _) tL (by exact rfl) (λi q=>by cases q) rfl) (oG S.vu) g.sys rfl rfl
 ·rw[bO];have:=g.pB;exact bH ‹_› rfl
 ·refine ah (bA.mp aa) λnd hm aU=>?_;subst aU;have e:pe (.val (.ref nd.b))=(nd.np==0):=by show((S.bq.find? _).map _).getD false=_;rw[I nd hm];rfl
  rw[e];exact nA.one (gr.cmp (attr hm a5 v3 wb vP qd rfl (λi q=>by injection q) rfl) (Ev.R Ev.int) rP (by with_unfolding_all rfl))
 ·refine ah (bA.mp aa) λnd hm a7=>?_;subst a7;have e:GF (.val (.ref nd.b))= .str nd.x:=by show ak.str (((S.bq.find? _).map _).getD "")=_;rw[I nd hm];rfl
  rw[e];exact attr hm a5 Lj Nl Kk DD rfl (λi q=>by injection q) rfl
 ·rw[OI (d:=λnd=>nd.np==0) (g:=λnd=>ak.str nd.x) (λnd hm=>by show((S.bq.find? _).map _).getD false=_;rw[I nd hm];rfl) (λnd hm=>by show ak.str (((S.bq.find? _).map _).getD "")=_;rw[I nd hm];rfl)];unfold j8 aB;rw[dW];rfl
 intro _ _ dg;refine ah dg λD dq e2=>?_;subst dq;subst e2
 let b3:bl:={S with cR:=some (D,j8 S)}
 refine⟨trivial,S.cells w++G++[(D,cy (j8 S))],S.attrs,.refl _,aV.name (by walk_at"e") (by kernel_rfl),b6 _ (oG S.g4),b6 _ (oG S.g7),show(4:Nat)<=100 by decide,?_⟩;have uT:b0 (ay (setC (S.cells w++G++[(D,cy (j8 S))]) S.dx (c7 (h5 "_ready_nodes" (.val (.ref D)) S.attrs)))) (ay (b3.cells w++G)):=by
  have ax:h5 "_ready_nodes" (.val (.ref D)) S.attrs=b3.attrs:=by exact rfl
  rw[ax];have aC:b3.cells w++G=(S.a,fP 194 S.dx)::(S.dx,c7 b3.attrs)::(S.d,eI w S.pairs)::(D,cy (j8 S))::(S.bq.flatMap eW++G):=rfl;have a8:S.cells w++G=(S.a,fP 194 S.dx)::(S.dx,c7 S.attrs)::(S.d,eI w S.pairs)::(S.bq.flatMap eW++G):=by unfold bl.cells;rw[bf];rfl
  rw[aC,a8];refine(jL (cs:=((S.a,fP 194 S.dx)::(S.dx,c7 S.attrs)::(S.d,eI w S.pairs)::(S.bq.flatMap eW++G))++[(D,cy (j8 S))]) (cs':=(S.a,fP 194 S.dx)::(S.dx,c7 b3.attrs)::(S.d,eI w S.pairs)::((S.bq.flatMap eW++G)++[(D,cy (j8 S))])) rfl (.tail _ (.head _)) λc U=>?_).trans (tT ((((perm_append_singleton _ _).cons _).cons _).cons _));rcases bI.mp U with rfl |U
  ·exact .inr (.head _)
  rcases bI.mp U with rfl |U
  ·exact .inl rfl
  ·exact .inr (.tail _ (.tail _ U))
 refine uT.kK ?_;have g1:b3.Good:=⟨g.nd,g.sys,g.pB⟩
 have Hb:∀{c:Addr×(Obj->Prop)},c∈b3.cells w->c∈b3.cells w++G:=λh=>b6 _ h;refine bt.cons (ya (Cp (n:=3) (fr:=env::fr) (x:=b3.a) (dx:=b3.dx) (C:=194) (f:=184) (kv:=b3.attrs) (Ψ:=λp r'=>p= .none/\b0 r' (ay (b3.cells w++G))) (aV.name (by walk_at"e") (by kernel_rfl)) (Hb b3.g4) (Hb b3.g7) (hu _) K3 Nf (by exact rfl) (by exact rfl) (by exact rfl) dd.nil trivial (λo aj=>?_) (.inl rfl) rfl) (.inl (by walk_at"e")) ?_ rfl)
 ·have:=LS (prog:=prog) (w:=w) (S:=b3) (G:=G++[(env.locals,jd o)]) (fr:=env::fr) g1 jN (λe he=>?_) n3 vt
  ·rw[<-append_assoc] at this;exact this.mono λp r' h=>⟨_,h.2,h.1,.refl _⟩
  ·rcases bI.mp he with rfl |he
   ·exact⟨by rw[ba.fn];decide,kL,o,aj,b9 _ (.head _)⟩
   ·refine cB (vr e he) λa1 a2 bk=>?_;refine ah bk λbZ dF fh=>?_;exact⟨a1,a2,bZ,dF,b6 _ fh⟩
 intro _ r' eZ _;refine aE eZ λhB n7=>?_;subst hB;refine bt.cons (nk bx (c:=false) (gr.plain (aV.name a5 (by kernel_rfl)) gR.none λ_=>rfl) (λh=>by injection h) λ_=>bt.nil (bt.nil ⟨rfl,D,n7⟩))
end
noncomputable def oS(row:List Str)(k:Nat):List Str:=cL row (some (bestOf (λa b=>decide (b < a)) [(0:Int),(k:Nat) - 1])) (some (k:Nat)) none
noncomputable def wm(N:dS)(row:List Str):dS:=(range row.length).foldl (λN k=>mI N (row.getD k "") (oS row k)) N
noncomputable def iM(rows:List (List Str)):dS:=rows.foldl wm []
noncomputable def nJ(N:dS)(y:Str):Bool:=N.any λz=>z.1==y
noncomputable def kC(N:dS)(cW:List Str):dS:=cW.foldl (λN z=>k6 N z (-1)) N
noncomputable def okN(N:dS)(cW q told:List Str)(y:Str):Bool:=
 oa (kC N cW) y== -1&&nJ (kC N cW) y&&cW.all (nJ N)&&(mS (kC N cW) y).all (nJ (kC N cW))&&decide ((mS (kC N cW) y).length<=500/\(cW++q).length<=500/\told.length<=500)
noncomputable def runN:Nat->dS->List Str->List Str->Int->Int->List Str->Option (List Str)
 |0,_,_,_,_,_,_=>none
 |f+1,N,cW,q,po,da,told=>
  if decide (da < po)|| !cW.isEmpty then
   match cW++q with
   |[]=>none
   |y::q'=>if okN N cW q told y then runN f (jM (kC N cW) [] y).1 (jM (kC N cW) [] y).2 q' (po+cW.length) (da+1) (told++[y]) else none
  else some told
noncomputable def gV(N:dS):Nat:=(N.map λz=>z.2.2.length+1).sum
theorem Ng(N:dS):N.length<=gV N:=by
 induction N with
 |nil=>exact c0 _
 |cons z N aw=>unfold gV at aw ⊢;rw[map_cons,sum_cons,dI];walk_at"o"
theorem N3:∀{N:dS} {z},z∈N->z.2.2.length<=gV N:=by
 intro N;induction N with
 |nil=>exact λh=>absurd h b8
 |cons eN N aw=>
  intro z h;unfold gV;rw[map_cons,sum_cons];rcases bI.mp h with rfl |h
  ·walk_at"o"
  ·have:=aw h;unfold gV at this;walk_at"o"
theorem Ea(N:dS)(y:Str):gV (ha N y)<=gV N+1:=by
 unfold ha;split
 ·exact Nat.le_add_right _ _
 ·unfold gV;rw[map_append,sum_append];exact Nat.le_refl _
theorem vJ{y:Str}(h:(N.map (·.1)).Nodup):((ha N y).map (·.1)).Nodup:=by
 unfold ha;split
 ·exact h
 ·rename_i q;rw[map_append];exact List.nodup_append.mpr ⟨h,by simp,λa af b I e=>q (by have kO:b=y:=cQ.mp I;rw[<-kO, <-e];exact af)⟩
theorem Ly{y:Str}{f:Int×List Str->Int×List Str}:∀{N:dS},y∉N.map (·.1)->jl N y f=N:=by
 intro a9;induction a9 with
 |nil=>
  intro _;exact rfl
 |cons z N aw=>
  intro h;unfold jl;rw[map_cons,aI λq=>h (by rw[map_cons,q];exact .head _)];exact congrArg _ (aw λq=>h (.tail _ q))
theorem D3{y:Str}{f:Int×List Str->Int×List Str}{c:Nat}(hf:∀q,(f q).2.length<=q.2.length+c):∀{N:dS},(N.map (·.1)).Nodup->gV (jl N y f)<=gV N+c:=by
 intro a9;induction a9 with
 |nil=>
  intro _;exact c0 _
 |cons z N aw=>
  intro h;refine aE (List.nodup_cons.mp h) λab ae=>?_;have e:gV (jl (z::N) y f)=((if z.1=y then(z.1,f z.2) else z).2.2.length+1)+gV (jl N y f):=rfl;have aC:gV (z::N)=(z.2.2.length+1)+gV N:=rfl;rw[e,aC];by_cases q:z.1=y
  ·rw[aQ q,Ly (q▸ab)];have:=hf z.2;show((f z.2).2.length+1)+_<=_;walk_at"o"
  ·rw[aI q];have:=aw ae;walk_at"o"
theorem KG{y:Str}(h:(N.map (·.1)).Nodup)(aa:gB.length<=1):gV (mI N y gB)<=gV N+3/\((mI N y gB).map (·.1)).Nodup:=by
 have a1:∀c:Int,gV (jj (ha N y) y c)<=gV N+1:=λc=>Nat.le_trans (D3 (f:=λq=>(q.1+c,q.2)) (c:=0) (λq=>Nat.le_refl _) (vJ h)) (Ea N y);have km:∀c:Int,((jj (ha N y) y c).map (·.1)).Nodup:=λc=>by unfold jj;rw[tE];exact vJ h
 unfold mI;rcases gB with _ |⟨p,_ |⟨p',r⟩⟩
 ·exact⟨Nat.le_trans (a1 _) (Nat.add_le_add_left (by decide) _),km _⟩
 ·rw[foldl_cons,foldl_nil];refine⟨?_,by unfold sd;rw[tE];exact vJ (km _)⟩;refine Nat.le_trans (D3 (c:=1) (λq=>by rw[length_append];exact Nat.le_refl _) (vJ (km _))) ?_;exact Nat.le_trans (Nat.add_le_add_right (Ea _ p) 1) (Nat.add_le_add_right (Nat.add_le_add_right (a1 _) 1) 1)
 ·simp only[length_cons] at aa;walk_at"o"
theorem NW:∀n < 6,∀k < n,(let t:=sliceBounds (some (bestOf (λa b=>decide (b < a)) [(0:Int),(k:Nat) - 1])) (some (k:Nat)) none n;sliceRange t.1 t.2.1 t.2.2)=if k=0 then [] else [k - 1]:=by decide+kernel
theorem CN{row:List Str}{k:Nat}(dz:row.length<=5)(ar:k < row.length):oS row k=if k=0 then [] else [row.getD (k - 1) ""]:=by
 have ab:=NW row.length (Nat.lt_succ_of_le dz) k ar;show filterMap (row[·]?) (let t:=sliceBounds (some (bestOf (λa b=>decide (b < a)) [(0:Int),(k:Nat) - 1])) (some (k:Nat)) none row.length;sliceRange t.1 t.2.1 t.2.2)=_;rw[ab];by_cases e:k=0
 ·rw[aQ e,aQ e];rfl
 ·rw[aI e,aI e];have ae:row[k - 1]? =some row[k - 1]:=cm (Nat.lt_of_le_of_lt (Nat.sub_le _ _) ar);rw[c8,filterMap_cons,ae];rfl
theorem Ji{row:List Str}{k:Nat}(dz:row.length<=5)(ar:k < row.length):(oS row k).length<=1:=by
 rw[CN dz ar];split<;>simp
theorem eQ.le{k:Nat}{f:Addr}{r:Rs}(h:eQ prog w n f args r Ψ)(ar:n<=k):eQ prog w k f args r Ψ:=
 λs₀ s W₀ aJ A vs Q E ai=>h s₀ s W₀ aJ A vs Q E (ai.le ar)
theorem eQ.mono{f:Addr}{r:Rs}(h:eQ prog w n f args r Ψ)(k:∀p r',Ψ p r'->jS p r'):eQ prog w n f args r jS:=
 λs₀ s W₀ aJ A vs Q E a1 a2 dF fh kT pR va BK B3 gI a4=>h s₀ s W₀ aJ A vs Q E a1 a2 dF fh kT pR va BK B3 gI λp v r' s' cU=>a4 p v r' s' (k p r' cU)
theorem h2.le{k:Nat}{f:Addr}{r:Rs}(h:h2 prog w n fr f args r Ψ)(ar:n<=k):h2 prog w k fr f args r Ψ:=
 λs₀ s W₀ aJ A vs Q E ai=>h s₀ s W₀ aJ A vs Q E (ai.le ar)
theorem LC:specialIn (KF w) (.ref 144) "__get__"=some (some (.builtin "function.__get__")):=by kernel_rfl
theorem J1:takesIn (KF w) (.ref 144)=some false:=by kernel_rfl
inductive FI (w:World) (B0:Addr) (G:dU) (N:dS) (t:Nat) (m:Loc) (r:Rs):Prop
 |mk (S:bl) (le:b0 r (ay (S.cells w++G))) (af:S.a=B0) (g:S.Good) (hf:S.iz) (bf:S.cR=Option.none) (aa:S.po=0) (hi:S.da=0) (aA:S.bG=N) (hz:gV N<=3*t) (dH:bM m "sorter" (.val (.ref B0))) (dh:bM m "gifts" (.bw (replicate t .none))) (l0:List.lookup ("told":Str) m=Option.none)
theorem yp{t:Nat}:dA (replicate t ak.none):=j9 λp aa=>by rw[eq_of_mem_replicate aa];exact trivial
theorem rO{t:Nat}:replicate t ak.none++[ak.none]=replicate (t+1) ak.none:=List.replicate_succ'.symm
theorem DX{G:dU}{eU:Addr}{P BE:Obj->Prop}:b0 (ay (setC (X++(G++[(eU,P)])) eU BE)) (ay (X++(G++[(eU,BE)]))):=by
 refine jL ?_ (b9 _ (b9 _ (.head _))) λc U=>?_
 ·simp only[br,map_append,map_cons,map_nil]
 ·rcases List.mem_append.mp U with U |U
  ·exact .inr (b6 _ U)
  rcases List.mem_append.mp U with U |U
  ·exact .inr (b9 _ (b6 _ U))
  ·exact .inl (cQ.mp U)
theorem yQ{y:Str}(h:nJ N y=true):y∈N.map (·.1):=by
 refine ah (List.any_eq_true.mp h) λz hz e=>?_;exact bA.mpr ⟨z,hz,eq_of_beq e⟩
theorem NU{G:dU}{rows:List (List Str)}{fuel:Nat}(vr:∀e∈fr,qH G e)(qy:rows.length<=5)(kH:∀l∈rows,l.length<=5)(n3:∀z∈iM rows,∀x∈z.2.2,x∈(iM rows).map (·.1)/\rk x < rk z.1)
  (eX:runN fuel (iM rows) (((iM rows).filter λz=>z.2.1==0).map (·.1)) [] 0 0 []=some out):h2 prog w 7 fr 246 [.list (bF rows)] (ay G) (λp r'=>p= .list (aB out)/\b0 r' (ay G)):=by
 have de:sizeLine=2 ^ 24:=rfl;refine h2.of (args:=[.list (bF rows)]) (names:=["rows"]) (c:=245) (by exact⟨rfl,rfl,rfl,rfl,rfl,rfl,rfl,ee (by kernel_rfl),rfl,rfl,rfl,kinds_of (by kernel_rfl),rfl,rfl,rfl,by dsimp only,by dsimp only,by kernel_rfl⟩) (by exact rfl) ⟨lF,trivial⟩ (λW A s vs cI c5 g low bb a4=>rQ g bb (λv=>by exact rfl) a4) ?_;intro env ba d8 fw kL;have bx:∀A:Around,ph 6 (env::fr) A->bK 6 A:=λA h=>h.1;show bt prog w _ env [("rows",.list (bF rows))] _ _ _;refine ht λxg nM=>?_;refine bt.cons (dB.of bx (oJ (fa.make (n:=5) (C:=194) (fI:=130) (ps:=[]) (px:=λdx=>fP 194 dx) (Ψ:=λp r'=>∃S:bl,p= .val (.ref S.a)/\S.bq=[]/\S.cR=none/\S.po=0/\S.da=0/\(S.d==sysModules)=false/\b0 r' (ay (G++S.cells w))) (fC (by walk_at"e") Js (by kernel_rfl)) Kl JG KS P5 dd.nil trivial (λdx=>⟨#[],rfl⟩) (λx dx=>((Ma (base:=G)).le (by decide)).mono λp r' h=>?_) rfl rfl) (.inl (by walk_at"e")) ?_ rfl))
 ·obtain⟨ab,d,ae,aD⟩:=h;exact⟨ab,_,rfl,rfl,rfl,rfl,rfl,ae,aD⟩
 intro _ r' dg _;refine Fm dg λvc dq s1 s2 s3 s4 s5 AQ=>?_;subst dq;refine(AQ.trans (tT perm_append_comm)).kK ?_;refine bt.cons (dB.of bx (df.R (tj (Φ:=mm (("gifts",.bw [])::("sorter",.val (.ref vc.a))::[("rows",.list (bF rows))])) (.inl (by walk_at"e")) (lookup_miss (by kernel_rfl) (lookup_miss (by kernel_rfl) rfl)) ⟨rfl,rfl⟩ rfl) (λp m h=>by injection (h.1)) ?_));intro _ _ eZ;refine aE eZ λe2 hB=>?_;subst e2;subst hB;have TR:vc.bG=[]:=by unfold bl.bG;rw[s1];rfl
 let ig:Nat->Loc->Rs->Prop:=λj m' r'=>∃t,t<=5*j/\FI w vc.a G ((rows.take j).foldl wm []) t m' r'
 refine bt.cons (dB.of bx (ni (q:= .list (bF rows)) (ps:=bF rows) ig (Ev.R (by walk_at"e")) cw.list lF (λp aa=>by refine ah (jG aa) λl _ aU=>?_;subst aU;exact d5) (.inl (by walk_at"e"))
  ⟨0,c0 _,vc,.refl _,rfl,⟨by rw[s1];exact nodup_nil,s5,by rw[s1];exact c0 _⟩,λnd h=>(by rw[s1] at h;exact absurd h b8),s2,s3,s4,TR,c0 _,by walk_at"e",by exact(a5:bM _ _ (.bw [])),lookup_miss (by kernel_rfl) (lookup_miss (by kernel_rfl) (lookup_miss (by kernel_rfl) rfl))⟩ ?_ ?_ (λ_=>rfl)))
 ·intro j p m' r' gL gE;refine ht λpK hQ=>?_;refine ah gE λt aM u9=>?_;rw[d7] at gL;refine ah (Option.map_eq_some_iff.mp gL) λrow Be a7=>?_;subst a7;have kR:=iL Be;have dz:=kH row (eP Be);refine aE (yP (N:=(row.length:Int)) (by walk_at"o") (by walk_at"o")) λgG e3=>?_;have vo:iy 0 (row.length:Int) 1=row.length:=by unfold iy;rw[rangeSize_one];split<;>walk_at"o"
  let oH:Nat->Loc->Rs->Prop:=λi dE eR=>FI w vc.a G ((range i).foldl (λN k=>mI N (row.getD k "") (oS row k)) ((rows.take j).foldl wm [])) (t+i) dE eR/\bM dE "row" (.list (aB row))
  refine aZ.cons (ni (q:= .gY 0 row.length 1) (ps:=fR 0 row.length 1) oH
   (Ev.R (Ev.call (ft (by walk_at"e") qa (by exact rfl) (by decide+kernel) (by kernel_rfl)) (.inr (.inl ⟨"range",rfl⟩)) (aK.cons (p:= .int row.length) (Ev.call (ft (by walk_at"e") nv (by exact rfl) (by decide+kernel) (by kernel_rfl)) (.inl ⟨"len",rfl⟩) (aK.cons (Ev.name a5 (by kernel_rfl)) aK.nil rfl) (cz (a:=row)▸Cl.len (by rw[cz];exact bH ‹_› rfl)) rfl rfl) aK.nil rfl) rM rfl rfl))
   (cw.gY gG e3) trivial (λp aa=>by refine ah (bA.mp aa) λi _ bk=>?_;subst bk;exact trivial) (.inl (by walk_at"e")) ⟨?_,a5⟩ ?_ ?_ (λ_=>rfl))
  ·obtain⟨S,ab,ae,aD,bc,dz,i8,mj,pY,pS,dH,dh,l0⟩:=u9;exact⟨S,ab,ae,aD,bc,dz,i8,mj,pY,pS,bS (by kernel_rfl) dH,bS (by kernel_rfl) dh,lookup_miss (by kernel_rfl) l0⟩
  ·intro i p dE eR aa h9;refine ht λAw mR=>?_;refine aE h9 λiX ox=>?_;obtain⟨S,le,uP,g,jN,bf,lU,mY,kQ,hg,dH,dh,l0⟩:=iX;have l8:i < row.length:=by
    have:=iL aa;simp only[fR,length_map,length_range,vo] at this;exact this
   have fS:p= .int (i:Nat):=by
    simp only[fR,getElem?_map] at aa;refine ah (Option.map_eq_some_iff.mp aa) λdG ab ae=>?_;have:dG=i:=by
     rw[getElem?_range (by walk_at"o")] at ab;cases ab;rfl
    subst this;rw[<-ae,show(0:Int)+(dG:Nat)*1=dG by walk_at"o"]
   subst fS;rw[<-uP] at dH;replace dH:=dH;have pI:=Ji dz l8;have rv:S.bq.length<=90:=by
    have:=Ng S.bG;rw[kQ] at this;have ae:S.bG.length=S.bq.length:=bO ..;rw[kQ] at ae;walk_at"o"
   refine le.ex (aZ.cons (vA (q:= .bw (replicate (t+i) .none)) (p':=λp=> .bw (replicate (t+i) .none++[p])) (T:="list") (id:="list.append") k4 (by walk_at"e") (.inl ⟨_,rfl⟩) Typed.bw
    (HZ (x:=S.a) (dx:=S.dx) (C:=194) (f:=144) (kv:=S.attrs) (ps:= .str (row.getD i "")::aB (oS row i)) (aV.name (by walk_at"e") (by kernel_rfl)) (b6 _ S.g4) (b6 _ S.g7) hO (hu _) KR MN LC J1 (by kernel_rfl) (by exact rfl) (by exact rfl) (by exact rfl)
     (dd.cons (Ev.R (Ev.item (q:= .list (aB row)) (k:= .int i) (Ev.name (by walk_at"e") (by kernel_rfl)) (Ev.name a5 (by kernel_rfl)) Typed.list fD.lookup (cA.item (by exact Int.natCast_nonneg _) (by rw[Int.toNat_natCast,d7,cm l8,c8,cm l8];rfl) (by rw[cz];exact bH ‹_› rfl)) λ_ _=>rfl))
      (Jb (Ev.R (yn (l:=row) (a:=some (bestOf (λa b=>decide (b < a)) [(0:Int),(i:Nat) - 1])) (b:=some (i:Nat)) (c:=none) (Ev.name (by walk_at"e") (by kernel_rfl)) (Ev.call (ft (by walk_at"e") El (by exact rfl) (by decide+kernel) (by kernel_rfl)) (.inl ⟨"max",rfl⟩) (aK.cons (p:= .int 0) Ev.int (aK.cons (p:= .int ((i:Nat) - 1)) (d6 (Ev.name a5 (by kernel_rfl)) Ev.int rN) aK.nil rfl) rfl) Kv rfl rfl) (Ev.name a5 (by kernel_rfl)) trivial (by decide) (by exact bH ‹_› rfl))) (by rw[cz];show(oS row i).length<=_;exact bH ‹_› rfl) rfl) rfl)
     ⟨trivial,d5⟩ (eQ.frame (jS:=λp cs'=>p= .none/\∃S',cs'=S'.cells w/\S'.Good/\S'.iz/\l7 S S'/\S'.bG=mI S.bG (row.getD i "") (oS row i)) (Nr g jN bf pI rv λz hz=>?_) λp r' h=>?_) (.inr ⟨_,_,rfl⟩) rfl rfl rfl) ?_ rfl (by kernel_rfl) rfl rfl rfl (jc ba) rfl))
   ·have:=N3 hz;rw[kQ] at this;walk_at"o"
   ·obtain⟨ab,S',ae,aD,bc,dz,i8⟩:=h;exact⟨S'.cells w,ae,ab,S',rfl,aD,bc,dz,i8⟩
   ·intro p r' n5 _;refine dK n5 λcs' jU l6 nV=>?_;refine mO nV λS' nX gh N8 w3 sM=>?_;subst jU;subst l6;subst nX;subst mR;have z7:=KG (N:=S.bG) (y:=row.getD i "") (by rw[tl];exact g.nd) pI;refine⟨show dA _ by rw[rO];exact yp,.inl ⟨_,rfl⟩,iE.append (by rw[length_replicate];walk_at"o"),aZ.nil ⟨⟨S',.refl _,w3.a.trans uP,gh,N8,w3.cR.trans bf,w3.po.trans lU,w3.da.trans mY,?_,?_,by rw[uP] at dH;exact bS (by kernel_rfl) (bS (by kernel_rfl) dH),by rw[rO];exact a5,lookup_miss (by kernel_rfl) (lookup_miss (by kernel_rfl) l0)⟩,by walk_at"e"⟩⟩
    ·rw[sM,kQ,range_succ,foldl_append];rfl
    ·have ab:=z7.1;rw[kQ] at ab;rw[range_succ,foldl_append];show gV (mI _ _ _)<=_;walk_at"o"
  ·intro dE eR q5;refine aE q5 λrm ox=>?_;obtain⟨S,le,ae,aD,bc,Tq,i8,mj,pY,pS,dH,dh,l0⟩:=rm;have hlen:(fR 0 (row.length:Int) 1).length=row.length:=by simp only[fR,length_map,length_range,vo]
   subst hQ;rw[hlen] at pY pS dh;refine aZ.nil (aZ.nil ⟨t+row.length,by walk_at"o",S,le,ae,aD,bc,Tq,i8,mj,?_,?_,dH,dh,l0⟩)
   all_goals
    rw[take_add_one,Be,toList_some,foldl_append]
   ·exact pY
   ·exact pS
 intro m' r' qY;refine ah qY λt aM qO=>?_;obtain⟨S,le,uP,g,jN,bf,lU,mY,kQ,hg,dH,dh,l0⟩:=qO;have pI:(bF rows).length=rows.length:=bO ..;rw[pI] at aM kQ hg;rw[take_length] at kQ hg;replace kQ:=kQ;replace hg:=hg;have uw:S.bG=iM rows:=kQ;have z7:gV S.bG<=3*t:=by rw[kQ];exact hg
 rw[<-uP] at dH;replace dH:=dH;refine aZ.nil (le.kK ?_);have FE:∀nd∈S.bq,∀z∈nd.cO,(∃eL∈S.bq,eL.x=z)/\rk z < rk nd.x:=λnd bo z hz=>by
  refine aE (n3 (nd.x,nd.np,nd.cO) (uw▸zf bo) z hz) λab ae=>?_;rw[<-uw] at ab;exact⟨bl.has ab,ae⟩
 have uR:hP S.bq (λ_=>false)<=900:=by
  have e:hP S.bq (λ_=>false)=gV S.bG:=by unfold hP gV bl.bG;rw[dW];rfl
  rw[e];walk_at"o"
 have As:j8 S=(S.bG.filter λz=>z.2.1==0).map (·.1):=by unfold j8 bl.bG;rw[List.filter_map,dW];rfl
 refine bt.cons (B8 bx (q:= .bw (replicate t .none)) (p':=λp=> .bw (replicate t .none++[p])) (T:="list") (id:="list.append") k4 dh (.inl ⟨_,rfl⟩) Typed.bw
  (Cp (n:=6) (fr:=env::fr) (x:=S.a) (dx:=S.dx) (C:=194) (f:=149) (kv:=S.attrs) (ps:=[]) (Ψ:=λp r'=>p= .none/\∃eo,b0 r' (ay (bl.cells w {S with cR:=some (eo,j8 S)}++G))) (aV.name dH (by kernel_rfl)) (b6 _ S.g4) (b6 _ S.g7) (hu _) Ku MA (by exact rfl) (by exact rfl) (by exact rfl) dd.nil trivial (λo aj=>?_) (.inl rfl) rfl) ?_ rfl (by kernel_rfl) rfl rfl rfl (jc ba) rfl)
 ·have:=(Jo (prog:=prog) (w:=w) (S:=S) (G:=G++[(env.locals,jd o)]) (fr:=env::fr) (rk:=rk) g jN bf (λe he=>?_) FE uR).le (k:=6) (by decide)
  ·rw[<-append_assoc] at this;refine this.mono λp r' h=>?_;obtain⟨ab,eo,ae⟩:=h;exact⟨_,by rw[<-append_assoc] at ae;exact ae,ab,eo,.refl _⟩
  ·rcases bI.mp he with rfl |he
   ·exact⟨by rw[ba.fn];decide,kL,o,aj,b9 _ (.head _)⟩
   ·refine cB (vr e he) λa1 a2 bz=>?_;refine ah bz λbZ dF fh=>?_;exact⟨a1,a2,bZ,dF,b6 _ fh⟩
 intro p r' rb _;obtain⟨qF,eo,uT⟩:=rb;subst qF;refine⟨show dA _ by rw[rO];exact yp,.inl ⟨_,rfl⟩,iE.append (by rw[length_replicate];walk_at"o"),?_⟩;rw[rO]
 let b3:bl:={S with cR:=some (eo,j8 S)}
 refine uT.kK (bt.cons (dB.of bx (oJ yc (.inl (by walk_at"e")) ?_ rfl)));intro _ _ uW _;refine ah uW λeU qR ub=>?_;subst qR;subst ub;have dN:b3.cells w++G++[(eU,cy [])]=b3.cells w++(G++[(eU,cy ([]:List Str).reverse)]):=append_assoc ..;refine bt.cons (dB.of bx (df.R (tj (Φ:=mm (("told",.bw [])::("pile",.val (.ref eU))::("gifts",.bw (replicate (t+1) .none))::m')) (.inl (by walk_at"e")) (lookup_miss (by kernel_rfl) (lookup_miss (by kernel_rfl) l0)) ⟨rfl,rfl⟩ rfl) (λp m h=>by injection (h.1)) ?_));intro _ _ zN;refine aE zN λuf zP=>?_;subst uf;subst zP;rw[dN]
 let vn:Nat->Loc->Rs->Prop:=λκ m' r'=>∃(S:bl) (cW q told:List Str) (u:Nat),b0 r' (ay (S.cells w++(G++[(eU,cy q.reverse)])))/\S.Good/\S.iz/\S.a=b3.a/\S.cR=some (eo,cW)/\runN κ S.bG cW q S.po S.da told=some out/\(u<=100+told.length/\told.length<=501)/\bM m' "sorter" (.val (.ref S.a))/\bM m' "gifts" (.bw (replicate u .none))/\bM m' "pile" (.val (.ref eU))/\bM m' "told" (.bw (aB told))
 refine bt.cons (Iu vn
  fuel ⟨b3,j8 S,[],[],t+1,.refl _,⟨g.nd,g.sys,g.pB⟩,jN,rfl,rfl,?_,⟨by walk_at"o",c0 _⟩,bS (by kernel_rfl) (bS (by kernel_rfl) (bS (by kernel_rfl) dH)),by walk_at"e",by walk_at"e",by exact(a5:bM _ _ (.bw []))⟩ (λ_=>rfl) ?_)
 ·have ax:b3.bG=iM rows:=uw;have aC:b3.po=0:=lU;have a8:b3.da=0:=mY;rw[ax,aC,a8,As,uw];exact eX
 ·clear uR FE As;clear eX uw kQ z7 hg;intro κ mi gG zH;refine Oq zH λS cW q told u le g jN PR FQ eX Ae dH dh ox jA=>?_;refine aE Ae λbD Vq=>?_;induction κ with
  |zero=>injection eX
  |succ κ=>
  unfold runN at eX
  let H:List Str->dU:=λq=>G++[(eU,cy q.reverse)]
  have VM:cW.length<=500:=by
   induction cW with
   |nil=>exact c0 _
   |cons z cW=>
    rw[aQ (by simp)] at eX;simp only[cons_append] at eX;replace eX:=eX;split at eX
    ·rename_i h;simp only[okN,Bool.and_eq_true,decide_eq_true_eq] at h;have:=h.2.2.1;rw[length_append] at this;exact Nat.le_trans (Nat.le_add_right _ _) this
    ·injection eX
  refine jn.of bx ?_;intro s₀ W₀ aJ ad A s Q E ai F a4;have aS:=F.le le;have hm:=le.vy (env:=env) (m:=mi) (ad:=ad);refine vF (x:=S.a) (dx:=S.dx) (C:=194) (f:=163) (kv:=S.attrs) (ps:=[]) (aV.name dH (by kernel_rfl)) (b6 _ S.g4) (b6 _ S.g7) (hu _) KL MV (by exact rfl) (by exact rfl) (by exact rfl) dd.nil trivial (eQ.frame (G:=H q) (jS:=λp cs'=>p= .bool (decide (S.da < S.po)|| !cW.isEmpty)/\cs'=S.cells w) ((KZ (prog:=prog) FQ (by exact bH ‹_› rfl)).le (by decide)) λp r' h=>⟨S.cells w,h.2,h.1,rfl⟩) (.inl rfl) rfl s₀ W₀ aJ ad A s Q E ai aS λp r' v s' aX k₁ aq eT cU=>a4 p r' v s' aX (hm▸k₁) aq eT ?_;refine dK cU λcs' b7 cC c2=>?_;subst b7;subst cC;subst c2;refine⟨_,rfl,λI=>?_,λI=>?_⟩
  ·refine ht λpK hQ=>?_;rw[aQ I] at eX;replace eX:=eX;induction U:cW++q with
   |nil=>rw[U] at eX;injection eX
   |cons y q'=>
   rw[U] at eX;simp only at eX;replace eX:=eX;split at eX
   ·rename_i e1;simp only[okN,Bool.and_eq_true,decide_eq_true_eq,List.all_eq_true,beq_iff_eq] at e1;refine eK e1 λc1 Hq Ui VZ=>?_;refine aE c1 λeM B1=>?_;refine aE eM λeJ ve=>?_;refine aE eJ λei oo=>?_;have xY:H (y::q')=G++[(eU,cy (q'.reverse++[y]))]:=by show G++[(eU,cy (y::q').reverse)]=_;rw[reverse_cons]
    rw[length_append] at Ui;refine bt.cons (dB.of bx (H7 (a:=eU) (l:=q.reverse) (aV.name ox (by kernel_rfl)) (b9 _ (b9 _ (.head _)))
     (H4 (l:=cW) (Ψ:=λr'=>∃S':bl,r'=ay (S'.cells w++H q)/\nH S S'/\S'.bG=kC S.bG cW/\S'.cR=some (eo,[])/\S'.po=S.po+cW.length/\S'.da=S.da)
      (fa.mono (vF (x:=S.a) (dx:=S.dx) (C:=194) (f:=156) (kv:=S.attrs) (ps:=[]) (aV.name dH (by kernel_rfl)) (b6 _ S.g4) (b6 _ S.g7) (hu _) Ko MZ (by exact rfl) (by exact rfl) (by exact rfl) dd.nil trivial
       (eQ.frame (G:=H q) (jS:=λp cs'=>p= .tup (aB cW)/\∃S':bl,cs'=S'.cells w/\nH S S'/\S'.bG=kC S.bG cW/\S'.cR=some (eo,[])/\S'.po=S.po+cW.length/\S'.da=S.da) ((Lc (prog:=prog) g jN FQ (by exact bH ‹_› rfl) λz hz=>yQ (ve z hz)).le (by decide)) λp r' h=>?_) (.inl rfl) rfl) λp r' h=>?_) (by exact bH ‹_› rfl)) ?_ rfl rfl rfl rfl rfl (jc ba) rfl))
    ·obtain⟨ab,S',ae,aD,bc⟩:=h;exact⟨S'.cells w,ae,ab,S',rfl,aD,bc⟩
    ·refine dK h λcs' fi ab f5=>?_;refine ah f5 λS' fJ ae=>?_;subst fi;subst fJ;exact⟨ab,S',rfl,ae⟩
    intro p r' Pk;obtain⟨Qp,S',QV,si,sM,Qq,Sw,Tc⟩:=Pk;subst Qp;subst QV;refine⟨cW.reverse,_,rfl,.refl _,b9 _ (b9 _ (.head _)),by rw[length_reverse,length_reverse];walk_at"o",?_⟩;rw[<-reverse_append,U];refine DX.kK ?_;show bt prog w _ env mi (ay (S'.cells w++H (y::q'))) _ _;rw[xY];refine bt.cons (dB.of bx (vA (q:= .bw (aB told)) (p':=λp=> .bw (aB told++[p])) (T:="list") (id:="list.append") k4 jA (.inl ⟨_,rfl⟩) Typed.bw
     (Jw (a:=eU) (l:=q'.reverse) (y:=y) (aV.name ox (by kernel_rfl)) (b9 _ (b9 _ (.head _))) (by
      have:=congrArg List.length U;rw[length_append,dI] at this;rw[length_reverse];walk_at"o") rfl rfl) ?_ rfl (by kernel_rfl) rfl rfl rfl (jc ba) rfl))
    intro p r' P2 _;refine aE P2 λPq Rk=>?_;subst Pq;subst Rk;have sX:aB told++[.str y]=aB (told++[y]):=by rw[jH];rfl
    refine⟨show dA _ by rw[sX];exact d5,.inl ⟨_,rfl⟩,iE.append (by rw[cz];exact bH ‹_› rfl),?_⟩;rw[sX];refine DX.kK ?_;refine ah (bl.has (S:=S') (y:=y) (by rw[sM];exact yQ oo)) λnd bo pk=>?_;have tW:=S'.yW si.good bo;rw[pk,sM] at tW;replace tW:=tW;have SM:nd.np= -1:=by unfold oa at ei;rw[tW] at ei;exact ei
    have SY:mS (kC S.bG cW) y=nd.cO:=by unfold mS;rw[tW];rfl
    rw[SY] at B1 Hq;refine bt.cons (dB.of bx (vA (q:= .bw (replicate u .none)) (p':=λp=> .bw (replicate u .none++[p])) (T:="list") (id:="list.append") k4 (bS (by kernel_rfl) dh) (.inl ⟨_,rfl⟩) Typed.bw
     (vF (x:=S'.a) (dx:=S'.dx) (C:=194) (f:=177) (kv:=S'.attrs) (ps:=[.str y]) (by rw[si.a];exact aV.name (bS (by kernel_rfl) dH) (by kernel_rfl)) (b6 _ S'.g4) (b6 _ S'.g7) (hu _) La Mx (by exact rfl) (by exact rfl) (by exact rfl)
      (dd.cons (Ev.R (Ev.item (q:= .bw (aB (told++[y]))) (k:= .int (-1)) (Ev.name a5 (by kernel_rfl)) (k1 Ev.int) Typed.bw fD.lookup (Cg (by decide) (by rw[cz,length_append];show -((told.length+1:Nat):Int)<= -1;walk_at"o") (by
       rw[cz,length_append,jH];rw[show(-1+((told.length+[y].length:Nat):Int)).toNat=(aB told).length by rw[cz];show(-1+((told.length+1:Nat):Int)).toNat=_;walk_at"o"];simp[aB]) (by rw[cz,length_append];show told.length+1<=_;walk_at"o")) λ_ _=>rfl)) dd.nil rfl) ⟨trivial,trivial⟩
      (eQ.frame (G:=H q') (jS:=λp cs'=>p= .none/\∃cG:bl,cs'=cG.cells w/\nH S' cG/\cG.bG=(jM S'.bG [] y).1/\cG.cR=some (eo,(jM S'.bG [] y).2)/\cG.po=S'.po/\cG.da=S'.da+1) (((pk▸Np (prog:=prog) si.good si.free Qq (c0 _) bo SM (by exact bH ‹_› rfl) λz hz=>by rw[sM];exact yQ (B1 z hz):eQ prog w 3 177 [.val (.ref S'.a),.str y] (S'.R w) (λp r'=>p= .none/\∃cG,b0 r' (bl.R w cG)/\nH S' cG/\cG.bG=(jM S'.bG [] y).1/\cG.cR=some (eo,(jM S'.bG [] y).2)/\cG.po=S'.po/\cG.da=S'.da+1))).le (by decide)) λp r' h=>?_) (.inr ⟨_,_,rfl⟩) rfl) ?_ rfl (by kernel_rfl) rfl rfl rfl (jc ba) rfl))
    ·obtain⟨ab,cG,ae,aD⟩:=h;exact⟨cG.cells w,ae,ab,cG,rfl,aD⟩
    intro p r' Qu _;refine dK Qu λcs' PZ QF QU=>?_;refine sg QU λcG PT wB lT Qm SR Tt=>?_;subst PZ;subst QF;subst PT;refine⟨show dA _ by rw[rO];exact yp,.inl ⟨_,rfl⟩,iE.append (by rw[length_replicate];walk_at"o"),?_⟩;rw[rO];subst hQ;refine bt.nil ⟨κ,Nat.lt_succ_self _,cG,_,q',told++[y],u+1,.refl _,wB.good,wB.free,(wB.a.trans si.a).trans PR,Qm,?_,?_,?_,a5,?_,?_⟩
    ·rw[lT,SR,Tt,Sw,Tc,sM];exact eX
    ·rw[length_append];exact⟨by show u+1<=100+(told.length+1);walk_at"o",by show told.length+1<=501;walk_at"o"⟩
    ·rw[wB.a,si.a];exact bS (by kernel_rfl) (bS (by kernel_rfl) dH)
    ·exact bS (by kernel_rfl) (bS (by kernel_rfl) ox)
    ·exact bS (by kernel_rfl) a5
   ·injection eX
  ·rw[aI (by rw[I];decide)] at eX;cases eX
   refine bt.nil (bt.drop (r':=ay G) ?_ (λa af=>?_) λh aa=>?_)
   ·have dN:((replicate u ak.none).filter λ_=>false).map _root_.id=[]:=by rw[List.filter_eq_nil_iff.mpr λ_ _=>by decide,map_nil]
    subst nM;refine bt.cons (dB.of bx (ef.ret (p:= .list (aB out++((replicate u ak.none).filter λ_=>false).map _root_.id)) (Ev.R (d6 (Ev.name jA (by kernel_rfl)) (kr (mf:=[]) (c:=false) (t:=λ_=>false) (f:=_root_.id) ba (Ev.name dh (by kernel_rfl)) cw.bw ⟨λ_ _=>rfl,λ_=>rfl,by kernel_rfl,by kernel_rfl,by decide+kernel,rfl⟩ (λ_ _ h=>by cases h) (by rw[length_replicate];walk_at"o") (λp _ h=>by cases h) (λp aa cenv dQ=>by
      rw[eq_of_mem_replicate aa];exact fX.one (bV.cmp (Ev.name a5 (by kernel_rfl)) Ev.none vC (by with_unfolding_all rfl))) (λp _ h=>by injection h) (λ_=>rfl)) (Jn (by rw[dN,cz];show out.length+0<=_;walk_at"o")))) (by rw[dN,append_nil];exact d5) ⟨by rw[dN,append_nil],.refl _⟩))
   ·show a∈br (S.cells w++(G++[(eU,cy q.reverse)]));unfold br;rw[map_append,map_append];exact b9 _ (b6 _ af)
   ·refine aE aa λab ae=>?_;unfold br at ab;rw[map_append,map_append] at ab;exact⟨(List.nodup_append.mp (List.nodup_append.mp ab).2.1).1,λc U=>ae c (b9 _ (b6 _ U))⟩
theorem Mp:∀{l:List Str} {vs:List Value},vs.length=l.length->(∀(j:Nat) (v:Value),vs[j]? =some v->∃(y:Str) (t:Tok),l[j]? =some y/\v= .str y t)->bJ w h W (aB l) vs:=by
 intro l;induction l with
 |nil=>exact λao _=>List.length_eq_zero_iff.mp ao
 |cons x l aw=>
  intro vs ao aa;refine qt ao λv eh e e0=>?_;subst e;refine dO (aa 0 v rfl) λy t ab ae=>?_;obtain rfl:=bT ab;exact⟨v,eh,rfl,⟨t,ae⟩,aw e0 λj u bD=>aa (j+1) u bD⟩
theorem CO{ks:List Str}{l:List ak}(hz:ks.length<=sizeLine):Cl prog w n (.type "list") [.dict ks l] (.list (aB ks)):=λW A s _ Q E ai g low fm h=>by
 refine bj fm λv _ ax aq a8=>?_;subst ax;rw[show _=[] from a8];refine iA aq λa es k aU aW aj a7 bb=>?_;subst aU;refine cB a7 λab ae aD=>?_;have gg:=qi (prog:=prog) aj ab ae;have ao:=(yz (prog:=prog) ab).2.2;have hlen:(ks.zip (es.map (·.val))).length=ks.length:=by rw[length_zip,bO,ao];exact Nat.min_self _
 refine kdl_call (kdl_dict (knd:=strKind prog w) (kvs:=ks.zip (es.map (·.val))) (ep:=k) aD) ai.calm gg (by rw[hlen];exact hz) λh' tk acc c ar Sz hit=>?_;have az:Ext s {s with heap:=h',toks:=tk}:=⟨⟨h',tk,rfl⟩,.of ar⟩
 refine h _ _ ⟨_,acc.toList,c,rfl,low.fresh,Sz,Mp (by rw[Array.length_toList];exact hit.1.trans hlen) λj v aq=>?_⟩ az (g.keeps ar);obtain⟨y,x,dy,bN⟩:=hit.2 j v (by rw[<-Array.getElem?_toList];exact aq);refine aP (Value.isStrOf_shape bN) λt bk=>?_;subst bk;have:(ks.zip (es.map (·.val)))[j]?.map (·.1)=some y:=by rw[dy];rfl
 rw[<-d7,map_fst_zip (by rw[bO,ao];exact Nat.le_refl _)] at this;exact⟨y,t,this,rfl⟩
noncomputable def m2(x:Str):Bool:=(kj x).getD false
def o5(x:Str):Prop:=(kj x).isSome=true
noncomputable def l4(y:Str):Str:=r4 (m2 y) y
noncomputable def hh(x y:Str):Bool:=lp (Txt.lower x) (Txt.lower y) (m2 (Txt.lower x)) (m2 (Txt.slice (Txt.lower y) (some 1) none))
structure lO (x y:Str):Prop where
 a:x.length<=100
 b:y.length<=100
 c:(Txt.lower x).length<=100
 d:(Txt.lower y).length<=100
 e:o5 (Txt.lower x)
 f:o5 (Txt.slice (Txt.lower y) (some 1) Option.none)
theorem o5.eq{x:Str}(h:o5 x):kj x=some (m2 x):=by
 unfold m2;refine aP (Option.isSome_iff_exists.mp h) λb e=>?_;rw[e];rfl
noncomputable def layAt(fits:List (List Str))(kv:List (Str×Int)):Nat->Int×List (Str×Int)
 |0=>(0,kv)
 |j+1=>((layAt fits kv j).1+qs (layAt fits kv j).2 (fits.getD j []),mD (layAt fits kv j).2 (fits.getD j []))
theorem DH{fits:List (List Str)}{kv:List (Str×Int)}:∀j,(layAt fits kv j).2.map (·.1)=kv.map (·.1):=by
 intro a9;induction a9 with
 |zero=>
  exact rfl
 |succ j aw=>
  show(mD _ _).map _=_;unfold mD;rw[dW];exact(List.map_id _).trans (aw)
structure zk (dk:List Int) (L:List (List Str)) (kv:List (Str×Int)) (O:List Str) (fe:Int):Prop where
 hs:dk.length<=1000
 QY:(cellsOf dk).map (λc=>kx (gz c))=L
 Sd:∀c∈cellsOf dk,0 < (gz c).length/\(gz c).length<=10/\ -10<=kA (gz c)/\kA (gz c)<=10/\∀k:Nat,((cL (gz c) (some (k:Nat)) Option.none Option.none).toArray.foldl (· +·.length+((".":Str)).length) 0)<=sizeLine/\(Builtin.Str.glued "." (cL (gz c) (some (k:Nat)) Option.none Option.none)).length<=sizeLine
 ie:L.length=5
 l0:∀l∈L,0 < l.length
 jA:∀l∈L,l.length<=5
 ok:∀l∈L,∀x∈l,PyData.strOk x=true/\x.length<=90/\o5 x/\(l4 x).length<=90
 zo:∀l∈L,dT l4 (l.getD 0 "") 5=l
 pr:rU (cellsOf dk) L=kv
 qU:kv.length<=60
 nd:(kv.map (·.1)).Nodup
 mem:∀x,x∈kv.map (·.1)↔∃l∈L,x∈l
 EY:∀l∈L,∀x∈kv.map (·.1),lO (Txt.upper (l.getD 0 "")) x/\lO (Txt.upper (l.getD 0 "")) ((".":Str)++x)
 fit:∀l∈L,(kv.map (·.1)).filter (λx=>hh (Txt.upper (l.getD 0 "")) ((".":Str)++x))++(kv.map (·.1)).filter (λx=>hh (Txt.upper (l.getD 0 "")) x)=l.reverse
 zt:∀x∈kv.map (·.1),∀z∈four x++two x,lO z.1 z.2
 ends:∀x∈kv.map (·.1),oW hh x=true
 rank:∃rk:Str->Nat,∀z∈iM L,∀x∈z.2.2,x∈(iM L).map (·.1)/\rk x < rk z.1
 run:∃fuel,runN fuel (iM L) (((iM L).filter λz=>z.2.1==0).map (·.1)) [] 0 0 []=some O
 dr:∀x∈kv.map (·.1),0 < (nz L x).length
 bx:∀y∈kv.map (·.1),∀z∈kv.map (·.1),keyOf L y=keyOf L z->y=z
 lR:∀y∈kv.map (·.1),∀z∈kv.map (·.1),k8 (gC L y) (lh y) (gC L z) (lh z)=decide (keyOf L y < keyOf L z)
 perm:O.Perm (kv.map (·.1))
 asc:O.Pairwise λa b=>keyOf L a < keyOf L b
 oF:∃f,k7 f (iP L) []=some O
 cut:(iP L).length<=5/\∀r∈iP L,r.length<=5/\∀x∈r,PyData.strOk x=true
 SV:∀x∈O,((jI L).lookup x).isSome=true
 below:∀j name,(O++[("":Str)])[j]? =some name->∀one∈O,((jI L).lookup one).getD ""=name->one∈(O++[("":Str)]).take j
 RV:("":Str)∉L.map λl=>l.getD 0 ""
 lst:qg O kv L=fe
 QE:(layAt (L.map reverse) kv 5).1=fe
 QA:(layAt (L.map reverse).reverse kv 5).1=fe
theorem KU:nsIn (KF w) 3 "_law_cells"=some (some (.ref 203)):=by exact rfl
theorem Jv:nsIn (KF w) 3 "_law_labels"=some (some (.ref 210)):=by exact rfl
theorem Jt:nsIn (KF w) 3 "_law_ladder"=some (some (.ref 215)):=by exact rfl
theorem K2:nsIn (KF w) 3 "_law_climb"=some (some (.ref 222)):=by exact rfl
theorem JM:nsIn (KF w) 3 "_law_prices"=some (some (.ref 229)):=by exact rfl
theorem MR:nsIn (KF w) 3 "_law_fit"=some (some (.ref 234)):=by exact rfl
theorem LW:nsIn (KF w) 3 "_law_ends"=some (some (.ref 241)):=by exact rfl
theorem MX:nsIn (KF w) 3 "_law_run"=some (some (.ref 246)):=by exact rfl
theorem M6:nsIn (KF w) 3 "_law_cut"=some (some (.ref 251)):=by exact rfl
theorem K0:nsIn (KF w) 3 "_law_order"=some (some (.ref 256)):=by exact rfl
theorem K9:nsIn (KF w) 3 "_law_least"=some (some (.ref 261)):=by exact rfl
theorem Mr:nsIn (KF w) 3 "_law_lay"=some (some (.ref 266)):=by exact rfl
theorem NC:nsIn (KF w) 3 "_c3_merge"=some (some (.ref 78)):=by exact rfl
theorem DQ:nsIn (KF w) 3 "list"=some none:=by exact rfl
theorem zq{x y:Str}(h:lO x y):dY prog w 2 57 [.str x,.str y] (.bool (hh x y)):=O8 h.a h.b h.c h.d h.e.eq h.f.eq
theorem Lx:∀{R:List (Addr×List Str)} {vs:List Value},bJ w h W (ez R) vs->bJ w h W' (ez R) vs:=by
 intro a9;induction a9 with
 |nil=>
  intro _ e;exact e
 |cons _ _ aw=>
  intro _ ra;refine bj ra λv r e aq bf=>?_;exact⟨v,r,e,aq,aw bf⟩
theorem LD{R:List (Addr×List Str)}{u:Value}(bD:a6 w h W (.list (ez R)) u)(aa:(fE R).P h):a6 w h (λa=>W a\/(fE R).J a) (.list (ez R)) u:=by
 refine cg bD λa vs k bz aW aj bb=>?_;subst bz;refine⟨a,vs,k,rfl,λq=>q.elim aW λq=>?_,aj,Lx bb⟩;refine ah (bA.mp q) λz hz b7=>?_;subst b7;refine dO (aa.2 z hz) λeh k' cS c2=>?_;refine ah c2 λls cC _=>?_;subst cC;rw[aj] at cS;replace cS:=cS;induction R with
 |nil=>exact absurd hz b8
 |cons xM R=>
  refine bj bb λv r c1 aq _=>?_;subst c1;induction ls with
  |nil=>injection cS with q;injection q with _ _ q;injection q with q;injection q with q;injection q
  |cons y ls=>
   injection cS with q;injection q with _ _ q;injection q with q;injection q with q
   rw[show v=Value.ref xM.1 from aq] at q;replace q:=q;injection q with q;injection q
theorem J0{L:List (List Str)}(ao:∀l∈L,l.length<=5)(su:L.length<=5)(e1:∀l∈L,∀x∈l,PyData.strOk x=true)(um:(iP L).length<=5/\∀r∈iP L,r.length<=5/\∀x∈r,PyData.strOk x=true)(eX:∃f,k7 f (iP L) []=some O)(dD:O.length<=1000)
  (ab:env.kindOf "_c3_merge"=some .globalImplicit) (ae:env.kindOf "_law_cut"=some .globalImplicit) (ag:bM m "ladders" (.list (bF L))):
  Ev prog w 4 env m (.Call (.Name "_c3_merge" bW) [.Call (.Name "_law_cut" cc) [.Name "ladders" fN] [] fy] [] ib) (.list (aB O)):=λW A s Q E ai st a4=>by
 refine aP eX λf eX=>?_;show wpAny _ _ (do callWith ib (<-eval (.Name "_c3_merge" bW) env) [] (backTo ib (starEach [.Call (.Name "_law_cut" cc) [.Name "ladders" fN] [] fy] env)) (backToKw ib (keywordEach [] env))) _ _ _;refine aH (fC (n:=4) (m:=m) ab NC (by kernel_rfl) W A s _ E ai st λv au aq az aF=>?_);rw[show v= .ref 78 from aq];have E8:=st.ext az aF;obtain⟨T6,Qf,Sv,RD⟩:∃o fd,(KF w).lookup 78=some o/\o.data= .func fd:=⟨_,_,rfl,rfl⟩
 refine Calls.callWith_function (o:=T6) (fd:=Qf) (g8 (ja rfl) (rT rfl ?_));show wpAny _ _ (do callWith fy (<-eval (.Name "_law_cut" cc) env) [] (backTo fy (starEach [.Name "ladders" fN] env)) (backToKw fy (keywordEach [] env))) _ _ _;refine aH (fC (n:=4) (m:=m) ae M6 (by kernel_rfl) W A au _ E ai E8 λv aL aq aR aY=>?_);rw[show v= .ref 251 from aq];have wq:=E8.ext aR aY;obtain⟨Rj,Ot,Q7,Ra⟩:∃o fd,(KF w).lookup 251=some o/\o.data= .func fd:=⟨_,_,rfl,rfl⟩
 refine Calls.callWith_function (o:=Rj) (fd:=Ot) (g8 (ja rfl) (rT rfl (Ev.name (n:=4) ag (by kernel_rfl) W A aL _ E ai wq λv eb aq d9 eY=>?_)));have E6:=wq.ext d9 eY;refine⟨⟨eY.K _ _ Q7,Ra⟩,Ny ao su e1 (ai.le (by decide)) eY E6.low ⟨v,[],rfl,aq,rfl⟩ λu c9 R bD lC B=>?_⟩;refine⟨⟨B.g.K _ _ Sv,RD⟩,?_⟩;refine Oz (lg:=R) (f:=f) ⟨B.p.1,?_,λz hz=>?_⟩ (by rw[lC];exact eX) dD (ai.le (by decide)) B.ext.same B.ext.keep eY B.g E6.low B.j B.p (LD bD B.p) λv gD S7 jO ji=>a4 v gD S7 (((az.trans aR).trans d9).trans jO) ji
 ·have:=congrArg List.length lC;rw[bO] at this;rw[this];exact um.1
 ·exact um.2 _ (lC▸fO hz)
theorem Er{α:Type}{l:List α}(h:l.length<=5):cL l none none (some (-1))=l.reverse:=by
 rcases l with _ |⟨a,_ |⟨b,_ |⟨c,_ |⟨d,_ |⟨e,_ |⟨f,r⟩⟩⟩⟩⟩⟩
 iterate 6 kernel_rfl
 simp only[length_cons] at h;walk_at"o"
theorem Kd{l:List (List Str)}:(e6 (.list (bF l))).depth<=64:=by
 have h0:∀l:List Str,PyData.depthAll (dX (aB l))=0:=λl=>by
  induction l with
  |nil=>rfl
  |cons a r aw=>show max _ (PyData.depthAll (dX (aB r)))=0;rw[aw];rfl
 have h:PyData.depthAll (dX (bF l))<=3:=by
  induction l with
  |nil=>exact c0 _
  |cons x l aw=>
   show max (PyData.depthAll (dX (aB x))+1) (PyData.depthAll (dX (bF l)))<=3;rw[h0];exact Nat.max_le.mpr ⟨by decide,aw⟩
 show PyData.depthAll (dX (bF l))+1<=64;walk_at"o"
theorem Na{L:List (List Str)}:(!PyData.eqv (e6 (.list (bF L))) (e6 (.list (bF L))))=false:=by
 show(!PyData.eqvAll (dX (bF L)) (dX (bF L)))=false;rw[C6];walk_at"o"
theorem MK{l:List Str}:(!PyData.eqv (e6 (.list (aB l))) (e6 (.list (aB l))))=false:=by
 show(!PyData.eqvAll (dX (aB l)) (dX (aB l)))=false;rw[vS];walk_at"o"
theorem CL{L:List (List Str)}(h:∀l∈L,∀x∈l,PyData.strOk x=true):cA prog w (compareOp .NotEq) (.list (bF L)) (.list (bF L)) (.bool false):=by
 have:=De (prog:=prog) (w:=w) (p:= .list (bF L)) (q:= .list (bF L)) (vW h) (vW h) (Nat.le_trans (Nat.min_le_left _ _) Kd);rw[Na] at this;exact this
theorem yy{l:List Str}(h:∀x∈l,PyData.strOk x=true):cA prog w (compareOp .NotEq) (.list (aB l)) (.list (aB l)) (.bool false):=by
 have:=De (prog:=prog) (w:=w) (p:= .list (aB l)) (q:= .list (aB l)) (mw h) (mw h) (Nat.le_trans (Nat.min_le_left _ _) Dt);rw[MK] at this;exact this
theorem Oa{L:List (List Str)}{kv:List (Str×Int)}{fe:Int}(H:zk dk L kv O fe):h2 prog w 9 [] 271 [.list (cp dk)] (ay []) (λp r'=>p= .bool true):=by
 have de:sizeLine=2 ^ 24:=rfl;have ie:=H.ie;have sk:∀l∈L,∀x∈l,PyData.strOk x=true:=λl ao x ag=>(H.ok l ao x ag).1;have t8:∀x∈kv.map (·.1),PyData.strOk x=true/\x.length<=90:=λx ag=>by
  refine ah ((H.mem x).mp ag) λl ao iY=>?_;exact⟨(H.ok l ao x iY).1,(H.ok l ao x iY).2.1⟩
 have Aj:∀x∈O,PyData.strOk x=true:=λx ag=>(t8 x (H.perm.mem_iff.mp ag)).1;have VH:O.length<=60:=by rw[H.perm.length_eq,bO];exact H.qU
 have A9:∀l∈L,l.getD 0 ""∈l:=λl ao=>by
  have:=H.l0 l ao;rw[c8,cm this];exact getElem_mem this
 refine h2.of (args:=[.list (cp dk)]) (names:=["script"]) (c:=270) (by exact⟨rfl,rfl,rfl,rfl,rfl,rfl,rfl,ee (by kernel_rfl),rfl,rfl,rfl,kinds_of (by kernel_rfl),rfl,rfl,rfl,by dsimp only,by dsimp only,by kernel_rfl⟩) (by exact rfl) ⟨qe,trivial⟩ (λW A s vs cI c5 g low bb a4=>rQ g bb (λv=>by exact rfl) a4) ?_;intro env ba d8 fw kL;have bx:∀A:Around,ph 8 (env::[]) A->bK 8 A:=λA h=>h.1;show bt prog w _ env [("script",.list (cp dk))] _ _ _;refine bt.cons (dB.of bx (lD (Ev.R (Ev.call (fC (by walk_at"e") KU (by kernel_rfl)) (.inr (.inr ⟨203,_,_,rfl,rfl,rfl⟩)) (aK.cons (by walk_at"e") aK.nil rfl) ((L7 H.hs).cl.le (by decide)) rfl rfl)) qe (.inl (by walk_at"e")) ?_ rfl));have et:(cellsOf dk).length=5:=by unfold cellsOf;rw[bO,length_range]
 have oI:((cp (cellsOf dk)).filter λ_=>true).map (n2 λc=> .list (aB (kx (gz c))))=bF L:=by
  rw[filter_all, <-H.QY];unfold bF cp;rw[dW,dW];rfl
 refine bt.cons (dB.of bx (df.R (rI (Φ:=mm (("owns",.list (bF L))::("cells",.list (cp (cellsOf dk)))::[("script",.list (cp dk))])) (c:=false) (q:= .list (cp (cellsOf dk))) (ps:=cp (cellsOf dk)) (t:=λ_=>true) (f:=n2 λc=> .list (aB (kx (gz c)))) (mf:=[]) ba (by walk_at"e") cw.list ⟨λ_ _=>rfl,λ_=>rfl,by kernel_rfl,by kernel_rfl,by decide+kernel,rfl⟩ sO (by rw[bO];exact fW rfl) ?_ (λp _ cenv _=>fX.nil) ?_ (.inl (by walk_at"e")) ⟨rfl,by rw[oI]⟩ (p9 ba (by kernel_rfl) rfl (by kernel_rfl)) (λ_=>rfl)) (λp m h=>by injection (h.1)) ?_))
 ·intro p aa _;refine ah (lI aa) λc _ aU=>?_;subst aU;exact d5
 ·intro p aa _ cenv dQ;refine ah (lI aa) λc U a7=>?_;subst a7;refine Fp (H.Sd c U) λa1 a2 dF fh kT=>?_;exact Ev.call (fC (by walk_at"e") Jt (by kernel_rfl)) (.inr (.inr ⟨215,_,_,rfl,rfl,rfl⟩)) (aK.cons (p:= .list (aB (gz c))) (Ev.call (fC (by walk_at"e") Jv (by kernel_rfl)) (.inr (.inr ⟨210,_,_,rfl,rfl,rfl⟩)) (aK.cons (Ev.name a5 (by kernel_rfl)) aK.nil rfl) (J5.cl.le (by decide)) rfl rfl) aK.nil rfl) ((Kt a1 a2 dF fh kT).cl.le (by decide)) rfl rfl
 intro _ _ dg;refine aE dg λdq e2=>?_;subst dq;subst e2;have j0:((bF L).filter λ_=>true).map _root_.id=bF L:=by rw[filter_all,List.map_id]
 refine bt.cons (dB.of bx (df.R (rI (Φ:=mm (("ladders",.list (bF L))::("owns",.list (bF L))::("cells",.list (cp (cellsOf dk)))::[("script",.list (cp dk))])) (c:=false) (q:= .list (bF L)) (ps:=bF L) (t:=λ_=>true) (f:=_root_.id) (mf:=[]) ba (by walk_at"e") cw.list ⟨λ_ _=>rfl,λ_=>rfl,by kernel_rfl,by kernel_rfl,by decide+kernel,rfl⟩ sO (by rw[bO];exact bH (Nat.le_of_eq ‹_›) rfl) ?_ (λp _ cenv _=>fX.nil) ?_ (.inl (by walk_at"e")) ⟨rfl,by rw[j0]⟩ (p9 ba (by kernel_rfl) rfl (by kernel_rfl)) (λ_=>rfl)) (λp m h=>by injection (h.1)) ?_))
 ·intro p aa _;refine ah (jG aa) λc _ bk=>?_;subst bk;exact d5
 ·intro p aa _ cenv dQ;refine ah (jG aa) λl ao bz=>?_;subst bz;have U:=L9 (prog:=prog) (w:=w) (host:=l.getD 0 "") (rf:=l4) (λy av=>by rw[H.zo l ao] at av;exact Mk (Nat.le_trans (H.ok l ao y av).2.1 (by decide)) (H.ok l ao y av).2.2.1.eq) (λy av=>by rw[H.zo l ao] at av;have:=(H.ok l ao y av).2.2.2;exact bH ‹_› rfl);rw[H.zo l ao] at U;exact Ev.call (fC (by walk_at"e") K2 (by kernel_rfl)) (.inr (.inr ⟨222,_,_,rfl,rfl,rfl⟩)) (aK.cons (p:= .str (l.getD 0 "")) (Ev.item (Ev.name a5 (by kernel_rfl)) Ev.int Typed.list fD.lookup (cA.item (by decide) (by
   have:=H.l0 l ao;rw[d7,c8,show(0:Int).toNat=0 from rfl,cm this];rfl) (by rw[cz];have:=H.jA l ao;exact bH ‹_› rfl)) λ_ _=>rfl) aK.nil rfl) (U.cl.le (by decide)) rfl rfl
 intro _ _ eZ;refine aE eZ λhB iX=>?_;subst hB;subst iX;refine bt.cons (nk bx (c:=false) (bV.R (bV.cmp (by walk_at"e") (by walk_at"e") (CL sk) (by with_unfolding_all rfl))) (λh=>by injection h) λ_=>bt.nil ?_);have pE:(gu kv).map (·.1)=kv.map (·.1):=by unfold gu;rw[dW];rfl
 have QT:cb (fx kv):=rS;refine bt.cons (dB.of bx (lD (p:=fx kv) (Ev.R (Ev.call (fC (by walk_at"e") JM (by kernel_rfl)) (.inr (.inr ⟨229,_,_,rfl,rfl,rfl⟩)) (aK.cons (by walk_at"e") (aK.cons (by walk_at"e") aK.nil rfl) rfl) (by rw[<-H.pr];exact(Ka (by exact fW rfl) H.jA (by exact bH (Nat.le_of_eq ‹_›) rfl)).cl.le (by decide)) rfl rfl)) QT (by walk_at"e") ?_ rfl))
 let xG:ak->ak:=λp=>match p with | .list l=> .list l.reverse |p=>p
 have GG:((bF L).filter λ_=>true).map xG=bF (L.map reverse):=by
  rw[filter_all];unfold bF;rw[dW,dW];exact map_congr_left λl _=>by show ak.list (aB l).reverse=ak.list (aB l.reverse);unfold aB;rw[map_reverse]
 have xm:∀l:List Str,xG (.list (aB l))= .list (aB l.reverse):=λl=>by show ak.list (aB l).reverse=_;unfold aB;rw[map_reverse]
 let m0:Loc:=("price",fx kv)::("ladders",.list (bF L))::("owns",.list (bF L))::("cells",.list (cp (cellsOf dk)))::[("script",.list (cp dk))]
 refine bt.cons (dB.of bx (df.R (rI (Φ:=mm (("fits",.list (bF (L.map reverse)))::m0)) (c:=false) (q:= .list (bF L)) (ps:=bF L) (t:=λ_=>true) (f:=xG) (mf:=[("price",fx kv)]) ba (by walk_at"e") cw.list ⟨λ_ _=>rfl,λ_=>rfl,by kernel_rfl,by kernel_rfl,by decide+kernel,rfl⟩ (mX (by walk_at"e") (by kernel_rfl)) (by rw[bO];exact bH (Nat.le_of_eq ‹_›) rfl) ?_ (λp _ cenv _=>fX.nil) ?_ (.inl (by walk_at"e")) ⟨rfl,by rw[GG]⟩ (p9 ba (by kernel_rfl) rfl (by kernel_rfl)) (λ_=>rfl)) (λp m h=>by injection (h.1)) ?_))
 ·intro p aa _;refine ah (jG aa) λl _ b7=>?_;subst b7;rw[xm];exact d5
 ·intro p aa _ cenv dQ;refine ah (jG aa) λl ao cC=>?_;subst cC;have hf:=NJ (prog:=prog) (w:=w) (host:=l.getD 0 "") (names:=kv.map (·.1)) (d1:=λx=>hh (Txt.upper (l.getD 0 "")) x) (d2:=λx=>hh (Txt.upper (l.getD 0 "")) ((".":Str)++x)) (Nat.le_trans (H.ok l ao _ (A9 l ao)).2.1 (by decide)) (by rw[bO];have:=H.qU;exact bH ‹_› rfl) (λx ag=>Nat.le_trans (t8 x ag).2 (by decide)) (λx ag=>zq (H.EY l ao x ag).1) λx ag=>zq (H.EY l ao x ag).2;rw[H.fit l ao] at hf;rw[xm];exact Ev.call (fC (by walk_at"e") MR (by kernel_rfl)) (.inr (.inr ⟨234,_,_,rfl,rfl,rfl⟩)) (aK.cons (p:= .str (l.getD 0 "")) (Ev.item (Ev.name a5 (by kernel_rfl)) Ev.int Typed.list fD.lookup (cA.item (by decide) (by
   have:=H.l0 l ao;rw[d7,c8,show(0:Int).toNat=0 from rfl,cm this];rfl) (by rw[cz];have:=H.jA l ao;exact bH ‹_› rfl)) λ_ _=>rfl) (aK.cons (p:= .list (aB (kv.map (·.1)))) (Ev.call (ft (by walk_at"e") DQ (by exact rfl) (by decide+kernel) (by kernel_rfl)) (.inr (.inl ⟨"list",rfl⟩)) (aK.cons (by walk_at"e") aK.nil rfl) (by rw[<-pE];exact CO (by rw[pE,bO];have:=H.qU;exact bH ‹_› rfl)) rfl rfl) aK.nil rfl) rfl) (hf.cl.le (by decide)) rfl rfl
 intro _ _ gE;refine aE gE λjU l6=>?_;subst jU;subst l6;have Pw:∀l∈L.map reverse,∀x∈l,PyData.strOk x=true:=λl ao x ag=>by
  refine ah (bA.mp ao) λl' e0 c2=>?_;subst c2;exact sk l' e0 x (List.mem_reverse.mp ag)
 have RH:((aB (kv.map (·.1))).filter λ_=>false).map _root_.id=[]:=by rw[List.filter_eq_nil_iff.mpr λ_ _=>by decide,map_nil]
 refine bt.cons (nk bx (c:=false||false) (bV.R (rY (x:=false) (y:=false) ?_ λ_=>?_)) (λh=>by injection h) λ_=>bt.nil ?_)
 ·refine bV.cmp (q:= .list (((bF L).filter λ_=>true).map xG)) (by walk_at"e") (kr (mf:=[]) (c:=false) ba (by walk_at"e") cw.list ⟨λ_ _=>rfl,λ_=>rfl,by kernel_rfl,by kernel_rfl,by decide+kernel,rfl⟩ sO (by rw[bO];exact bH (Nat.le_of_eq ‹_›) rfl) (λp aa _=>by refine ah (jG aa) λl _ c1=>?_;subst c1;rw[xm];exact d5) (λp _ cenv _=>fX.nil) (λp aa _ cenv dQ=>?_) (λ_=>rfl)) ?_ (by with_unfolding_all rfl)
  ·refine ah (jG aa) λl ao eM=>?_;subst eM;rw[xm, <-Er (H.jA l ao)];exact yn (a:=none) (b:=none) (c:=some (-1)) (Ev.name a5 (by kernel_rfl)) trivial trivial (k1 Ev.int) (by decide) (by have:=H.jA l ao;exact bH ‹_› rfl)
  ·rw[GG];exact CL Pw
 ·refine bV.cmp (p:= .list (((aB (kv.map (·.1))).filter λ_=>false).map _root_.id)) (q:= .list []) (kr (q:=fx kv) (mf:=[]) (c:=false) (t:=λ_=>false) (f:=_root_.id) ba (by walk_at"e") (by rw[<-pE];exact cw.dict) ⟨λ_ _=>rfl,λ_=>rfl,by kernel_rfl,by kernel_rfl,by decide+kernel,rfl⟩ sO (by rw[cz,bO];have:=H.qU;exact bH ‹_› rfl) (λp _ h=>by injection h) (λp aa cenv dQ=>?_) (λp _ h=>by injection h) (λ_=>rfl)) (Ev.list aK.nil (c0 _)) ?_ (by with_unfolding_all rfl)
  ·refine ah (hv aa) λx ag eJ=>?_;subst eJ;have he:=MI (prog:=prog) (w:=w) (name:=x) (jY:=hh) (Nat.le_trans (t8 x ag).2 (by decide)) λz hz=>zq (H.zt x ag z hz);rw[H.ends x ag] at he;exact fX.one (bV.not (b:=true) (bV.plain (Ev.call (fC (by walk_at"e") LW (by kernel_rfl)) (.inr (.inr ⟨241,_,_,rfl,rfl,rfl⟩)) (aK.cons (Ev.name a5 (by kernel_rfl)) aK.nil rfl) (he.cl.le (by decide)) rfl rfl) gR.bool λ_=>rfl))
  ·rw[RH];exact yy (l:=[]) λ_ h=>by exact absurd h b8
 refine aP H.rank λrk n3=>?_;refine aP H.run λfuel eX=>?_;refine bt.cons (ya (jn.wx (n:=8) (fr:=[env]) (cs:=[]) (ps:=[.list (bF L)]) (Ψ:=λp r'=>p= .list (aB O)/\r'=ay []) (fC (by walk_at"e") MX (by kernel_rfl)) (by exact rfl) (by exact rfl) (dd.cons (Ev.R (by walk_at"e")) dd.nil rfl) ⟨lF,trivial⟩ (λo aj=>?_) (.inr ⟨_,_,rfl⟩) rfl) (.inl (by walk_at"e")) ?_ rfl)
 ·refine((NU (prog:=prog) (w:=w) (fr:=[env]) (G:=[]++[(env.locals,jd o)]) (λe he=>?_) (by exact bH (Nat.le_of_eq ‹_›) rfl) H.jA n3 eX).le (by decide)).mono λp r' h=>⟨[],h.2,h.1,rfl⟩
  rw[cQ.mp he];exact⟨by rw[ba.fn];decide,kL,o,aj,.head _⟩
 intro _ _ h9 _;refine aE h9 λnX nV=>?_;subst nX;subst nV;refine bt.cons (nk bx (c:=false||false) (bV.R (rY (x:=false) (y:=false) ?_ λ_=>?_)) (λh=>by injection h) λ_=>bt.nil ?_)
 ·refine bV.cmp (q:= .list (aB O)) (by walk_at"e") (Ev.call (fC (by walk_at"e") K0 (by kernel_rfl)) (.inr (.inr ⟨256,_,_,rfl,rfl,rfl⟩)) (aK.cons (by walk_at"e") (aK.cons (p:= .list (aB (kv.map (·.1)))) (Ev.call (ft (by walk_at"e") DQ (by exact rfl) (by decide+kernel) (by kernel_rfl)) (.inr (.inl ⟨"list",rfl⟩)) (aK.cons (by walk_at"e") aK.nil rfl) (by rw[<-pE];exact CO (by rw[pE,bO];have:=H.qU;exact bH ‹_› rfl)) rfl rfl) aK.nil rfl) rfl)
   ((LZ ie H.jA H.l0 sk (λx ag=>(t8 x ag).1) (by rw[bO];have:=H.qU;exact od ‹_› rfl) H.nd H.dr H.bx H.lR H.perm H.asc).cl.le (by decide)) rfl rfl) (yy Aj) (by with_unfolding_all rfl)
 ·refine bV.cmp (q:= .list (aB O)) (by walk_at"e") ?_ (yy Aj) (by with_unfolding_all rfl);exact λW A s Q E ai st a4=>J0 H.jA (by exact bH (Nat.le_of_eq ‹_›) rfl) sk H.cut H.oF (by exact bH ‹_› rfl) (by walk_at"e") (by walk_at"e") (by walk_at"e") W A s Q E (ai.le (by decide)) st a4
 refine bt.cons (dB.of bx (lD (p:= .int fe) (Ev.R (Ev.call (fC (by walk_at"e") K9 (by kernel_rfl)) (.inr (.inr ⟨261,_,_,rfl,rfl,rfl⟩)) (aK.cons (by walk_at"e") (aK.cons (by walk_at"e") (aK.cons (by walk_at"e") aK.nil rfl) rfl) rfl)
  (by rw[<-H.lst];exact(L5 H.jA H.l0 (by exact bH (Nat.le_of_eq ‹_›) rfl) (by exact bH ‹_› rfl) Aj sk H.SV H.below (λx ag=>yf (H.perm.mem_iff.mp ag)) H.RV).cl.le (by decide)) rfl rfl)) trivial (.inl (by walk_at"e")) ?_ rfl))
 let F:=L.map reverse
 have Gj:F.length=5:=by show(L.map _).length=5;rw[bO];exact ie
 have lay:∀{env:Env} {m:Loc} {fits:List (List Str)} {bW cc fN fy ib mr pV tc s6:Pos},(∀l∈fits,l∈F)->fits.length=5->(layAt fits kv 5).1=fe->env.kindOf "reduce"=some .globalImplicit->env.kindOf "_law_lay"=some .globalImplicit->bM m "turned" (.list (bF fits))->bM m "price" (fx kv)->
   Ev prog w 8 env m (.Subscript (.Call (.Name "reduce" bW) [.Name "_law_lay" cc,.Name "turned" fN,.List [.Constant (.int 0) 0 fy,.Name "price" ib] mr] [] pV) (.Constant (.int 0) 0 tc) s6) (.int fe):=λ{env m fits bW cc fN fy ib mr pV tc s6} hf Tx aM bP cJ hm aa=>by
  have red:=Dk (prog:=prog) (w:=w) (n:=2) (q:= .val (.ref 266)) (seq:= .list (bF fits)) (ps:=bF fits) (l0:=[.int 0,fx kv]) (acc:=λj=> .list [.int (layAt fits kv j).1,fx (layAt fits kv j).2]) rfl (.inl ⟨_,rfl,.inr (.inr ⟨266,_,_,rfl,rfl,rfl⟩)⟩) trivial cw.list lF (λp aa=>by refine ah (jG aa) λl _ fi=>?_;subst fi;exact d5) (λj _=>⟨trivial,rS,trivial⟩) (λj p aN=>?_)
  ·have dz:(bF fits).length=5:=by rw[bO];exact Tx
   rw[dz,aM] at red;exact Ev.item (q:= .list [.int fe,fx (layAt fits kv 5).2]) (Ev.call (fC bP CJ (by kernel_rfl)) (.inr (.inr ⟨73,_,_,rfl,rfl,rfl⟩)) (aK.cons (fC cJ Mr (by kernel_rfl)) (aK.cons (Ev.name hm (by kernel_rfl)) (aK.cons (Ev.list (aK.cons Ev.int (aK.cons (Ev.name aa (by kernel_rfl)) aK.nil rfl) rfl) (by show(2:Nat)<=_;decide)) aK.nil rfl) rfl) rfl) (red.cl.le (by decide)) rfl rfl) Ev.int Typed.list fD.lookup (cA.item (by decide) rfl (by show(2:Nat)<=_;decide)) λ_ _=>rfl
  ·rw[d7] at aN;refine ah (Option.map_eq_some_iff.mp aN) λl ao fJ=>?_;subst fJ;refine ah (bA.mp (hf l (eP ao))) λl' e0 f5=>?_;subst f5;have e:fits.getD j []=l'.reverse:=by rw[c8,ao];rfl
   have ar:=DH (fits:=fits) (kv:=kv) j;have hlen:(layAt fits kv j).2.length=kv.length:=by have:=congrArg List.length ar;rwa [bO,bO] at this
   have:=H.jA l' e0;have:=H.l0 l' e0;have:=H.qU;have ej:=Nq (prog:=prog) (w:=w) (t:=(layAt fits kv j).1) (kv:=(layAt fits kv j).2) (fit:=l'.reverse) (by rw[length_reverse];assumption) (by rw[length_reverse];exact bH ‹_› rfl) (by walk_at"o") (λx ag=>yf (by rw[ar];exact(H.mem x).mpr ⟨l',e0,List.mem_reverse.mp ag⟩)) (by rw[ar];exact H.nd) (λx ag=>sk l' e0 x (List.mem_reverse.mp ag)) (λx ag=>(t8 x (by rw[<-ar];exact ag)).1);show pO prog w 3 _ _ (.list [.int ((layAt fits kv j).1+qs (layAt fits kv j).2 (fits.getD j [])),fx (mD (layAt fits kv j).2 (fits.getD j []))]);rw[e];exact ej.cl.v
 have Vi:(([ak.list (bF F),ak.list (bF F.reverse)]).filter λ_=>true).map (λ_=>ak.int fe)=cp [fe,fe]:=rfl;refine bt.cons (dB.of bx (ef.ret (p:= .bool true) (Ev.R ?_) trivial rfl));have heq:PyData.eqv (e6 (.list (cp [fe,fe]))) (e6 (.list (cp [fe,fe])))=true:=by
  show((fe==fe)&&((fe==fe)&&true))=true;walk_at"o"
 rw[<-heq];refine Ev.cmp (kr (q:= .tup [.list (bF F),.list (bF F.reverse)]) (ps:=[.list (bF F),.list (bF F.reverse)]) (mf:=[("price",fx kv)]) (c:=false) (t:=λ_=>true) (f:=λ_=> .int fe) ba (Ev.tuple (aK.cons (by walk_at"e") (aK.cons ?_ aK.nil rfl) rfl) (by show(2:Nat)<=_;decide)) cw.tup ⟨λ_ _=>rfl,λ_=>rfl,by kernel_rfl,by kernel_rfl,by decide+kernel,rfl⟩ (mX (by walk_at"e") (by kernel_rfl)) (by show(2:Nat)<=_;decide) (λ_ _ _=>trivial) (λp _ cenv _=>fX.nil) (λp aa _ cenv dQ=>?_) (λ_=>rfl)) (Ev.list (ps:=cp [fe,fe]) (aK.cons (by walk_at"e") (aK.cons (by walk_at"e") aK.nil rfl) rfl) (by show(2:Nat)<=_;decide)) ?_ (by with_unfolding_all rfl)
 ·have e:pick (bF F) none none (some (-1))=bF F.reverse:=by unfold bF;rw[rR,Er (by exact bH (Nat.le_of_eq ‹_›) rfl)]
  rw[<-e];exact tr (by walk_at"e") trivial trivial (k1 Ev.int) (by decide) (by rw[bO];exact bH (Nat.le_of_eq ‹_›) rfl)
 ·rcases bI.mp aa with rfl |aa
  ·exact lay (λl ao=>ao) Gj H.QE (by walk_at"e") (by walk_at"e") a5 (by walk_at"e")
  ·rw[cQ.mp aa];exact lay (λl ao=>List.mem_reverse.mp ao) (by rw[length_reverse];exact Gj) H.QA (by walk_at"e") (by walk_at"e") a5 (by walk_at"e")
 ·exact Dm (p:= .list (cp [fe,fe])) (q:= .list (cp [fe,fe])) ⟨trivial,trivial,trivial⟩ ⟨trivial,trivial,trivial⟩ (by show(1:Nat)<=64;decide)
theorem OY(X:(KF w).In h){a:Addr}(af:cf a):isCodeTable h a:=by
 rcases af with rfl |rfl
 ·exact⟨221,_,_,X 221 _ (by exact rfl),rfl,rfl,rfl⟩
 ·exact⟨255,_,_,X 255 _ (by exact rfl),rfl,rfl,rfl⟩
theorem MH(X:(KF w).In s.heap)(aM:∀a,cf a->s.heap.get? a=some (tabObj #[]))(e:Ext s s')(g:G w s'.heap):OldK s.heap s'.heap:=by
 have key:∀b o,s.heap.get? b=some o->s'.heap.get? b=some o\/(cf b/\o=tabObj #[]/\∃ps,s'.heap.get? b=some (tabObj ps)):=λb o I=>by
  by_cases h:cf b
  ·rw[aM b h] at I;obtain rfl:=bT I;refine ah (g.T b h) λps q _=>?_;exact .inr ⟨h,rfl,ps,q⟩
  ·exact .inl (e.keep b o h I)
 refine⟨λb o I=>?_,λb o I=>?_⟩
 ·rcases key b o I with q |⟨h,rfl,ps,q⟩
  ·exact .inl q
  ·exact .inr (.inl ⟨OY X h,rfl,#[],ps,rfl,by rw[q];simp[tabObj]⟩)
 ·rcases key b o I with q |⟨h,rfl,ps,q⟩
  ·exact⟨_,q⟩
  ·exact⟨_,q⟩
theorem ints_of{P:Params} :∀{xs:List WData} {vs:List Value},WellAll P h vs xs->(∀x∈xs,∃i,x= .int i)->∃ns:List Int,ns.length=xs.length/\bJ w h (λ_=>False) (cp ns) vs:=by
 intro a9;induction a9 with
 |nil=>
  intro _ x _;cases x;exact⟨[],rfl,rfl⟩
 |cons _ _ aw=>
  intro _ x ag;refine bj (wellAll_cons_inv x) λv vs aU ab ae=>?_;subst aU;refine ah (aw ae λx rn=>ag x (.tail _ rn)) λns ax aC=>?_;refine aP (ag _ (.head _)) λi a7=>?_;subst a7;cases ab with
  |int _ t=>exact⟨i::ns,by rw[dI,dI,ax],⟨_,_,rfl,⟨t,rfl⟩,aC⟩⟩
theorem JV{R:WRecords}:∀{xs:List WData},WShape.hasItems R xs .int=true->∀x∈xs,∃i,x= .int i:=by
 intro xs;induction xs with
 |nil=>exact λ_ x h=>absurd h b8
 |cons x xs aw=>
  intro h y av;have h':(WShape.has R x .int&&WShape.hasItems R xs .int)=true:=h;refine aE (Bool.and_eq_true_iff.mp h') λab ae=>?_;rcases bI.mp av with rfl |av
  ·cases y with
   |int i=>exact⟨i,rfl⟩
   |_=>injection ab
  ·exact aw ae y av
theorem Mb{args:List WData}(h:PySem.Challenge.rw_op0239_01.row.toRowW.claim.pre args=true):∃xs,args=[.list xs]/\(∀x∈xs,∃i,x= .int i)/\xs.length<=63:=by
 have h':(WShape.hasAll [] args [.list .int]&&PySem.Challenge.rw_op0239_01.pre.holds [] {args:=args})=true:=h;refine aE (Bool.and_eq_true_iff.mp h') λab ae=>?_
 match args,ab,ae with
 |[],ab,_=>injection ab
 |x::y::r,ab,_=>
  have aD:(WShape.has [] x (.list .int)&&false)=true:=ab;rw[Bool.and_false] at aD;injection aD
 |[x],ab,ae=>
  have aD:(WShape.has [] x (.list .int)&&true)=true:=ab;rw[Bool.and_true] at aD;replace aD:=aD;cases x with
  |list xs=>
   have bc:(WShape.hasItems [] xs .int||false)=true:=aD;rw[Bool.or_false] at bc;refine⟨xs,rfl,JV bc,?_⟩;by_cases q:xs.length<=63
   ·exact q
   ·exfalso;have e:PySem.Challenge.rw_op0239_01.pre.value [] {args:=[.list xs]}=some (.bool false):=by
     have ax:(WTm.lt (.lit (.int 63)) (.len (.arg 0))).value [] {args:=[.list xs]}=some (.bool (decide ((63:Int) < xs.length))):=rfl;have aC:PySem.Challenge.rw_op0239_01.pre= .and (.not (.lt (.lit (.int 63)) (.len (.arg 0)))) (.lit (.bool true)):=rfl;rw[aC];unfold WTm.value;unfold WTm.value;rw[ax,el (by walk_at"o")];rfl
    unfold WTm.holds at ae;rw[e] at ae;injection ae
  |_=>injection aD
theorem U6(H:∀dk:List Int,dk.length<=63->∃L kv O fe,zk dk L kv O fe)(d:DefRec)(uH:List (Str×Expr))(t6:defOf mq PySem.Challenge.rw_op0239_01.row.name=some (d,uH)):
  WalkO mq loose (XL mq []) (Hook.says oj) PySem.Challenge.rw_op0239_01.row.toRowW d uH λf vs=>PySem.call f vs:=by
 intro w s₀ au pZ lA vg Y a o pm cd doc V7 V4 af hd dC Vs AR OH args vals as Qk Vm As OV Va;have X:(KF w).In au.heap:=km_in_of Y;have aM:=km_tabs_of Y;have ff:a=271:=by
  have ab:=yv X vg.T.g (n:="law") (v:= .ref 271) (by exact rfl);rw[show d.name="law" from defOf_name t6] at AR;rw[ab] at AR;(injection AR with bB;injection bB with bB;subst bB);rfl
 subst ff;have g:G w au.heap:=⟨X,⟨lA,vg.T.b,vg.T.builtins⟩,λa af=>⟨#[],aM a (by rcases af with rfl |rfl<;>decide),.inl rfl⟩,by
  refine FZ vg.T.bmain λbm ob ab ae aD bc dz i8=>?_;have mj:=yv X vg.T.g (FJ w);rw[mj] at ab;(injection ab with bB;injection bB with bB;subst bB);exact⟨ob,aD,bc,dz,i8⟩⟩
 refine dK (Mb Qk) λxs bk Br hlen=>?_;subst bk;refine bj (wellAll_cons_inv OV) λv vs bz aq PL=>?_;subst bz;cases PL
 cases aq with
 |list aj hi=>
 rename_i BC vs;refine ah (ints_of (w:=w) hi Br) λns aA bb=>?_;refine QC (H ns (by rw[aA];exact hlen)) λL kv O fe Uv=>?_;have low:eB (λ_:Addr=>False) au.heap:=λ_ q=>q.elim;refine wpAny_call ((Oa Uv) au au (λ_=>False) (λ_=>False) callerA [.ref BC] _ _ ⟨by decide,by decide,rfl⟩ rfl ⟨_,_,rfl⟩ (.refl _) g g low (λa af=>?_) (λ_ h=>h.elim) ⟨nodup_nil,λc U=>by exact absurd U b8⟩ ⟨.ref BC,[],rfl,⟨BC,vs,0,rfl,?_,?_,?_⟩,rfl⟩ λp v r' s' aa aq eT B=>?_)
 ·rcases af with q |q
  ·exact q.elim
  ·exact absurd q b8
 ·rintro(q |q |q)
  ·exact q
  ·exact q
  ·exact absurd q b8
 ·exact aj
 ·refine bJ.upd (λb o _ _ e=>⟨e,?_⟩) (qe) bb;rintro(q |q |q)
  ·exact q
  ·exact q
  ·exact absurd q b8
 ·subst aa;rw[show v= .bool true from aq];refine cn B.ext.same λh' tk e=>?_;exact⟨.inl ⟨_,_,[],rfl,λ_=>rfl,ReadsW.bool true,(by first |kernel_rfl |with_unfolding_all rfl |wrow_post),λ_=>⟨nodup_nil,λ_ hm=>by exact absurd hm b8⟩⟩,MH X (λa af=>aM a (by rcases af with rfl |rfl<;>decide)) B.ext B.g,by rw[e],.of_eq (by rw[e];exact OH)⟩
noncomputable def fk(x:Array Nat)(s:Nat)(first:Bool)(seen:Sre.Seen):Sre.M:=
 {code:=gQ,text:=x,lim:=x.size,start:=s,lastStart:=x.size,pc:=9,pos:=s,handed:=s,outermost:=first,marks:= #[],frames:=[{wait:= .nextStart,pc:=9,pos:=s,outermost:=first}],weight:=1,seen:=seen}
noncomputable def stC(x:Array Nat)(s:Nat)(first:Bool)(seen:Sre.Seen):Sre.M:={fk x s first seen with pc:=11,pos:=s+1}
noncomputable def u1(x:Array Nat)(s:Nat)(first:Bool)(seen:Sre.Seen)(p q h:Nat):Sre.M:={fk x s first seen with pc:=p,pos:=q,handed:=h,answer:=some false}
theorem ip{m:Sre.M}(h:m.outcome=none)(k:Nat):m.runFor (k+1)=m.step.runFor k:=by
 show(if m.outcome.isSome then m else _)=_;rw[h];rfl
variable {first:Bool}
theorem NN{x:Array Nat}{s:Nat}{seen:Sre.Seen}(h:¬s>=x.size)(U:(x.getD s 0==46)=false):(fk x s first seen).step=u1 x s first (seen.add 16) 9 s s:=by
 have e:(fk x s first seen).step=(fk x s first seen).exec:=rfl;have o:Sre.ops[(fk x s first seen).word 0]? =some .LITERAL:=rfl;have a:Sre.accepts gQ 9 (x.getD s 0) (seen.add 16)= .ok (false,seen.add 16):=by
  show Except.ok (x.getD s 0==46,seen.add 16)=_;rw[U]
 rw[e];unfold Sre.M.exec;rw[o];dsimp only;have h':¬(fk x s first seen).pos>=(fk x s first seen).lim:=h;rw[aI h'];split
 ·rename_i q;exact nomatch a.symm.trans q
 ·rename_i q;cases a.symm.trans q
  rfl
 ·rename_i q;exact nomatch a.symm.trans q
theorem wh{x:Array Nat}{s p q h:Nat}{seen:Sre.Seen}(hs:s < x.size):(u1 x s first seen p q h).step=fk x (s+1) false seen:=by
 show(if s < x.size then _ else _)=_;rw[aQ hs];rfl
theorem v7{x:Array Nat}{s:Nat}{seen:Sre.Seen}(h:¬s>=x.size)(U:(x.getD s 0==46)=true):(fk x s first seen).step=stC x s first (seen.add 16):=by
 have e:(fk x s first seen).step=(fk x s first seen).exec:=rfl;have o:Sre.ops[(fk x s first seen).word 0]? =some .LITERAL:=rfl;have a:Sre.accepts gQ 9 (x.getD s 0) (seen.add 16)= .ok (true,seen.add 16):=by
  show Except.ok (x.getD s 0==46,seen.add 16)=_;rw[U]
 rw[e];unfold Sre.M.exec;rw[o];dsimp only;have h':¬(fk x s first seen).pos>=(fk x s first seen).lim:=h;rw[aI h'];split
 ·rename_i q;exact nomatch a.symm.trans q
 ·rename_i q;exact nomatch a.symm.trans q
 ·rename_i q;cases a.symm.trans q
  rfl
theorem N6{x:Array Nat}{s:Nat}{seen:Sre.Seen}(h:s=x.size):((fk x s first seen).runFor 3).outcome=some .failed:=by
 have e:(fk x s first seen).step={fk x s first (seen.add 16) with answer:=some false}:=by
  have e:(fk x s first seen).step=(fk x s first seen).exec:=rfl;have o:Sre.ops[(fk x s first seen).word 0]? =some .LITERAL:=rfl;rw[e];unfold Sre.M.exec;rw[o];dsimp only;have h':(fk x s first seen).pos>=(fk x s first seen).lim:=Nat.le_of_eq h.symm;rw[aQ h'];rfl
 rw[ip rfl,e,ip rfl];have aC:Sre.M.step {fk x s first (seen.add 16) with answer:=some false}={fk x s first (seen.add 16) with frames:=[],weight:=0,answer:=some false}:=by
  show(if s < x.size then _ else _)=_;rw[aI (by walk_at"o")];rfl
 rw[aC];rfl
theorem MJ{x:Array Nat}{s:Nat}{seen:Sre.Seen}(h:x.size<=s+1):(stC x s first seen).step=u1 x s first (seen.add 24) 11 (s+1) s:=by
 have e:(stC x s first seen).step=(stC x s first seen).exec:=rfl;have o:Sre.ops[(stC x s first seen).word 0]? =some .REPEAT_ONE:=rfl;rw[e];unfold Sre.M.exec;rw[o];dsimp only;have h':((1:Nat):Int) > ((x.size:Nat):Int) - ((s+1:Nat):Int):=by walk_at"o"
 show(if((1:Nat):Int) > ((x.size:Nat):Int) - ((s+1:Nat):Int) then _ else _)=_;rw[aQ h'];rfl
noncomputable def qz(x:Array Nat)(s:Nat)(seen:Sre.Seen):Except String (Nat×Sre.Seen):=Sre.run gQ x 15 (min 4294967295 ((x.size:Int) - ((s+1:Nat):Int)).toNat) (s+1) 0 ((seen.add 24).add 13)
variable {sn:Sre.Seen}
theorem Mt{x:Array Nat}{s:Nat}{seen:Sre.Seen}(h:¬x.size<=s+1)(bf:qz x s seen= .ok (0,sn)):(stC x s first seen).step=u1 x s first sn 11 (s+1) s:=by
 have e:(stC x s first seen).step=(stC x s first seen).exec:=rfl;have o:Sre.ops[(stC x s first seen).word 0]? =some .REPEAT_ONE:=rfl;rw[e];unfold Sre.M.exec;rw[o];dsimp only;have h':¬(((stC x s first seen).word 2:Nat):Int) > (((stC x s first seen).lim:Nat):Int) - (((stC x s first seen).pos:Nat):Int):=by
  show¬((1:Nat):Int) > ((x.size:Nat):Int) - ((s+1:Nat):Int);walk_at"o"
 refine(aI h').trans ?_;split
 ·rename_i q;exact nomatch bf.symm.trans q
 ·rename_i q;cases bf.symm.trans q
  rfl
noncomputable def js(x:Array Nat)(s n:Nat)(first:Bool)(sn:Sre.Seen):Sre.M:=
 {fk x s first sn with pc:=21,pos:=s+1+n,handed:=s+1+n,frames:=[{wait:= .giveBack,pc:=11,pos:=s+1+n,outermost:=first,count:=n},{wait:= .nextStart,pc:=9,pos:=s,outermost:=first}],weight:=2}
theorem D8{x:Array Nat}{s:Nat}{seen:Sre.Seen}(h:¬x.size<=s+1)(bf:qz x s seen= .ok (n+1,sn)):(stC x s first seen).step=js x s (n+1) first sn:=by
 have e:(stC x s first seen).step=(stC x s first seen).exec:=rfl;have o:Sre.ops[(stC x s first seen).word 0]? =some .REPEAT_ONE:=rfl;rw[e];unfold Sre.M.exec;rw[o];dsimp only;have h':¬(((stC x s first seen).word 2:Nat):Int) > (((stC x s first seen).lim:Nat):Int) - (((stC x s first seen).pos:Nat):Int):=by
  show¬((1:Nat):Int) > ((x.size:Nat):Int) - ((s+1:Nat):Int);walk_at"o"
 refine(aI h').trans ?_;split
 ·rename_i q;exact nomatch bf.symm.trans q
 ·rename_i q;cases bf.symm.trans q
  refine(aI (show¬(n+1 < 1) by walk_at"o")).trans ?_;rfl
theorem N7{x:Array Nat}{s:Nat}(h:s+1+n=x.size):((js x s n first sn).runFor 5).outcome=some .matched:=by
 have e:(js x s n first sn).step={js x s n first (((sn.add 6)).add 48) with pc:=23}:=by
  have e:(js x s n first sn).step=(js x s n first sn).exec:=rfl;have o:Sre.ops[(js x s n first sn).word 0]? =some .AT:=rfl;rw[e];unfold Sre.M.exec;rw[o];dsimp only;have a:Sre.M.isAt {js x s n first (sn.add 6) with pc:=21} 5= .ok true:=by
   show Except.ok (s+1+n==x.size||_)=_;rw[h,beq_self_eq_true];rfl
  split
  ·rename_i q;exact nomatch a.symm.trans q
  ·rename_i q
   (injection (a.symm.trans q) with bB;subst bB)
   rfl
 rw[ip rfl,e]
 (induction first)<;>rfl
theorem Mq{x:Array Nat}{s:Nat}(h:s+2 < x.size)(U:s+3 < x.size\/(x.getD (s+2) 0==10)=false)(hs:s < x.size):∃sn',∀k,(js x s 1 first sn).runFor (3+k)=(fk x (s+1) false sn').runFor k:=by
 have e:(js x s 1 first sn).step={js x s 1 first (((sn.add 6)).add 48) with answer:=some false}:=by
  have e:(js x s 1 first sn).step=(js x s 1 first sn).exec:=rfl;have o:Sre.ops[(js x s 1 first sn).word 0]? =some .AT:=rfl;rw[e];unfold Sre.M.exec;rw[o];dsimp only;have a:Sre.M.isAt {js x s 1 first (sn.add 6) with pc:=21} 5= .ok false:=by
   show Except.ok (s+2==x.size||(s+3==x.size&&x.getD (s+2) 0==10))=_;have ab:(s+2==x.size)=false:=ey.mpr (by walk_at"o");rw[ab];rcases U with U |U
   ·have ae:(s+3==x.size)=false:=ey.mpr (by walk_at"o");rw[ae];rfl
   ·rw[U,Bool.and_false];rfl
  split
  ·rename_i q;exact nomatch a.symm.trans q
  ·rename_i q
   (injection (a.symm.trans q) with bB;subst bB)
   rfl
 refine⟨((sn.add 6)).add 48,λk=>?_⟩;rw[Nat.add_comm,ip rfl,e,ip rfl];have aC:Sre.M.step {js x s 1 first (((sn.add 6)).add 48) with answer:=some false}=u1 x s first (((sn.add 6)).add 48) 11 (s+2) (s+2):=rfl
 rw[aC,ip rfl,wh hs]
theorem Dj(c:Nat)(seen:Sre.Seen):∃sn,Sre.accepts gQ 15 c seen= .ok (Sre.isDigit c,sn):=by
 have UR:Sre.category (gQ.getD (17+1) 0) c= .ok (Sre.isDigit c):=by
  show Except.ok (Sre.isDigit c != false)=_;rw[Bool.bne_false]
 have aC:Sre.inSet gQ c 24 17 true seen=(Sre.category (gQ.getD (17+1) 0) c >>=λb=>if b=true then pure (true,(seen.add 8).add 55) else Sre.inSet gQ c 23 19 true ((seen.add 8).add 55)):=rfl;rw[show Sre.accepts gQ 15 c seen=Sre.inSet gQ c 24 17 true seen from rfl,aC,UR];cases h:Sre.isDigit c
 ·exact⟨_,rfl⟩
 ·exact⟨_,rfl⟩
theorem EB{x:Array Nat}{p:Nat}(h:Sre.isDigit (x.getD p 0)=false)(n f:Nat)(seen:Sre.Seen):∃sn,Sre.run gQ x 15 (n+1) p f seen= .ok (f,sn):=by
 refine aP (Dj (x.getD p 0) seen) λsn e=>?_;refine⟨sn,?_⟩;show Except.bind (Sre.accepts gQ 15 (x.getD p 0) seen) _=_;rw[e,h];rfl
theorem DY{x:Array Nat}{p:Nat}(h:Sre.isDigit (x.getD p 0)=true)(n f:Nat)(seen:Sre.Seen):∃sn,Sre.run gQ x 15 (n+1) p f seen=Sre.run gQ x 15 n (p+1) (f+1) sn:=by
 refine aP (Dj (x.getD p 0) seen) λsn e=>?_;refine⟨sn,?_⟩;show Except.bind (Sre.accepts gQ 15 (x.getD p 0) seen) _=_;rw[e,h];rfl
noncomputable def pC(r:Option Bool):List Nat->Option Bool
 |[]=>r
 |[d]=>if Sre.isDigit d then some true else r
 |[d,e]=>if Sre.isDigit d then(if Sre.isDigit e then some true else if e==10 then none else r) else r
 |d::e::_::_=>if Sre.isDigit d then(if Sre.isDigit e then none else r) else r
noncomputable def m6:List Nat->Option Bool
 |[]=>some false
 |c::t=>if c==46 then pC (m6 t) t else m6 t
noncomputable def Od(b:Bool):Sre.Outcome:=if b then .matched else .failed
def Ends(x:Array Nat)(s:Nat)(first:Bool)(seen:Sre.Seen)(b:Bool)(K:Nat):Prop:=∃k,k<=K/\((fk x s first seen).runFor k).outcome=some (Od b)
section
variable {x:Array Nat} {s K:Nat} {first b:Bool} {seen:Sre.Seen}
theorem Ends.lit(h:s < x.size)(U:(x.getD s 0==46)=false)(aA:∀sn,Ends x (s+1) false sn b K):Ends x s first seen b (K+10):=by
 refine ah (aA (seen.add 16)) λk ar bf=>?_;refine⟨k+2,by walk_at"o",?_⟩;rw[ip rfl,NN (by walk_at"o") U,ip rfl,wh h];exact bf
theorem Ends.room(h:s < x.size)(U:(x.getD s 0==46)=true)(bf:x.size<=s+1)(aA:∀sn,Ends x (s+1) false sn b K):Ends x s first seen b (K+10):=by
 refine ah (aA ((seen.add 16).add 24)) λk ar pL=>?_;refine⟨k+3,by walk_at"o",?_⟩;rw[ip rfl,v7 (by walk_at"o") U,ip rfl,MJ (first:=first) (seen:=seen.add 16) bf,ip rfl,wh h];exact pL
theorem Ends.none(h:s < x.size)(U:(x.getD s 0==46)=true)(bf:¬x.size<=s+1)(aG:qz x s (seen.add 16)= .ok (0,sn))(aA:∀sn,Ends x (s+1) false sn b K):Ends x s first seen b (K+10):=by
 refine ah (aA sn) λk ar pL=>?_;refine⟨k+3,by walk_at"o",?_⟩;rw[ip rfl,v7 (by walk_at"o") U,ip rfl,Mt (first:=first) (seen:=seen.add 16) bf aG,ip rfl,wh h];exact pL
theorem Ends.hit(h:s < x.size)(U:(x.getD s 0==46)=true)(bf:¬x.size<=s+1)(aG:qz x s (seen.add 16)= .ok (n+1,sn))(hs:s+1+(n+1)=x.size):Ends x s first seen true (K+10):=by
 refine⟨7,by exact fW rfl,?_⟩;rw[ip rfl,v7 (by walk_at"o") U,ip rfl,D8 (first:=first) (seen:=seen.add 16) bf aG];exact N7 hs
theorem Ends.miss(h:s+2 < x.size)(U:(x.getD s 0==46)=true)(aG:qz x s (seen.add 16)= .ok (1,sn))(sC:s+3 < x.size\/(x.getD (s+2) 0==10)=false)(aA:∀sn,Ends x (s+1) false sn b K):Ends x s first seen b (K+10):=by
 refine aP (Mq (first:=first) (sn:=sn) h sC (by walk_at"o")) λsn' hm=>?_;refine ah (aA sn') λk ar pL=>?_;refine⟨(3+k)+2,by walk_at"o",?_⟩;rw[ip rfl,v7 (by walk_at"o") U,ip rfl,D8 (first:=first) (seen:=seen.add 16) (by walk_at"o") aG,hm];exact pL
theorem Lo(aA:x.size=s+1+(n+1))(ao:x.size<=1000):qz x s seen=Sre.run gQ x 15 (n+1) (s+1) 0 ((seen.add 24).add 13):=by
 unfold qz;have:min 4294967295 ((x.size:Int) - ((s+1:Nat):Int)).toNat=n+1:=by walk_at"o"
 rw[this]
theorem Ends.dot{t:List Nat}(aM:∀k c,t[k]? =some c->x.getD (s+1+k) 0=c)(hs:x.size=s+1+t.length)(ao:x.size<=1000)(U:(x.getD s 0==46)=true){r:Option Bool}(aA:r=some b->∀sn,Ends x (s+1) false sn b K)(h:pC r t=some b):Ends x s first seen b (K+10):=by
 match t,aM,hs,h with
 |[],aM,hs,h=>exact .room (by rw[hs];walk_at"o") U (by rw[hs];exact Nat.le_refl _) (aA h)
 |d::eV,aM,hs,h=>
  have hd:=aM 0 d rfl;have dN:=Lo (seen:=seen.add 16) hs ao;have cu:s < x.size:=by walk_at"o"
  have AJ:¬x.size<=s+1:=by rw[hs,dI];walk_at"o"
  induction q:Sre.isDigit d with
  |false=>
   refine aP (EB (x:=x) (p:=s+1) (by rw[show s+1=s+1+0 from rfl,hd];exact q) eV.length 0 (((seen.add 16).add 24).add 13)) λsn ax=>?_;have bf:r=some b:=by
    rcases eV with _ |⟨_,_ |⟨_,_⟩⟩<;>(simp only[pC,q,Bool.false_eq_true,if_false] at h;exact h)
   exact .none cu U AJ (dN.trans ax) (aA bf)
  |true=>
   refine aP (DY (x:=x) (p:=s+1) (by rw[show s+1=s+1+0 from rfl,hd];exact q) eV.length 0 (((seen.add 16).add 24).add 13)) λsn ax=>?_
   match eV,aM,hs,dN,ax,h with
   |[],aM,hs,dN,ax,h=>
    simp only[pC,q,if_true] at h;obtain rfl:=bT h;exact .hit cu U AJ (n:=0) (dN.trans (ax.trans rfl)) (by rw[hs];rfl)
   |e::e7,aM,hs,dN,ax,h=>
    have he:=aM 1 e rfl;have eC:x.size=s+1+(e7.length+1+1):=hs;induction bN:Sre.isDigit e with
    |false=>
     refine aP (EB (x:=x) (p:=s+1+1) (by rw[he];exact bN) e7.length 1 sn) λTn aC=>?_;have bf:r=some b/\(s+3 < x.size\/(x.getD (s+2) 0==10)=false):=by
      rcases e7 with _ |⟨_,_⟩
      ·simp only[pC,q,bN,if_true,Bool.false_eq_true,if_false] at h;replace h:=h;induction hq:e==10 with
       |true=>rw[hq] at h;injection h
       |false=>rw[hq] at h;exact⟨h,.inr (by rw[show s+2=s+1+1 from rfl,he];exact hq)⟩
      ·simp only[pC,q,bN,if_true,Bool.false_eq_true,if_false] at h;exact⟨h,.inl (by rw[eC,dI];walk_at"o")⟩
     exact .miss (by walk_at"o") U (dN.trans (ax.trans aC)) bf.2 (aA bf.1)
    |true=>
     refine aP (DY (x:=x) (p:=s+1+1) (by rw[he];exact bN) e7.length 1 sn) λTn aC=>?_
     match e7,eC,aC,ax,dN,h with
     |[],eC,aC,ax,dN,h=>
      simp only[pC,q,bN,if_true] at h;obtain rfl:=bT h;exact .hit cu U AJ (n:=1) (dN.trans (ax.trans (aC.trans rfl))) (by rw[eC];rfl)
     |_::_,eC,aC,ax,dN,h=>
      simp only[pC,q,bN,if_true] at h;injection h
end
theorem Nv{x:Array Nat}{b:Bool}(ao:x.size<=1000):∀(t:List Nat) (s:Nat) (first:Bool) (seen:Sre.Seen),x.size=s+t.length->(∀k c,t[k]? =some c->x.getD (s+k) 0=c)->m6 t=some b->Ends x s first seen b (10*t.length+3):=by
 intro a9;induction a9 with
 |nil=>
  intro s first seen hs _ h
  obtain rfl:=bT h;exact⟨3,Nat.le_refl _,N6 hs.symm⟩
 |cons c t aw=>
  intro s first seen hs aM h
  have U:=aM 0 c rfl;have eC:x.size=s+1+t.length:=by rw[hs,dI];walk_at"o"
  have sS:∀k c,t[k]? =some c->x.getD (s+1+k) 0=c:=λk c' ar=>by
   have:=aM (k+1) c' ar;rw[show s+1+k=s+(k+1) by walk_at"o"];exact this
  have aA:m6 t=some b->∀sn,Ends x (s+1) false sn b (10*t.length+3):=λh sn=>aw (s+1) false sn eC sS h;have bx:10*(c::t).length+3=10*t.length+3+10:=by rw[dI];walk_at"o"
  rw[bx];unfold m6 at h;induction e:c==46 with
  |false=>
   rw[e] at h;exact .lit (by walk_at"o") (by rw[show s=s+0 from rfl,U];exact e) (aA h)
  |true=>
   rw[e,aQ rfl] at h;exact .dot sS eC ao (by rw[show s=s+0 from rfl,U];exact e) aA h
theorem OC{x:Str}{b:Bool}(ae:2<=x.length)(ao:x.length<=300)(h:m6 x.cps.toList=some b):kj x=some b:=by
 have hz:x.length=x.cps.size:=rfl;obtain⟨k,ar,bf⟩:=Nv (x:=x.cps) (b:=b) (by walk_at"o") x.cps.toList 0 true (({}:Sre.Seen).add 14) (by simp) (λk c ar=>by
  rw[Nat.zero_add,Array.getD_eq_getD_getElem?, <-Array.getElem?_toList,ar];rfl) h
 have e:n0 x=fk x.cps 0 true (({}:Sre.Seen).add 14):=by
  have h0:(if 0 > x.cps.size||x.cps.size - 0 < 2 then Sre.M.say {code:=gQ,text:=x.cps,lim:=x.cps.size,start:=0,pc:=9,pos:=0,handed:=0,marks:= #[],seen:=({}:Sre.Seen).add 14} false else fk x.cps 0 true (({}:Sre.Seen).add 14))=fk x.cps 0 true (({}:Sre.Seen).add 14):=aI (by rw[decide_eq_false (by walk_at"o"),decide_eq_false (by walk_at"o")];decide);exact Eq.trans (by kernel_rfl) h0
 unfold kj;rw[e];have cj:k<=4000:=by
  rw[Array.length_toList] at ar;walk_at"o"
 have aC:4000=k+(4000 - k):=by walk_at"o"
 rw[aC,Cu (by rw[bf];rfl),bf]
 (induction b)<;>rfl
noncomputable def aT(l:List Nat):Str:=⟨l.toArray⟩
noncomputable def Qd:Nat->Nat
 |0=>97
 |1=>66
 |_=>55
noncomputable def qD:Nat->List Nat
 |0=>[120,108,111,99,97,108]
 |1=>[108,111,99,97,108]
 |2=>[99,55]
 |3=>[55]
 |_=>[99,111,109,46]
noncomputable def Gl(p:List Nat)(t:List Nat):List Nat:=p.foldr (λc r=>Qd c::46::r) t
noncomputable def zM(t:Nat):List Nat->List (List Nat)
 |[]=>if t==1 then [qD 1] else []
 |c::p=>Gl (c::p) (qD t)::(if t < 3 then zM t p else [])
noncomputable def EV(a b c:Nat):List Nat:=(if a==0 then [] else [a - 1])++(if b==0 then [] else [b - 1])++[c]
noncomputable def strN(a:Nat):List Str:=if a==0 then [] else [Txt.item "aB7" ((a:Int) - 1)]
noncomputable def se(a b c t:Nat):List Str:=strN a++(strN b++[Txt.item "aB7" c,wF.getD t ""])
theorem MT:∀a < 4,∀b < 4,∀c < 3,∀t < 5,kx (se a b c t)=(zM t (EV a b c)).map aT:=by decide+kernel
theorem v8(a:Int){b:Int}(I:0 < b):0<=a.fmod b/\a.fmod b < b:=by
 rw[Int.fmod_eq_emod_of_nonneg a (Int.le_of_lt I)];exact⟨Int.emod_nonneg _ (Int.ne_of_gt I),Int.emod_lt_of_pos _ I⟩
theorem DU{cell z:Int}{l:List Str}:∃a,a < 4/\lN cell z l=strN a++l:=by
 obtain⟨h0,ab⟩:0<=jP cell z/\jP cell z < 4:=v8 _ (by decide);refine⟨(jP cell z).toNat,by walk_at"o",?_⟩;unfold lN strN;by_cases h:jP cell z=0
 ·rw[h];rfl
 ·have ax:(jP cell z != 0)=true:=bne_iff_ne.mpr h;have aC:((jP cell z).toNat==0)=false:=ey.mpr (by walk_at"o");rw[aQ ax,aC,Int.toNat_of_nonneg h0];rfl
theorem Df(cell:Int):∃a b c t,a < 4/\b < 4/\c < 3/\t < 5/\gz cell=se a b c t:=by
 refine ah (DU (cell:=cell) (z:=100) (l:=r2 cell)) λb I ct=>?_;refine ah (DU (cell:=cell) (z:=1000) (l:=lN cell 100 (r2 cell))) λa af ff=>?_;refine aE (v8 ((cell.fdiv 10).fmod 10) (b:=3) (by decide)) λh0 ab=>?_;refine aE (v8 cell (b:=5) (by decide)) λae aD=>?_;refine⟨a,b,(((cell.fdiv 10).fmod 10).fmod 3).toNat,(cell.fmod 5).toNat,af,I,by walk_at"o",by walk_at"o",?_⟩;unfold gz se;rw[ff,ct,Int.toNat_of_nonneg h0];rfl
noncomputable def cT(l:List Nat):List Nat:=l.map lo1
noncomputable def ro(l:List Nat):List Nat:=l.map up1
noncomputable def gn(l:List Nat):Bool:=Nat.ble 2 l.length&&Nat.ble l.length 90&&(m6 l).isSome
noncomputable def pw(l:List Nat):Bool:= !(m6 l==some true)&&l != []&& !(l.headD 0==46)&& !(l.getLastD 0==46)
noncomputable def lb(l:List Nat):List Nat:=
 if l.contains 46 then
  (let r:=l.drop (l.findIdx (· ==46)+1)
  if pw l&&(r.contains 46||r==qD 1) then 46::r else l)
 else l
noncomputable def mC:List Nat->List (List Nat)
 |[]=>[]
 |c::t=>if c==46 then t::mC t else mC t
noncomputable def kb(l:List Nat):Nat:=l.countP (· ==46)
noncomputable def lJ:List (List Nat)->Bool
 |[]=>false
 |[x]=>lb x==x
 |x::y::r=>lb x==46::y&&kb x==kb y+1&&lJ (y::r)
noncomputable def EK(x:List Nat):Bool:=
 x.all (λc=>Nat.blt 45 c&&Nat.blt c 127)&&Nat.ble x.length 20&& !(x.headD 0==46)&&Nat.blt (kb x) 9&&cT (ro x)==cT x
 &&gn x&&gn (cT x)&&gn ((cT x).drop 1)&&gn (119::cT x)&&gn (119::46::cT x)&&gn (119::46::(cT x++[46,55]))&&gn (119::46::(cT x++[46,55,48]))&&gn (119::46::(cT x++[46,120]))
noncomputable def zg:List (List Nat):=([0,1,2].map λc=>[c])++([0,1,2].flatMap λb=>[0,1,2].map λc=>[b,c])++([0,1,2].flatMap λa=>[0,1,2].flatMap λb=>[0,1,2].map λc=>[a,b,c])
noncomputable def zE:List (List (List Nat)):=[0,1,2,3,4].flatMap λt=>zg.map λp=>zM t p
noncomputable def o6:List (List Nat):=qD 1::[0,1,2,3,4].flatMap λt=>zg.map λp=>Gl p (qD t)
theorem J2:(zE.all λl=>lJ l&&Nat.ble l.length 4&&l.all o6.contains)=true:=by decide+kernel
theorem NX:o6.all EK=true:=by decide+kernel
theorem LP:∀a < 4,∀b < 4,∀c < 3,zg.contains (EV a b c)=true:=by decide+kernel
noncomputable def nK(eF i7:List Nat):Bool:=pw eF&&(mC (eF.drop 1)).any (λs=>i7.isPrefixOf s)&&pw i7
theorem L1:(zE.all λl=>o6.all λx=>nK (cT (l.headD [])) (cT x)==(l.drop 1).contains x&&(cT (l.headD [])==cT x)==(l.headD []==x))=true:=by decide+kernel
noncomputable def r5(n:List Nat):Bool:= !(decide (0+2<=n.length)&&((n.drop (n.length - 2)).take 2==[46,55]))&& !(decide (0+1<=n.length)&&((n.drop (n.length - 1)).take 1==[46]))
noncomputable def FP(x:List Nat)(b:Bool):Bool:=
 (nK (119::46::x) x==b)&&(nK (119::46::(x++[46,120])) x==b)
 && !nK (119::x) x&& !nK (119::46::(x++[46,55])) x&& !nK (119::46::(x++[46,55,48])) x
theorem Nm:(o6.all λx=>FP (cT x) (r5 x))=true:=by decide+kernel
noncomputable def F6(l:List Str):Bool:=decide (0 < l.length/\l.length<=10/\ -10<=kA l/\kA l<=10)&&(range 5).all λk=>decide (((cL l (some (k:Nat)) none none).toArray.foldl (· +·.length+((".":Str)).length) 0)<=1000)&&decide ((Builtin.Str.glued "." (cL l (some (k:Nat)) none none)).length<=1000)
theorem NR:∀a < 4,∀b < 4,∀c < 3,∀t < 5,(F6 (se a b c t)&&decide ((se a b c t).length<=4))=true:=by decide+kernel
open PySem.Builtin.Str (subAt)
theorem k2(l:List Nat):(aT l).length=l.length:=rfl
theorem wa{a b:List Nat}(h:aT a=aT b):a=b:=congrArg (λx:Str=>x.cps.toList) h
theorem r0(a b:List Nat):aT a++aT b=aT (a++b):=by
 show(⟨a.toArray++b.toArray⟩:Str)=_;rw[append_toArray];rfl
theorem qj(a b:List Nat):(aT a==aT b)=(a==b):=by
 induction h:a==b with
 |true=>rw[eq_of_beq h];exact beq_self_eq_true _
 |false=>exact ey.mpr λe=>(ey.mp h) (wa e)
theorem mA:(".":Str)=aT [46]:=by kernel_rfl
theorem Es:("":Str)=aT []:=by kernel_rfl
theorem vV{l:List Nat}(h:∀c∈l,c < 128):Txt.lower (aT l)=aT (cT l):=by
 rw[lower_ascii h];show(⟨l.toArray.map lo1⟩:Str)=⟨(l.map lo1).toArray⟩
 rw[map_toArray]
theorem L4{l:List Nat}(h:∀c∈l,c < 128):Txt.upper (aT l)=aT (ro l):=by
 rw[upper_ascii h];show(⟨l.toArray.map up1⟩:Str)=⟨(l.map up1).toArray⟩
 rw[map_toArray]
theorem tI{l:List Nat}{k:Nat}(h:k<=l.length):Txt.slice (aT l) (some (k:Int)) none=aT (l.drop k):=by
 rw[slice_from_eq (b:=(l.length:Int)) (by exact Int.natCast_nonneg _) (by show(k:Int)<=((l.length:Nat):Int);walk_at"o") rfl];show(⟨((l.drop (k:Int).toNat).take ((l.length:Int) - (k:Int)).toNat).toArray⟩:Str)=_;rw[Int.toNat_natCast,take_of_length_le (by rw[length_drop];walk_at"o")];rfl
theorem qr{l:List Nat}(h:gn l=true):o5 (aT l)/\m2 (aT l)=(m6 l==some true)/\2<=l.length/\l.length<=90:=by
 unfold gn at h;simp only[Bool.and_eq_true] at h;refine aE h λaU aD=>?_;refine aE aU λab ae=>?_;have ab:=fW ab;have ae:=fW ae;refine aP (Option.isSome_iff_exists.mp aD) λb I=>?_;have e:=OC (x:=aT l) (b:=b) (by rw[k2];exact ab) (by rw[k2];exact bH ‹_› rfl) I;refine⟨by unfold o5;rw[e];rfl,?_,ab,ae⟩;unfold m2;rw[e,I]
 (induction b)<;>rfl
theorem Mh(c:Nat)(t:List Nat):Txt.item (aT (c::t)) 0=aT [c]:=item_meets (by decide) rfl
theorem LU{l:List Nat}(h:l≠[]):Txt.item (aT l) (-1)=aT [l.getLastD 0]:=by
 have e:l=l.dropLast++[l.getLast h]:=(dropLast_concat_getLast h).symm;have aC:l.getLastD 0=l.getLast h:=by
  rw[getLastD_eq_getLast?,getLast?_eq_some_getLast h];rfl
 rw[aC];have:=item_last_right1 (aT l.dropLast) (l.getLast h);rw[show(⟨#[l.getLast h]⟩:Str)=aT [l.getLast h] from rfl,r0, <-e] at this;exact this
theorem zh{l:List Nat}(h:gn l=true):kN (m2 (aT l)) (aT l)=pw l:=by
 refine eK (qr h) λ_ e ae _=>?_;unfold kN pw;rw[e]
 match l,ae with
 |c::t,_=>
  rw[Es,qj,Mh,LU (by walk_at"o"),mA,qj,qj];have ax:((c::t:List Nat)==[])=false:=rfl;have aC:((c::t:List Nat) != [])=true:=rfl;rw[ax,aC,headD_cons];have a8:∀a b:Nat,([a]==[b])=(a==b):=λa b=>by
   show(a==b&&(([]:List Nat)==[]))=_;rw[show(([]:List Nat)==[])=true from rfl,Bool.and_true]
  rw[a8,a8]
  (induction m6 (c::t)==some true)<;>(induction c==46)<;>(induction (c::t).getLastD 0==46)<;>rfl
theorem Eb{l:List Nat}:(Txt.find (aT l) "."= -1/\l.contains 46=false)\/(Txt.find (aT l) "."=(l.findIdx (· ==46):Nat)/\l.contains 46=true/\l.findIdx (· ==46) < l.length):=by
 have AX:∀i,StrLaws.At (aT l) "." (aT l).length i↔l[i]? =some 46:=λi=>by
  rw[mA];exact StrLaws.subAt_one (aT l) 46 i
 rcases find_whole (aT l) "." with⟨h,aA⟩ |⟨i,h,hi,ar⟩
 ·refine .inl ⟨h,?_⟩;induction e:l.contains 46 with
  |false=>rfl
  |true=>
   obtain⟨i,hi⟩:=getElem?_of_mem (List.contains_iff_mem.mp e);exact absurd ((AX i).mpr hi) (aA i)
 ·have fl:=(AX i).mp hi;obtain⟨cu,aq⟩:=List.getElem?_eq_some_iff.mp fl;have e:l.findIdx (· ==46)=i:=by
   refine(findIdx_eq cu).mpr ⟨by rw[aq];rfl,λj aN=>?_⟩;refine ey.mpr λq=>ar j aN ((AX j).mpr ?_);rw[cm (by exact Nat.lt_trans ‹_› ‹_›),q]
  exact .inr ⟨by rw[h,e],List.contains_iff_mem.mpr (eP fl),by rw[e];exact cu⟩
theorem LA:("local":Str)=aT (qD 1):=by kernel_rfl
theorem zA{l:List Nat}(h:gn l=true):l4 (aT l)=aT (lb l):=by
 unfold l4 r4 lb;rw[zh h];rcases Eb (l:=l) with⟨e,c⟩ |⟨e,c,cu⟩
 ·rw[e,c];rfl
 ·have dN:decide ((0:Int)<=((l.findIdx (· ==46):Nat):Int))=true:=el (by exact Int.natCast_nonneg _);have es:Txt.slice (aT l) (some (((l.findIdx (· ==46):Nat):Int)+1)) none=aT (l.drop (l.findIdx (· ==46)+1)):=tI (k:=l.findIdx (· ==46)+1) cu;rw[e,c,dN,aQ rfl,aQ rfl,es];generalize l.drop (l.findIdx (· ==46)+1)=r;induction r using jf;rename_i r
  have ax:decide (0<=Txt.find (aT r) ".")=r.contains 46:=by
   rcases Eb (l:=r) with⟨e,c⟩ |⟨e,c,cu⟩
   ·rw[e,c];rfl
   ·rw[e,c];exact el (by exact Int.natCast_nonneg _)
  rw[ax,LA,qj,mA,r0];dsimp only
  (induction pw l&&(r.contains 46||r==qD 1))<;>rfl
open PySem.Builtin.Str (subAt)
theorem zF(l b:List Nat)(i:Nat):StrLaws.At (aT l) (aT b) (aT l).length i↔i+b.length<=l.length/\(l.drop i).take b.length=b:=by
 unfold StrLaws.At;rw[StrLaws.subAt_eq];show(i+b.length<=l.length/\((l.drop i).take b.length==b)=true)↔_;rw[beq_iff_eq]
theorem LO{x:List Nat}:∀{l:List Nat},(mC l).any (λs=>x.isPrefixOf s)=true↔∃i,i+(x.length+1)<=l.length/\(l.drop i).take (x.length+1)=46::x:=by
 intro a9;induction a9 with
 |nil=>
  exact⟨λh=>(by injection h),λh=>(by refine ah h λi h _=>?_;exact absurd h (Nat.not_lt_zero _))⟩
 |cons c t aw=>
  have aw:=aw;have aa:x.isPrefixOf t=true↔x.length<=t.length/\t.take x.length=x:=by
   rw[isPrefixOf_iff_prefix,prefix_iff_eq_take];constructor
   ·intro h;have:=congrArg List.length h;rw[length_take] at this;exact⟨by walk_at"o",h.symm⟩
   ·rintro⟨_,h⟩;exact h.symm
  unfold mC;by_cases U:c=46
  ·subst U;rw[aQ (beq_self_eq_true _),any_cons,Bool.or_eq_true,aw,aa];constructor
   ·rintro(⟨ab,ae⟩ |⟨i,ab,ae⟩)
    ·exact⟨0,by rw[dI];walk_at"o",by rw[drop_zero,take_succ_cons,ae]⟩
    ·exact⟨i+1,by rw[dI];walk_at"o",ae⟩
   ·intro dg;refine ah dg λi ab ae=>?_;induction i with
    |zero=>
     rw[drop_zero,take_succ_cons] at ae;replace ae:=ae;rw[dI] at ab;injection ae with _ ae
     exact .inl ⟨by walk_at"o",ae⟩
    |succ i=>rw[dI] at ab;exact .inr ⟨i,by walk_at"o",ae⟩
  ·have fq:(c==46)=false:=ey.mpr U;rw[fq,aI (by decide),aw];constructor
   ·rintro⟨i,ab,ae⟩;exact⟨i+1,by rw[dI];walk_at"o",ae⟩
   ·intro eZ;refine ah eZ λi ab ae=>?_;induction i with
    |zero=>
     rw[drop_zero,take_succ_cons] at ae;replace ae:=ae;injection ae with ae _
     exact absurd ae U
    |succ i=>rw[dI] at ab;exact⟨i,by walk_at"o",ae⟩
theorem LY{c:Nat}{t x:List Nat}(U:c≠46):(Txt.rfind (aT (c::t)) (aT (46::x))== -1||Txt.rfind (aT (c::t)) (aT (46::x))==0)= !(mC t).any (λs=>x.isPrefixOf s):=by
 have key:(∃i,StrLaws.At (aT (c::t)) (aT (46::x)) (aT (c::t)).length i)↔(mC t).any (λs=>x.isPrefixOf s)=true:=by
  rw[LO];constructor
  ·intro gE;refine aP gE λi h=>?_;refine aE ((zF _ _ _).mp h) λab ae=>?_;induction i with
   |zero=>
    rw[drop_zero,dI,take_succ_cons] at ae;replace ae:=ae;injection ae with ae _
    exact absurd ae U
   |succ i=>
    simp only[length_cons] at ab;exact⟨i,by walk_at"o",ae⟩
  ·intro h9;refine ah h9 λi ab ae=>?_;exact⟨i+1,(zF _ _ _).mpr ⟨by simp only[length_cons];walk_at"o",ae⟩⟩
 have h0:∀i,StrLaws.At (aT (c::t)) (aT (46::x)) (aT (c::t)).length i->i≠0:=λi h e=>by
  refine aE ((zF _ _ _).mp h) λ_ ae=>?_;rw[e,drop_zero,dI,take_succ_cons] at ae;replace ae:=ae;injection ae with ae _
  exact U ae
 rcases rfind_whole (aT (c::t)) (aT (46::x)) with⟨h,aA⟩ |⟨i,h,hi,_⟩
 ·rw[h];have:(mC t).any (λs=>x.isPrefixOf s)=false:=by
   induction e:(mC t).any (λs=>x.isPrefixOf s) with
   |false=>rfl
   |true=>refine aP (key.mpr e) λi hi=>?_;exact absurd hi (aA i)
  rw[this];rfl
 ·rw[h,key.mp ⟨i,hi⟩];have:=h0 i hi;have ax:((i:Int)== -1)=false:=ey.mpr (by walk_at"o");have aC:((i:Int)==0)=false:=ey.mpr (by walk_at"o");rw[ax,aC];rfl
theorem Dd(x:List Nat):Txt.startswith (aT x) "."=(x.headD 0==46):=by
 rw[mA];unfold Txt.startswith;rw[StrLaws.subAt_eq];show(decide (0+1<=x.length)&&((x.drop 0).take 1==[46]))=_;induction x with
 |nil=>rfl
 |cons c t=>
  rw[el (by rw[dI];exact fW rfl)];show(true&&(c==46&&(([]:List Nat)==[])))=(c==46)
  rw[show(([]:List Nat)==[])=true from rfl,Bool.and_true,Bool.true_and]
variable {i7:List Nat}
theorem M7{eF:List Nat}(ab:gn eF=true)(ae:gn i7=true)(hd:eF.headD 0≠46):lp (aT eF) (aT (46::i7)) (m2 (aT eF)) (m2 (aT i7))=nK eF i7:=by
 refine eK (qr ab) λ_ _ ao _=>?_
 match eF,ao,hd,ab with
 |c::t,_,hd,ab=>
  have U:c≠46:=hd;unfold lp nK;have ax:((c::t:List Nat)==46::i7)=false:=ey.mpr λq=>U (List.cons.inj q).1;have aC:Txt.slice (aT (46::i7)) (some 1) none=aT i7:=tI (l:=46::i7) (k:=1) (by rw[dI];exact fW rfl);rw[qj,ax,zh ab,LY U,Dd,aC,zh ae,headD_cons,drop_one,tail_cons]
  (induction pw (c::t))<;>(induction (mC t).any (λs=>i7.isPrefixOf s))<;>(induction pw i7)<;>rfl
theorem Md{eF:List Nat}{p q:Bool}(h:(i7.headD 0==46)=false):lp (aT eF) (aT i7) p q=(eF==i7):=by
 unfold lp;rw[qj,Dd,h];cases eF==i7
 ·walk_at"o"
 ·rfl
def xI(x:Str):Prop:=∃n,n∈o6/\x=aT n
def Bf(l:List Str):Prop:=∃k,k∈zE/\l=k.map aT
theorem Nj{a b c t:Nat}(af:a < 4)(I:b < 4)(U:c < 3)(aM:t < 5):Bf (kx (se a b c t)):=by
 refine⟨_,?_,MT a af b I c U t aM⟩;refine List.mem_flatMap.mpr ⟨t,?_,bA.mpr ⟨_,List.contains_iff_mem.mp (LP a af b I c U),rfl⟩⟩;have key:∀t < 5,t∈[0,1,2,3,4]:=by decide
 exact key t aM
theorem Et(cell:Int):Bf (kx (gz cell)):=by
 refine Fh (Df cell) λa b c t af I U aM e=>?_;rw[e];exact Nj af I U aM
structure R1 (n:List Nat):Prop where
 asc:∀c∈n,c < 127
 len:n.length<=20
 hd:(n.headD 0==46)=false
 cnt:kb n < 9
 up:cT (ro n)=cT n
 x6:gn n=true
 bP:gn (cT n)=true
 cJ:gn ((cT n).drop 1)=true
 gy:gn (119::cT n)=true
 ou:gn (119::46::cT n)=true
 fL:gn (119::46::(cT n++[46,55]))=true
 xU:gn (119::46::(cT n++[46,55,48]))=true
 xN:gn (119::46::(cT n++[46,120]))=true
theorem sN{n:List Nat}(h:n∈o6):R1 n:=by
 have:=List.all_eq_true.mp NX n h;unfold EK at this;simp only[Bool.and_eq_true,List.all_eq_true,Bool.not_eq_true',beq_iff_eq] at this;refine aE this λaU Sh=>?_;refine aE aU λa7 RX=>?_;refine aE a7 λbk Av=>?_;refine aE bk λbz sC=>?_;refine aE bz λb7 pS=>?_;refine aE b7 λcC pY=>?_;refine aE cC λc2 mj=>?_;refine aE c2 λc1 i8=>?_;refine aE c1 λeM dz=>?_;refine aE eM λeJ bc=>?_;refine aE eJ λfi aD=>?_;refine aE fi λab ae=>?_;exact⟨λc U=>fW (ab c U).2,fW ae,aD,fW bc,dz,i8,mj,pY,pS,sC,Av,RX,Sh⟩
theorem Ob(c:Nat):up1 c<=c:=by unfold up1;split<;>walk_at"o"
theorem zl{n:List Nat}(h:(n.headD 0==46)=false):((cT n).headD 0==46)=false:=by
 induction n with
 |nil=>rfl
 |cons c t=>
  show(lo1 c==46)=false;have h:(c==46)=false:=h;have h:=ey.mp h;refine ey.mpr ?_;unfold lo1;split<;>walk_at"o"
theorem tF{n:List Nat}(h:∀c∈n,c < 127):∀c∈n,c < 128:=λc U=>Nat.lt_succ_of_lt (h c U)
section
variable {a n:List Nat}
theorem r3(af:∀c∈a,c < 127)(aA:∀c∈n,c < 127)(ab:gn (cT a)=true)(ae:gn (cT n)=true)(hd:((cT a).headD 0==46)=false):lO (aT a) (aT (46::n))/\hh (aT a) (aT (46::n))=nK (cT a) (cT n):=by
 refine eK (qr ab) λew _ _ dH=>?_;refine eK (qr ae) λgv _ _ dh=>?_;have eF:Txt.lower (aT a)=aT (cT a):=vV (tF af);have ln:Txt.lower (aT (46::n))=aT (46::cT n):=by
  have h:∀c∈46::n,c < 128:=λc U=>by
   rcases bI.mp U with rfl |U
   ·decide
   ·exact tF aA c U
  rw[vV h];rfl
 have es:Txt.slice (aT (46::cT n)) (some 1) none=aT (cT n):=tI (l:=46::cT n) (k:=1) (by rw[dI];exact fW rfl);have ax:(cT a).length=a.length:=bO ..;have aC:(cT n).length=n.length:=bO ..;refine⟨⟨?_,?_,?_,?_,?_,?_⟩,?_⟩
 ·rw[k2];walk_at"o"
 ·rw[k2,dI];walk_at"o"
 ·rw[eF,k2];exact bH ‹_› rfl
 ·rw[ln,k2,dI];walk_at"o"
 ·rw[eF];exact ew
 ·rw[ln,es];exact gv
 ·unfold hh;rw[eF,ln,es];exact M7 ab ae (ey.mp hd)
theorem Ed(af:∀c∈a,c < 127)(aA:∀c∈n,c < 127)(ab:gn (cT a)=true)(ae:gn ((cT n).drop 1)=true)(ao:n.length<=20)(hd:((cT n).headD 0==46)=false):lO (aT a) (aT n)/\hh (aT a) (aT n)=(cT a==cT n):=by
 refine eK (qr ab) λew _ _ dH=>?_;refine eK (qr ae) λgv _ ox dh=>?_;have eF:Txt.lower (aT a)=aT (cT a):=vV (tF af);have ln:Txt.lower (aT n)=aT (cT n):=vV (tF aA);have ax:(cT a).length=a.length:=bO ..;have aC:(cT n).length=n.length:=bO ..;rw[length_drop] at ox;have es:Txt.slice (aT (cT n)) (some 1) none=aT ((cT n).drop 1):=tI (l:=cT n) (k:=1) (by walk_at"o");refine⟨⟨?_,?_,?_,?_,?_,?_⟩,?_⟩
 ·rw[k2];walk_at"o"
 ·rw[k2];exact bH ‹_› rfl
 ·rw[eF,k2];exact bH ‹_› rfl
 ·rw[ln,k2];walk_at"o"
 ·rw[eF];exact ew
 ·rw[ln,es];exact gv
 ·unfold hh;rw[eF,ln,es];exact Md hd
end
theorem Mw(l:List Nat):(lb l).length<=l.length+1:=by
 unfold lb;split
 ·dsimp only;split
  ·rw[dI,length_drop];walk_at"o"
  ·exact Nat.le_add_right _ _
 ·exact Nat.le_add_right _ _
structure PN (x:Str):Prop where
 ok:PyData.strOk x=true/\x.length<=90/\o5 x/\(l4 x).length<=90
 ne:x≠""
 zt:∀z∈four x++two x,lO z.1 z.2
 ends:oW hh x=true
theorem Ek(n y:List Nat):Txt.endswith (aT n) (aT y)=(decide (0+y.length<=n.length)&&((n.drop (n.length - y.length)).take y.length==y)):=by
 unfold Txt.endswith;rw[StrLaws.subAt_eq];rfl
theorem uk{x:Str}(h:xI x):PN x:=by
 refine ah h λn aA fJ=>?_;subst fJ;have B:=sN aA;refine eK (qr B.x6) λij _ l0 _=>?_;have E:=List.all_eq_true.mp Nm n aA;unfold FP at E;simp only[Bool.and_eq_true,beq_iff_eq,Bool.not_eq_true'] at E;refine aE E λf5 Uz=>?_;refine aE f5 λh3 Un=>?_;refine aE h3 λh4 Uq=>?_;refine aE h4 λU1 BQ=>?_;have hw:∀c∈(119::n),c < 127:=λc U=>by
  rcases bI.mp U with rfl |U
  ·decide
  ·exact B.asc c U
 have u3:∀t:List Nat,(∀c∈t,c < 127)->∀c∈(119::46::(n++t)),c < 127:=λt aM c U=>by
  rcases bI.mp U with rfl |U
  ·decide
  ·rcases bI.mp U with rfl |U
   ·decide
   ·rcases List.mem_append.mp U with U |U
    ·exact B.asc c U
    ·exact aM c U
 have sJ:∀t,cT (119::46::(n++t))=119::46::(cT n++cT t):=λt=>by
  show 119::46::(n++t).map lo1=_;rw[map_append];rfl
 have d1:=r3 (a:=119::n) (n:=n) hw B.asc B.gy B.bP rfl;have d2:=Ed (a:=119::46::(n++[])) (n:=n) (u3 [] (by decide)) B.asc (by rw[sJ,show cT []=[] from rfl,append_nil];exact B.ou) B.cJ B.len (zl B.hd);have vb:=r3 (a:=119::46::(n++[46,55])) (n:=n) (u3 _ (by decide)) B.asc (by rw[sJ];exact B.fL) B.bP rfl;have vd:=r3 (a:=119::46::(n++[46,55,48])) (n:=n) (u3 _ (by decide)) B.asc (by rw[sJ];exact B.xU) B.bP rfl;have rA:=r3 (a:=119::46::(n++[])) (n:=n) (u3 [] (by decide)) B.asc (by rw[sJ,show cT []=[] from rfl,append_nil];exact B.ou) B.bP rfl;have vx:=r3 (a:=119::46::(n++[46,120])) (n:=n) (u3 _ (by decide)) B.asc (by rw[sJ];exact B.xN) B.bP rfl;rw[sJ] at d2 vb vd rA vx;replace vb:=vb;replace vd:=vd;replace vx:=vx;rw[append_nil] at d2 rA;rw[show cT []=[] from rfl,append_nil] at d2 rA;replace d2:=d2;replace rA:=rA;have SF:(119::46::cT n==cT n)=false:=ey.mpr λq=>by
  have:=congrArg List.length q;simp only[length_cons] at this;walk_at"o"
 have UJ:("w":Str)=aT [119]:=by kernel_rfl
 have Ag:("w.":Str)=aT [119,46]:=by kernel_rfl
 have rH:(".7":Str)=aT [46,55]:=by kernel_rfl
 have TF:(".70":Str)=aT [46,55,48]:=by kernel_rfl
 have ex:(".x":Str)=aT [46,120]:=by kernel_rfl
 have bX:four (aT n)=[(aT (119::n),aT (46::n)),(aT (119::46::n),aT n),(aT (119::46::(n++[46,55])),aT (46::n)),(aT (119::46::(n++[46,55,48])),aT (46::n))]:=by
  unfold four;rw[UJ,Ag,rH,TF,mA];simp only[r0];rfl
 have aC:two (aT n)=[(aT (119::46::n),aT (46::n)),(aT (119::46::(n++[46,120])),aT (46::n))]:=by
  unfold two;rw[Ag,ex,mA];simp only[r0];rfl
 have UL:qq (aT n)=r5 n:=by
  unfold qq r5;rw[rH,mA,Ek,Ek];rfl
 refine⟨⟨?_,?_,ij,?_⟩,?_,?_,?_⟩
 ·show n.toArray.all (λc=>decide (c < 0x110000))=true;rw[all_toArray];exact List.all_eq_true.mpr λc U=>el (Nat.lt_trans (B.asc c U) (by decide))
 ·rw[k2];exact Nat.le_trans B.len (by decide)
 ·rw[zA B.x6,k2];have:=Mw n;have:=B.len;walk_at"o"
 ·intro q;rw[Es] at q;rw[wa q] at l0;exact absurd l0 (by decide)
 ·rw[bX,aC];intro z hz;rcases List.mem_append.mp hz with hz |hz
  ·rcases bI.mp hz with rfl |hz
   ·exact d1.1
   rcases bI.mp hz with rfl |hz
   ·exact d2.1
   rcases bI.mp hz with rfl |hz
   ·exact vb.1
   rcases bI.mp hz with rfl |hz
   ·exact vd.1
   exact absurd hz b8
  ·rcases bI.mp hz with rfl |hz
   ·exact rA.1
   rcases bI.mp hz with rfl |hz
   ·exact vx.1
   exact absurd hz b8
 ·unfold oW;rw[bX,UL,Ag,ex,mA];simp only[r0];have a1:hh (aT (119::n)) (aT (46::n))=false:=d1.2.trans Uq;have a2:hh (aT (119::46::n)) (aT n)=false:=d2.2.trans SF;have dF:hh (aT (119::46::(n++[46,55]))) (aT (46::n))=false:=vb.2.trans Un;have fh:hh (aT (119::46::(n++[46,55,48]))) (aT (46::n))=false:=vd.2.trans Uz;have kT:hh (aT ([119,46]++n)) (aT ([46]++n))=r5 n:=rA.2.trans U1;have pR:hh (aT ([119,46]++n++[46,120])) (aT ([46]++n))=r5 n:=vx.2.trans BQ;rw[kT,pR];simp only[all_cons,all_nil,a1,a2,dF,fh]
  (induction r5 n)<;>rfl
theorem zc(n:List Nat):Txt.count (aT n) "."=(kb n:Nat):=by
 rw[mA];refine(count_is (aT n) 46).trans ?_;show cnt 46 n=_;induction n with
 |nil=>rfl
 |cons c t aw=>
  rw[cnt_cons,aw];unfold kb;rw[countP_cons];by_cases h:c=46
  ·rw[aQ h,aQ (by rw[h];rfl)];walk_at"o"
  ·rw[aI h,aI (by rw[ey.mpr h];decide)];walk_at"o"
theorem tA:∀{p t:List (List Nat)},t≠[]->lJ (p++t)=true->lJ t=true
 |[],_,_,h=>h
 |[x],t,aM,h=>by
  match t,aM,h with
  |y::r,_,h=>
   have h:(lb x==46::y&&kb x==kb y+1&&lJ (y::r))=true:=h;exact(Bool.and_eq_true_iff.mp h).2
 |x::y::p,t,aM,h=>by
  have h:(lb x==46::y&&kb x==kb y+1&&lJ (y::(p++t)))=true:=h;exact tA (p:=y::p) aM (Bool.and_eq_true_iff.mp h).2
theorem Kz(y:List Nat):Txt.slice (aT (46::y)) (some 1) none=aT y:=tI (l:=46::y) (k:=1) (by rw[dI];exact fW rfl)
theorem Lp:∀{k:List (List Nat)} (U:lJ k=true) (aA:∀n∈k,n∈o6) (j:Nat),dT l4 ((k.map aT).getD 0 "") j=(k.map aT).take (j+1):=by
 intro k U aA j;induction j with
 |zero=>
  match k,U with
  |x::r,_=>rfl
 |succ j aw=>
  show mv l4 (dT l4 _ j) j=_;rw[aw];unfold mv;by_cases h:j+1 < k.length
  ·obtain⟨x,ag⟩:∃x,k[j]? =some x:=⟨_,cm (by walk_at"o")⟩
   obtain⟨y,av⟩:∃y,k[j+1]? =some y:=⟨_,cm h⟩
   have dN:k=k.take j++x::y::k.drop (j+2):=by
    obtain⟨ab,RN⟩:=List.getElem?_eq_some_iff.mp ag;obtain⟨ae,T8⟩:=List.getElem?_eq_some_iff.mp av;have ax:=drop_eq_getElem_cons ab;have aC:=drop_eq_getElem_cons ae;rw[RN] at ax;rw[T8] at aC;rw[<-aC, <-ax,take_append_drop]
   have hs:lJ (x::y::k.drop (j+2))=true:=tA (p:=k.take j) (by walk_at"o") (by rw[<-dN];exact U);have eC:(lb x==46::y&&kb x==kb y+1&&lJ (y::k.drop (j+2)))=true:=hs;have bf:lb x=46::y:=eq_of_beq (Bool.and_eq_true_iff.mp (Bool.and_eq_true_iff.mp eC).1).1;have m3:=sN (aA x (eP ag));have ex:(k.map aT)[j]? =some (aT x):=by rw[d7,ag];rfl
   have rz:(k.map aT)[j+1]? =some (aT y):=by rw[d7,av];rfl
   have ao:((k.map aT).take (j+1)).length=j+1:=by rw[length_take,bO];walk_at"o"
   have kH:((k.map aT).take (j+1)).getD j ""=aT x:=by
    rw[c8,getElem?_take,aQ (by exact Nat.lt_succ_self _),ex];rfl
   rw[ao,Nat.add_sub_cancel,kH,zA m3.x6,bf];have bY:(aT (46::y) != aT x)=true:=bne_iff_ne.mpr λq=>by
    have q:=wa q;have:=m3.hd;rw[<-q] at this;injection this
   rw[aQ bY,Kz,take_add_one (i:=j+1),rz];rfl
  ·have ao:((k.map aT).take (j+1))=k.map aT:=take_of_length_le (by rw[bO];walk_at"o");have xr:((k.map aT).take (j+1+1))=k.map aT:=take_of_length_le (by rw[bO];walk_at"o");rw[ao,xr];have ar:k≠[]:=λq=>by rw[q] at U;injection U
   have dN:k=k.dropLast++[k.getLast ar]:=(dropLast_concat_getLast ar).symm;have hs:lJ [k.getLast ar]=true:=tA (p:=k.dropLast) (by walk_at"o") (by rw[<-dN];exact U);have bf:lb (k.getLast ar)=k.getLast ar:=eq_of_beq hs;have m3:=sN (aA _ (getLast_mem ar));have kH:(k.map aT).getD ((k.map aT).length - 1) ""=aT (k.getLast ar):=by
    rw[c8, <-getLast?_eq_getElem?,getLast?_map,getLast?_eq_some_getLast ar];rfl
   rw[kH,zA m3.x6,bf];have:(aT (k.getLast ar) != aT (k.getLast ar))=false:=by walk_at"o"
   rw[this];rfl
structure zG (l:List Str):Prop where
 len0:0 < l.length
 k9:l.length<=4
 nm:∀x∈l,xI x
 up:∀p x r,l=p++x::r->dT l4 x 5=x::r
 dot:∀p x y r,l=p++x::y::r->Txt.count x "."=Txt.count y "."+1
 fit:∀x,xI x->(lO (Txt.upper (l.getD 0 "")) ((".":Str)++x)/\lO (Txt.upper (l.getD 0 "")) x)/\hh (Txt.upper (l.getD 0 "")) ((".":Str)++x)=(l.drop 1).contains x/\hh (Txt.upper (l.getD 0 "")) x=(l.getD 0 ""==x)
theorem C3{k:List (List Nat)}{p r:List Str}{x:Str}(h:k.map aT=p++x::r):∃p' gf r',k=p'++gf::r'/\p=p'.map aT/\x=aT gf/\r=r'.map aT:=by
 refine bj (List.map_eq_append_iff.mp h) λp' q kG ax aC=>?_;subst kG;refine bj (List.map_eq_cons_iff.mp aC) λgf r' nI a8 bX=>?_;subst nI;exact⟨p',gf,r',rfl,ax.symm,a8.symm,bX.symm⟩
theorem EH{l:List Str}(h:Bf l):zG l:=by
 refine ah h λk ar nO=>?_;subst nO;have U:=List.all_eq_true.mp J2 k ar;simp only[Bool.and_eq_true,List.all_eq_true] at U;replace U:=U;refine aE U λqE aA=>?_;refine aE qE λU bc=>?_;have aA:∀n∈k,n∈o6:=λn gF=>List.contains_iff_mem.mp (aA n gF);have bc:=fW bc;have h0:k≠[]:=λq=>by rw[q] at U;injection U
 refine⟨?_,?_,?_,?_,?_,?_⟩
 ·rw[bO];exact List.length_pos_iff.mpr h0
 ·rw[bO];exact bc
 ·intro x ag;refine ah (bA.mp ag) λn gF qP=>?_;subst qP;exact⟨n,aA n gF,rfl⟩
 ·intro p x r e;refine cg (C3 e) λp' gf r' uh zK zY zO=>?_;subst uh;subst zK;subst zY;subst zO;have:=Lp (k:=gf::r') (tA (by walk_at"o") U) (λn gF=>aA n (b9 _ gF)) 5;refine this.trans (take_of_length_le ?_);rw[bO];rw[length_append] at bc;walk_at"o"
 ·intro p x y r e;refine cg (C3 e) λp' gf r' QH P1 Rd aC=>?_;subst QH;subst P1;subst Rd;refine bj (List.map_eq_cons_iff.mp aC.symm) λgM eR Pg Pj QN=>?_;subst Pg;subst Pj;subst QN;have hs:(lb gf==46::gM&&kb gf==kb gM+1&&lJ (gM::eR))=true:=tA (p:=p') (t:=gf::gM::eR) (by walk_at"o") U;have:=eq_of_beq (Bool.and_eq_true_iff.mp (Bool.and_eq_true_iff.mp hs).1).2;rw[zc,zc,this];rfl
 ·intro x dg;refine ah dg λn gF dq=>?_;subst dq
  match k,h0,ar,aA with
  |a::k',_,ar,aA=>
   have B:=sN gF;have A:=sN (aA a cM);have F:=List.all_eq_true.mp (List.all_eq_true.mp L1 _ ar) n gF;rw[Bool.and_eq_true,beq_iff_eq,beq_iff_eq] at F;refine aE F λBy BG=>?_;have BY:Txt.upper (aT a)=aT (ro a):=L4 (tF A.asc);have bD:∀c∈ro a,c < 127:=λc U=>by
    refine ah (bA.mp U) λd hd Rn=>?_;subst Rn;exact Nat.lt_of_le_of_lt (Ob d) (A.asc d hd)
   have d1:=r3 (a:=ro a) (n:=n) bD B.asc (by rw[A.up];exact A.bP) B.bP (by rw[A.up];exact zl A.hd);have d2:=Ed (a:=ro a) (n:=n) bD B.asc (by rw[A.up];exact A.bP) B.cJ B.len (zl B.hd);rw[A.up] at d1 d2;replace d1:=d1;replace d2:=d2;show(lO (Txt.upper (aT a)) ((".":Str)++aT n)/\lO (Txt.upper (aT a)) (aT n))/\hh (Txt.upper (aT a)) ((".":Str)++aT n)=(k'.map aT).contains (aT n)/\hh (Txt.upper (aT a)) (aT n)=(aT a==aT n)
   have vq:(k'.map aT).contains (aT n)=k'.contains n:=by
    rw[Bool.eq_iff_iff,contains_iff_mem,contains_iff_mem,bA];exact⟨λPl=>ah Pl λb I e=>wa e▸I,λh=>⟨n,h,rfl⟩⟩
   rw[BY,mA,r0,vq,qj];exact⟨⟨d1.1,d2.1⟩,d1.2.trans By,d2.2.trans BG⟩
theorem Ll{l:List Str}(h:l.length<=4)(k:Nat):cL l (some (k:Nat)) none none=cL l (some ((min k 4:Nat):Nat)) none none:=by
 have e:sliceBounds (some ((k:Nat):Int)) none none l.length=sliceBounds (some ((min k 4:Nat):Int)) none none l.length:=by
  have ax:∀j:Nat,sliceBounds (some ((j:Nat):Int)) none none l.length=(max 0 (min (if(j:Int) < 0 then(j:Int)+l.length else j) l.length),(l.length:Int),1):=λj=>rfl;rw[ax,ax,aI (by walk_at"o"),aI (by walk_at"o")];congr 1;walk_at"o"
 unfold cL;rw[e]
theorem Q8(cell:Int):0 < (gz cell).length/\(gz cell).length<=10/\ -10<=kA (gz cell)/\kA (gz cell)<=10/\∀k:Nat,((cL (gz cell) (some (k:Nat)) none none).toArray.foldl (· +·.length+((".":Str)).length) 0)<=sizeLine/\(Builtin.Str.glued "." (cL (gz cell) (some (k:Nat)) none none)).length<=sizeLine:=by
 refine Fh (Df cell) λa b c t af I U aM e=>?_;rw[e];have h:=NR a af b I c U t aM;rw[Bool.and_eq_true,d0] at h;replace h:=h;refine aE h λh bc=>?_;unfold F6 at h;rw[Bool.and_eq_true,d0,List.all_eq_true] at h;refine aE h λaU dz=>?_;refine eK aU λab ae aD Ah=>?_;refine⟨ab,ae,aD,Ah,λk=>?_⟩;rw[Ll bc];have:=dz (min k 4) (List.mem_range.mpr (by walk_at"o"));rw[Bool.and_eq_true,d0,d0] at this;replace this:=this;have hs:1000<=sizeLine:=by decide
 exact⟨Nat.le_trans this.1 hs,Nat.le_trans this.2 hs⟩
theorem LX{l:List Int}(h:0 < l.length):bestOf (λa b=>decide (b < a)) l∈l/\∀k∈l,k<=bestOf (λa b=>decide (b < a)) l:=by
 refine aE (PySem.argBest_gt (λi=>l.getD i 0) (l.length - 1)) λab ae=>?_;unfold bestOf;generalize e:argBest (λi j=>decide (l.getD j 0 < l.getD i 0)) (l.length - 1)=b at ab ae ⊢;induction b using jf;rename_i b
 have ab:b<=l.length - 1:=ab;refine⟨?_,λk ar=>?_⟩
 ·rw[c8,cm (by walk_at"o")];exact getElem_mem _
 ·obtain⟨j,aN⟩:=getElem?_of_mem ar;have:=(List.getElem?_eq_some_iff.mp aN).1;have:=ae j (by walk_at"o");have aC:l.getD j 0=k:=by rw[c8,aN];rfl
  have this:l.getD j 0<=l.getD b 0:=this;rw[aC] at this;exact this
theorem Mi{l:List Int}(h:0 < l.length):bestOf (λa b=>decide (a < b)) l∈l/\∀k∈l,bestOf (λa b=>decide (a < b)) l<=k:=by
 refine aE (PySem.argBest_lt (λi=>l.getD i 0) (l.length - 1)) λab ae=>?_;unfold bestOf;generalize e:argBest (λi j=>decide (l.getD i 0 < l.getD j 0)) (l.length - 1)=b at ab ae ⊢;induction b using jf;rename_i b
 have ab:b<=l.length - 1:=ab;refine⟨?_,λk ar=>?_⟩
 ·rw[c8,cm (by walk_at"o")];exact getElem_mem _
 ·obtain⟨j,aN⟩:=getElem?_of_mem ar;have:=(List.getElem?_eq_some_iff.mp aN).1;have:=ae j (by walk_at"o");have aC:l.getD j 0=k:=by rw[c8,aN];rfl
  have this:l.getD b 0<=l.getD j 0:=this;rw[aC] at this;exact this
theorem za{l:List Str}(h:l.length<=4):cL l (some 1) none none=l.drop 1:=by
 rcases l with _ |⟨a,_ |⟨b,_ |⟨c,_ |⟨d,_ |⟨e,r⟩⟩⟩⟩⟩
 iterate 5 kernel_rfl
 simp only[length_cons] at h;walk_at"o"
noncomputable def kW(x:Str):List Str:=dT l4 x 5
noncomputable def gj(x:Str):Int:=Txt.count x "."
structure cq (L:List (List Str)):Prop where
 ie:L.length=5
 len0:∀l∈L,0 < l.length
 k9:∀l∈L,l.length<=4
 up:∀l∈L,∀p x r,l=p++x::r->kW x=x::r
 dot:∀l∈L,∀p x y r,l=p++x::y::r->gj x=gj y+1
 HI:∀l∈L,∀x∈l,0<=gj x/\gj x < 10
 ne:∀l∈L,∀x∈l,x≠""
def eu(L:List (List Str))(x:Str):Prop:=∃l∈L,x∈l
def hS(L:List (List Str))(c x:Str):Prop:=∃l∈L,∃p r,l=p++c::x::r
noncomputable def cV(L:List (List Str))(k:Nat):List Str:=L.getD k []
theorem Cy(dk:List Int):(cellsOf dk).length=5:=by unfold cellsOf;rw[bO,length_range]
theorem NO(dk:List Int):cq ((cellsOf dk).map λc=>kx (gz c)):=by
 have key:∀l∈(cellsOf dk).map λc=>kx (gz c),zG l:=λl ao=>by
  refine ah (bA.mp ao) λc _ aU=>?_;subst aU;exact EH (Et c)
 refine⟨by rw[bO,Cy],λl ao=>(key l ao).len0,λl ao=>(key l ao).k9,λl ao=>(key l ao).up,λl ao=>(key l ao).dot,λl ao x ag=>?_,λl ao x ag=>(uk ((key l ao).nm x ag)).ne⟩;refine ah ((key l ao).nm x ag) λn aA a7=>?_;subst a7;have:=(sN aA).cnt;unfold gj;rw[zc];walk_at"o"
section
variable {L:List (List Str)}
theorem cq.tail{l p r:List Str}{x:Str}(F:cq L)(ao:l∈L)(e:l=p++x::r):∀y∈r,gj y < gj x:=by
 induction r generalizing p x with
 |nil=>exact λy av=>nomatch av
 |cons z r aw=>
  intro y av;have ab:=F.dot l ao p x z r e;rcases bI.mp av with rfl |av
  ·walk_at"o"
  ·have:=aw (p:=p++[x]) (x:=z) (by rw[e,append_assoc];rfl) y av;walk_at"o"
theorem cq.nodup(F:cq L){l:List Str}(ao:l∈L):l.Nodup:=by
 have key:∀(q p:List Str),l=p++q->q.Nodup:=by
  intro q;induction q with
  |nil=>exact λ_ _=>nodup_nil
  |cons x q aw=>
   intro p e;refine List.nodup_cons.mpr ⟨λh=>?_,aw (p++[x]) (by rw[e,append_assoc];rfl)⟩;have:=F.tail ao e x h;walk_at"o"
 exact key l [] rfl
theorem cq.cmp(F:cq L){l:List Str}(ao:l∈L){x y:Str}(ag:x∈l)(av:y∈l):x=y\/(y∈(kW x).drop 1/\gj y < gj x)\/(x∈(kW y).drop 1/\gj x < gj y):=by
 refine cn (append_of_mem ag) λp r e=>?_;have bD:=F.up l ao p x r e;rw[e] at av;replace av:=av;rcases List.mem_append.mp av with av |av
 ·refine cn (append_of_mem av) λbW cc aC=>?_;have a8:l=bW++y::(cc++x::r):=by rw[e,aC,append_assoc];rfl
  have TX:=F.up l ao bW y _ a8;rw[TX];have hm:x∈cc++x::r:=b9 _ cM;exact .inr (.inr ⟨hm,F.tail ao a8 x hm⟩)
 ·rcases bI.mp av with rfl |av
  ·exact .inl rfl
  ·rw[bD];exact .inr (.inl ⟨av,F.tail ao e y av⟩)
theorem cq.same(F:cq L){l:List Str}(ao:l∈L){x y:Str}(ag:x∈l)(av:y∈l)(h:gj x=gj y):x=y:=by
 rcases F.cmp ao ag av with q |⟨_,q⟩ |⟨_,q⟩
 ·exact q
 ·walk_at"o"
 ·walk_at"o"
theorem cq.at(F:cq L){k:Nat}(h:k < 5):cV L k∈L:=by
 have:=F.ie;unfold cV;rw[c8,cm (by walk_at"o")];exact getElem_mem _
theorem cq.zb(F:cq L){l:List Str}(ao:l∈L):∃k,k < 5/\cV L k=l:=by
 obtain⟨k,ar⟩:=getElem?_of_mem ao;refine⟨k,by have:=(List.getElem?_eq_some_iff.mp ar).1;have:=F.ie;exact Nat.lt_of_lt_of_eq ‹_› ‹_›,?_⟩;unfold cV;rw[c8,ar];rfl
theorem cq.zD(F:cq L){l:List Str}(ao:l∈L){x y:Str}(ag:x∈l)(av:y∈kW x):y∈l:=by
 refine cn (append_of_mem ag) λp r e=>?_;rw[F.up l ao p x r e] at av;rw[e];exact b9 _ av
theorem cq.head(F:cq L){l:List Str}(ao:l∈L):kW (l.getD 0 "")=l/\l.getD 0 ""∈l:=by
 have:=F.len0 l ao
 match l,this,ao with
 |a::r,_,ao=>exact⟨F.up _ ao [] a r rfl,cM⟩
structure qL (L:List (List Str)) (k:Nat):Prop where
 lt:k < 5
 fst:∀j,j < k->cV L j≠cV L k
 low:∀l∈L,(cV L k).getD 0 ""∉l.drop 1
theorem C1(F:cq L)(k:Int):k∈oR L↔∃j:Nat,k=j/\qL L j:=by
 unfold oR oU;rw[mem_filter,mem_filter];have dz:=F.ie;constructor
 ·intro dg;refine aE dg λdq aD=>?_;refine aE dq λab ae=>?_;have ar:0<=k/\k < 5:=by
   have:∀k∈mN,0<=k/\k < 5:=by decide
   exact this k ab
  refine⟨k.toNat,by walk_at"o",⟨by walk_at"o",λj aN e=>?_,λl ao hm=>?_⟩⟩
  ·have aC:(qA L k:Int)=k:=eq_of_beq ae;unfold qA at aC;have kR:j < L.findIdx (· ==L.getD k.toNat []):=by walk_at"o"
   have:=not_of_lt_findIdx kR;refine ey.mp this ?_;unfold cV at e;rw[c8 (l:=L) (i:=j),cm (by walk_at"o")] at e;exact e
  ·unfold sb at aD;have aD:=eq_of_beq aD;have:l∈L.filter λone=>(cL one (some 1) none none).any (· ==(L.getD k.toNat []).getD 0 ""):=by
    refine List.mem_filter.mpr ⟨ao,?_⟩;rw[za (F.k9 l ao)];exact List.any_eq_true.mpr ⟨_,hm,beq_self_eq_true _⟩
   rw[aD] at this;exact absurd this b8
 ·intro eZ;refine ah eZ λj e2 J=>?_;subst e2;refine⟨⟨?_,?_⟩,?_⟩
  ·have:∀j:Nat,j < 5->(j:Int)∈mN:=by decide
   exact this j J.lt
  ·refine beq_iff_eq.mpr ?_;show((L.findIdx (· ==L.getD j []):Nat):Int)=j;have:L.findIdx (· ==L.getD j [])=j:=by
    refine(findIdx_eq (by have:=J.lt;walk_at"o")).mpr ⟨?_,λi hi=>?_⟩
    ·rw[c8,cm (by have:=J.lt;walk_at"o")];exact beq_self_eq_true _
    ·refine ey.mpr λq=>J.fst i hi ?_;unfold cV;rw[<-q,c8,cm (by have:=J.lt;walk_at"o")];rfl
   rw[this]
  ·unfold sb;refine beq_iff_eq.mpr (List.filter_eq_nil_iff.mpr λl ao h=>?_);rw[za (F.k9 l ao)] at h;refine ah (List.any_eq_true.mp h) λx ag e=>?_;rw[eq_of_beq e] at ag;exact J.low l ao ag
theorem cq.leaf(F:cq L):∀(n:Nat) {l:List Str} {x:Str},l∈L->x∈l->4<=l.length+n->∃k,qL L k/\x∈cV L k:=by
 intro n;induction n with
 |zero=>
  intro l x ao ag h;refine go ao ag λl' e0 p e aa=>?_;have:=F.k9 l' e0;rw[e,length_append] at this;have:=List.length_pos_iff.mpr aa;walk_at"o"
 |succ n aw=>
  intro l x ao ag h;by_cases q:∃l'∈L,∃p,p≠[]/\l'=p++l
  ·refine ah q λl' e0 bk=>?_;refine ah bk λp aa e=>?_;refine aw e0 (by rw[e];exact b9 _ ag) ?_;rw[e,length_append];have:=List.length_pos_iff.mpr aa;walk_at"o"
  ·exact go ao ag λl' e0 p e aa=>q ⟨l',e0,p,aa,e⟩
where
 go {l:List Str} {x:Str} (ao:l∈L) (ag:x∈l) (h:∀l'∈L,∀p,l'=p++l->p≠[]->False):∃k,qL L k/\x∈cV L k:=by
  have dz:=F.ie;have hi:L.findIdx (· ==l) < L.length:=List.findIdx_lt_length.mpr ⟨l,ao,beq_self_eq_true _⟩;have e:cV L (L.findIdx (· ==l))=l:=by
   unfold cV;rw[c8,cm hi];exact eq_of_beq (findIdx_getElem (w:=hi) (p:=(· ==l)))
  refine⟨L.findIdx (· ==l),⟨by exact Nat.lt_of_lt_of_eq ‹_› ‹_›,λj aN q=>?_,λl' e0 hm=>?_⟩,by rw[e];exact ag⟩
  ·refine ey.mp (not_of_lt_findIdx aN) ?_;rw[e] at q;replace q:=q;unfold cV at q;rw[c8,cm (by exact Nat.lt_trans ‹_› ‹_›)] at q;exact q
  ·rw[e] at hm;replace hm:=hm
   match l',e0,hm with
   |a::t,e0,hm=>
    refine cn (append_of_mem (show l.getD 0 ""∈t from hm)) λp r aC=>?_;have a8:a::t=(a::p)++l.getD 0 ""::r:=by rw[aC];rfl
    have bX:=F.up _ e0 (a::p) _ r a8;rw[(F.head ao).1] at bX;exact h _ e0 (a::p) (by rw[a8, <-bX]) (by walk_at"o")
theorem cq.gC(F:cq L){x:Str}(ag:eu L x):∃k:Nat,gC L x=k/\qL L k/\x∈cV L k/\∀j,qL L j->x∈cV L j->j<=k:=by
 refine ah ag λl ao iY=>?_;refine ah (F.leaf 4 ao iY (by exact fW rfl)) λj J aN=>?_;have iq:∀k:Int,k∈nz L x↔∃j:Nat,k=j/\qL L j/\x∈cV L j:=λk=>by
  unfold nz;rw[mem_filter,C1 F];constructor
  ·intro gE;refine aE gE λhB h=>?_;refine ah hB λj iX J=>?_;subst iX;refine ah (List.any_eq_true.mp h) λy av e=>?_;rw[eq_of_beq e] at av;exact⟨j,rfl,J,av⟩
  ·intro h9;refine dK h9 λj jU J h=>?_;subst jU;exact⟨⟨j,rfl,J⟩,List.any_eq_true.mpr ⟨x,h,beq_self_eq_true _⟩⟩
 have h0:0 < (nz L x).length:=List.length_pos_iff.mpr λq=>by
  have:=(iq j).mpr ⟨j,rfl,J,aN⟩;rw[q] at this;exact absurd this b8
 refine aE (LX h0) λab ae=>?_;refine dK ((iq _).mp ab) λk e K ar=>?_;refine⟨k,e,K,ar,λi bh hi=>?_⟩;have:=ae i ((iq i).mpr ⟨i,rfl,bh,hi⟩);rw[e] at this;walk_at"o"
theorem cq.holds(F:cq L){x:Str}(ag:eu L x):0 < (nz L x).length:=by
 refine ah ag λl ao iY=>?_;refine ah (F.leaf 4 ao iY (by exact fW rfl)) λj J aN=>?_;refine List.length_pos_iff.mpr λq=>?_;have:(j:Int)∈nz L x:=List.mem_filter.mpr ⟨(C1 F j).mpr ⟨j,rfl,J⟩,List.any_eq_true.mpr ⟨x,aN,beq_self_eq_true _⟩⟩;rw[q] at this;exact absurd this b8
theorem lG(x:Str):keyOf L x=10*gC L x - gj x:=by unfold keyOf lh gj;walk_at"o"
theorem cq.dx(F:cq L){x:Str}(ag:eu L x):0<=gj x/\gj x < 10:=by refine ah ag λl ao iY=>?_;exact F.HI l ao x iY
theorem cq.z9(F:cq L){x y:Str}(ag:eu L x)(av:eu L y)(h:keyOf L x=keyOf L y):x=y:=by
 rw[lG,lG] at h;have:=F.dx ag;have:=F.dx av;refine h7 (F.gC ag) λk ax K ar _=>?_;refine h7 (F.gC av) λj aC J aN _=>?_;rw[ax,aC] at h;have:k=j:=by walk_at"o"
 subst this;exact F.same (F.at K.lt) ar aN (by walk_at"o")
theorem cq.Pc(F:cq L){y:Str}(av:eu L y)(hz:eu L z):k8 (Mine.gC L y) (lh y) (Mine.gC L z) (lh z)=decide (keyOf L y < keyOf L z):=by
 have ab:=F.dx av;have ae:=F.dx hz;have ax:lh y= - gj y:=rfl;have aC:lh z= - gj z:=rfl;unfold k8;rw[lG,lG,ax,aC,Bool.eq_iff_iff,Bool.or_eq_true,Bool.and_eq_true,d0,d0,beq_iff_eq,d0];walk_at"o"
theorem cq.Hv(F:cq L){y:Str}(av:eu L y)(hz:eu L z)(bY:z≠y)(AO:keyOf L y<=keyOf L z)(Oo:∀c,hS L c z->keyOf L c < keyOf L y):∃k j:Nat,Mine.gC L y=j/\Mine.gC L z=k/\j < k/\qL L k/\cV L k=kW z/\y∈cV L j:=by
 refine h7 (F.gC hz) λk ax K ar _=>?_;refine h7 (F.gC av) λj aC J aN _=>?_;have ab:=F.dx av;have ae:=F.dx hz;have iI:=F.at K.lt;refine cn (append_of_mem ar) λp r e=>?_;rw[lG,lG,ax,aC] at AO;have aa:p=[]:=by
  rcases eq_nil_or_concat p with rfl |⟨p',c,rfl⟩
  ·rfl
  ·exfalso;have a8:cV L k=p'++c::z::r:=by rw[e];simp
   have U:c∈cV L k:=by rw[a8];exact b9 _ cM
   have A1:=Oo c ⟨_,iI,p',r,a8⟩;refine h7 (F.gC ⟨_,iI,U⟩) λi bX bh hi zT=>?_;have aD:=F.dx ⟨_,iI,U⟩;have bc:=zT k K U;have dz:=F.dot _ iI _ _ _ _ a8;rw[lG,lG,bX,aC] at A1;have:j=k:=by walk_at"o"
   subst this;exact bY (F.same iI ar aN (by walk_at"o"))
 subst aa;have bD:=F.up _ iI [] z r e;refine⟨k,j,aC,ax,?_,K,by rw[bD,e];rfl,aN⟩;rcases Nat.lt_trichotomy j k with q |q |q
 ·exact q
 ·subst q;exfalso;rcases F.cmp iI ar aN with q |⟨_,q⟩ |⟨q,_⟩
  ·exact bY q
  ·walk_at"o"
  ·refine cn (append_of_mem aN) λcc e3 d4=>?_;rw[F.up _ iI cc y e3 d4] at q;replace q:=q;have bo:=F.nodup iI;have q:z∈e3:=q;rw[show cV L j=z::r from e] at bo;have xA:z::r=cc++y::e3:=by rw[<-d4,e];rfl
   induction cc with
   |nil=>injection xA with rH _;exact bY rH
   |cons a cc=>
    injection xA with rH UA
    refine(List.nodup_cons.mp bo).1 ?_;rw[UA];exact b9 _ (en _ q)
 ·exfalso;walk_at"o"
end
noncomputable abbrev ks(kv:List (Str×Int)):List Str:=kv.map (·.1)
structure ko (L:List (List Str)) (kv:List (Str×Int)):Prop where
 nd:(ks kv).Nodup
 mem:∀x∈ks kv,eu L x
 cl:∀x∈ks kv,∀y∈kW x,y∈ks kv
 ej:∀l∈L,(ks kv).filter (λx=>decide (x∈l))=(l.filter λx=>decide (x∈ks kv)).reverse
 nn:∀z∈kv,0<=z.2
section
variable {L:List (List Str)}
theorem D9{kv:List (Str×Int)}{x:Str}{i:Int}:ks (iO kv x i)=if x∈ks kv then ks kv else ks kv++[x]:=by
 unfold iO;have e:(kv.any λz=>decide (z.1=x))=decide (x∈ks kv):=by
  rw[Bool.eq_iff_iff,List.any_eq_true,d0,bA];constructor
  ·rintro⟨z,hz,e⟩;exact⟨z,hz,ee e⟩
  ·rintro⟨z,hz,e⟩;exact⟨z,hz,el e⟩
 rw[e];by_cases h:x∈ks kv
 ·rw[aQ (el h),aQ h]
 ·rw[aI (by rw[decide_eq_false h];decide),aI h];exact map_append
theorem ko.add(F:cq L){kv:List (Str×Int)}(P:ko L kv){x:Str}{i:Int}(ag:eu L x)(bD:∀y∈(kW x).drop 1,y∈ks kv)(hi:0<=i):ko L (iO kv x i):=by
 have ar:=D9 (kv:=kv) (x:=x) (i:=i);have Ba:∀z∈iO kv x i,0<=z.2:=λz hz=>by
  unfold iO at hz;split at hz
  ·exact P.nn z hz
  ·rcases List.mem_append.mp hz with hz |hz
   ·exact P.nn z hz
   ·rw[cQ.mp hz];exact hi
 by_cases h:x∈ks kv
 ·rw[aQ h] at ar;replace ar:=ar;exact⟨ar▸P.nd,ar▸P.mem,ar▸P.cl,ar▸P.ej,Ba⟩
 ·rw[aI h] at ar;replace ar:=ar;refine ah ag λl0 lX Fg=>?_;refine cn (append_of_mem Fg) λxE oB dN=>?_;have mg:=F.up l0 lX xE x oB dN;rw[mg] at bD;replace bD:=bD;have bD:∀y∈oB,y∈ks kv:=bD;refine⟨?_,λz hz=>?_,λz hz y av=>?_,λl ao=>?_,Ba⟩
  ·rw[ar];exact List.nodup_append.mpr ⟨P.nd,by simp,λa af b I e=>h (by rw[<-cQ.mp I, <-e];exact af)⟩
  ·rw[ar] at hz;replace hz:=hz;rcases List.mem_append.mp hz with hz |hz
   ·exact P.mem z hz
   ·rw[cQ.mp hz];exact⟨l0,lX,Fg⟩
  ·rw[ar] at hz ⊢;replace hz:=hz;rcases List.mem_append.mp hz with hz |hz
   ·exact b6 _ (P.cl z hz y av)
   ·rw[cQ.mp hz,mg] at av;replace av:=av;rcases bI.mp av with rfl |av
    ·exact b9 _ (cQ.mpr rfl)
    ·exact b6 _ (bD y av)
  ·rw[ar,filter_append,P.ej l ao];by_cases iY:x∈l
   ·refine cn (append_of_mem iY) λp r e=>?_;have lj:=F.up l ao p x r e;rw[mg] at lj;injection lj with _ bf
    subst bf;have bo:=F.nodup ao;have aa:∀c∈p,c∉ks kv:=λc U TH=>h (P.cl c TH x (by
     refine cn (append_of_mem U) λbW cc aC=>?_;rw[F.up l ao bW c (cc++x::oB) (by rw[e,aC,append_assoc];rfl)];exact en _ (b9 _ cM)))
    have Ub:∀c∈p,c≠x:=λc U q=>by
     rw[e] at bo;exact(List.nodup_append.mp bo).2.2 c U x cM q
    have ax:l.filter (λz=>decide (z∈ks kv))=oB:=by
     rw[e,filter_append,List.filter_eq_nil_iff.mpr λc U=>by rw[d0];exact aa c U,filter_cons,aI (by rw[d0];exact h),List.filter_eq_self.mpr λc U=>el (bD c U)];rfl
    have aC:l.filter (λz=>decide (z∈ks kv++[x]))=x::oB:=by
     rw[e,filter_append,List.filter_eq_nil_iff.mpr λc U=>by
      rw[d0,mem_append,cQ];exact λq=>q.elim (aa c U) (Ub c U),filter_cons,aQ (el (b9 _ (cQ.mpr rfl))),List.filter_eq_self.mpr λc U=>el (b6 _ (bD c U))]
     rfl
    rw[ax,aC,filter_cons,aQ (el iY),filter_nil,reverse_cons]
   ·rw[filter_cons,aI (by rw[d0];exact iY),filter_nil,append_nil];congr 1;refine filter_congr λc U=>?_;have Tf:c≠x:=λq=>iY (q▸U);rw[Bool.eq_iff_iff,d0,d0,mem_append,cQ];exact⟨.inl,λq=>q.resolve_right Tf⟩
theorem Lf{kv:List (Str×Int)}{x:Str}{i:Int}:(∀y∈ks kv,y∈ks (iO kv x i))/\x∈ks (iO kv x i):=by
 rw[D9];split
 ·exact⟨λ_ h=>h,by assumption⟩
 ·exact⟨λ_ h=>b6 _ h,b9 _ (cQ.mpr rfl)⟩
theorem ko.row(F:cq L){kv:List (Str×Int)}(P:ko L kv){c:Int}{l:List Str}(ao:l∈L):∀j,j<=l.length->ko L ((range j).foldl (j6 c l) kv)/\((range j).foldl (j6 c l) kv).length<=kv.length+j/\(∀y∈ks kv,y∈ks ((range j).foldl (j6 c l) kv))/\∀y∈l.drop (l.length - j),y∈ks ((range j).foldl (j6 c l) kv):=by
 intro a9;induction a9 with
 |zero=>
  intro _;exact⟨P,Nat.le_refl _,λ_ h=>h,λy av=>by rw[drop_of_length_le (by walk_at"o")] at av;exact absurd av b8⟩
 |succ j aw=>
  intro h;refine eK (aw (by exact Nat.le_of_succ_le ‹_›)) λab ae aD bc=>?_;rw[range_succ,foldl_append,foldl_cons,foldl_nil];generalize (range j).foldl (j6 c l) kv=q0 at*;have cu:l.length - 1 - j < l.length:=by walk_at"o"
  have e:=drop_eq_getElem_cons cu;have aC:l.length - 1 - j+1=l.length - j:=by walk_at"o"
  have a8:l.length - (j+1)=l.length - 1 - j:=by walk_at"o"
  have ex:l.getD (l.length - 1 - j) ""=l[l.length - 1 - j]:=by rw[c8,cm cu];rfl
  rw[aC] at e;replace e:=e;unfold j6;rw[ex,a8,e];have mg:=F.up l ao (l.take (l.length - 1 - j)) l[l.length - 1 - j] (l.drop (l.length - j)) (by rw[<-e,take_append_drop]);have hs:=Lf (kv:=q0) (x:=l[l.length - 1 - j]) (i:=v9 c (l.length - 1 - j));refine⟨ab.add F ⟨l,ao,getElem_mem _⟩ (λy av=>by rw[mg] at av;exact bc y av) (v8 _ (by decide)).1,Nat.le_trans yK (by walk_at"o"),λy av=>hs.1 y (aD y av),λy av=>?_⟩;rcases bI.mp av with rfl |av
  ·exact hs.2
  ·exact hs.1 y (bc y av)
theorem Kr(F:cq L):∀(zs:List (Int×List Str)) (kv:List (Str×Int)),(∀z∈zs,z.2∈L)->ko L kv->ko L (zs.foldl kz kv)/\(zs.foldl kz kv).length<=kv.length+4*zs.length/\(∀y∈ks kv,y∈ks (zs.foldl kz kv))/\∀z∈zs,∀y∈z.2,y∈ks (zs.foldl kz kv):=by
 intro a9;induction a9 with
 |nil=>
  intro kv _ P;exact⟨P,Nat.le_refl _,λ_ h=>h,λz hz=>nomatch hz⟩
 |cons z zs aw=>
  intro kv hz P;refine eK (ko.row F P (c:=z.1) (hz z cM) z.2.length (Nat.le_refl _)) λab ae aD bc=>?_;refine eK (aw (kz kv z) (λy av=>hz y (en _ av)) ab) λg1 g2 g3 td=>?_;have dz:=F.k9 _ (hz z cM);rw[Nat.sub_self,drop_zero] at bc;refine⟨g1,Nat.le_trans g2 ?_,λy av=>g3 y (aD y av),λx ag y av=>?_⟩
  ·have:(kz kv z).length<=kv.length+z.2.length:=ae;rw[dI];walk_at"o"
  ·rcases bI.mp ag with rfl |ag
   ·exact g3 y (bc y av)
   ·exact td x ag y av
theorem KW(F:cq L){cells:List Int}(U:cells.length=5):ko L (rU cells L)/\(rU cells L).length<=20/\∀x,x∈ks (rU cells L)↔eu L x:=by
 have hm:∀z∈cells.zip L,z.2∈L:=λz hz=>(of_mem_zip hz).2;have Ux:ko L []:=⟨nodup_nil,λ_ h=>absurd h b8,λ_ h=>absurd h b8,λl _=>by
  show []=(l.filter λx=>decide (x∈([]:List Str))).reverse;rw[List.filter_eq_nil_iff.mpr λx _ q=>absurd (ee q) b8];rfl,λ_ h=>absurd h b8⟩
 refine eK (Kr F (cells.zip L) [] hm Ux) λab ae _ bc=>?_;refine⟨ab,Nat.le_trans ae ?_,λx=>⟨ab.mem x,λPO=>ah PO λl ao ag=>?_⟩⟩
 ·rw[length_zip,U,F.ie];decide
 ·obtain⟨i,hi⟩:=getElem?_of_mem ao;have l8:=(List.getElem?_eq_some_iff.mp hi).1;have SG:i < cells.length:=by rw[U, <-F.ie];exact l8
  have:(cells[i],l)∈cells.zip L:=List.mem_iff_getElem?.mpr ⟨i,by rw[getElem?_zip_eq_some];exact⟨cm SG,hi⟩⟩;exact bc _ this x ag
theorem ko.fit(F:cq L){kv:List (Str×Int)}(P:ko L kv)(mP:∀x,x∈ks kv↔eu L x){l:List Str}(ao:l∈L):(ks kv).filter (λx=>(l.drop 1).contains x)++(ks kv).filter (λx=>l.getD 0 ""==x)=l.reverse:=by
 have h:=P.ej l ao;rw[List.filter_eq_self.mpr λx ag=>el ((mP x).mpr ⟨l,ao,ag⟩)] at h;replace h:=h;have bo:=F.nodup ao;have h0:=F.len0 l ao
 match l,h0,h,bo,ao with
 |a::t,_,h,bo,ao=>
  have lZ:=(List.nodup_cons.mp bo).1;have ax:(ks kv).filter (λx=>((a::t).drop 1).contains x)=t.reverse:=by
   have:(ks kv).filter (λx=>((a::t).drop 1).contains x)=((ks kv).filter (λx=>decide (x∈a::t))).filter (λx=>t.contains x):=by
    rw[List.filter_filter];refine filter_congr λx _=>?_;show t.contains x=_;induction q:t.contains x with
    |false=>rfl
    |true=>rw[el (en _ (List.contains_iff_mem.mp q))];rfl
   rw[this,h,reverse_cons,filter_append,List.filter_eq_self.mpr λx ag=>List.contains_iff_mem.mpr (List.mem_reverse.mp ag),filter_cons,aI (by rw[contains_iff_mem];exact lZ)];exact append_nil _
  have aC:(ks kv).filter (λx=>(a::t).getD 0 ""==x)=[a]:=by
   have:(ks kv).filter (λx=>(a::t).getD 0 ""==x)=((ks kv).filter (λx=>decide (x∈a::t))).filter (λx=>a==x):=by
    rw[List.filter_filter];refine filter_congr λx _=>?_;show(a==x)=_;induction q:a==x with
    |false=>rfl
    |true=>rw[el (by rw[eq_of_beq q];exact cM)];rfl
   rw[this,h,reverse_cons,filter_append,List.filter_eq_nil_iff.mpr λx ag q=>lZ (by rw[eq_of_beq q];exact List.mem_reverse.mp ag),filter_cons,aQ (beq_self_eq_true _)];rfl
  rw[ax,aC,reverse_cons]
end
theorem Jq{α:Type}(l:List α):∀m,(range m).filterMap (l[·]?)=l.take m:=by
 intro a9;induction a9 with
 |zero=>
  exact rfl
 |succ m aw=>
  rw[range_succ,filterMap_append,aw,take_add_one];congr 1
theorem Nd{l:List Str}(k:Nat):cL l none (some (k:Nat)) none=l.take k:=by
 unfold cL;have e:sliceBounds none (some ((k:Nat):Int)) none l.length=(((0:Nat):Int),((min k l.length:Nat):Int),1):=by
  have ax:sliceBounds none (some ((k:Nat):Int)) none l.length=(0,max 0 (min (if(k:Int) < 0 then(k:Int)+l.length else k) l.length),1):=rfl;rw[ax,aI (by walk_at"o")];congr 2;walk_at"o"
 rw[e];dsimp only;rw[sliceRange_one,Nat.sub_zero];have aC:(range (min k l.length)).map ((0:Nat)+·)=range (min k l.length):=by
  rw[show((0:Nat)+·)=(λx:Nat=>x) from funext λx=>Nat.zero_add x];exact List.map_id _
 rw[aC,Jq];by_cases h:k<=l.length
 ·rw[Nat.min_eq_left h]
 ·rw[take_of_length_le (by walk_at"o"),take_of_length_le (by walk_at"o")]
structure iH (L:List (List Str)) (O:List Str):Prop where
 mem:∀x,x∈O↔eu L x
 nd:O.Nodup
 asc:O.Pairwise λa b=>keyOf L a < keyOf L b
section
variable {L:List (List Str)} {O:List Str}
theorem Om(F:cq L){N:List Str}(aA:N.Nodup)(hm:∀x,x∈N↔eu L x):∃O,iH L O/\O.Perm N:=by
 have aa:=mergeSort_perm N (λa b=>decide (keyOf L a<=keyOf L b));have hs:=pairwise_mergeSort (le:=λa b=>decide (keyOf L a<=keyOf L b)) (λa b c ab ae=>by
  have ab:=ee ab;have ae:=ee ae;exact el (Int.le_trans ab ae)) (λa b=>by
  rw[Bool.or_eq_true,d0,d0];walk_at"o") N
 generalize N.mergeSort (λa b=>decide (keyOf L a<=keyOf L b))=O at aa hs;induction O using jf;rename_i O
 have n8:∀x,x∈O↔eu L x:=λx=>(aa.mem_iff).trans (hm x);have bo:O.Nodup:=aa.nodup_iff.mpr aA;refine⟨O,⟨n8,bo,?_⟩,aa⟩;refine Pairwise.imp_of_mem (λaf I h=>?_) (Pairwise.and hs bo);have ab:=ee h.1;rcases Int.lt_or_eq_of_le ab with q |q
 ·exact q
 ·exact absurd (F.z9 ((n8 _).mp af) ((n8 _).mp I) q) h.2
theorem iH.before(D:iH L O){j:Nat}{a b:Str}(hi:O[i]? =some a)(aN:O[j]? =some b)(h:i < j):keyOf L a < keyOf L b:=by
 obtain⟨ab,ax⟩:=List.getElem?_eq_some_iff.mp hi;obtain⟨ae,aC⟩:=List.getElem?_eq_some_iff.mp aN;have:=List.pairwise_iff_getElem.mp D.asc i j ab ae h;rw[ax,aC] at this;exact this
theorem iH.ky(D:iH L O){j:Nat}{y:Str}(aN:O[j]? =some y)(hz:eu L z):z∈O.take j↔keyOf L z < keyOf L y:=by
 obtain⟨i,hi⟩:=getElem?_of_mem ((D.mem z).mpr hz);constructor
 ·intro h;obtain⟨k,ar⟩:=getElem?_of_mem h;rw[getElem?_take] at ar;replace ar:=ar;split at ar
  ·exact D.before ar aN (by assumption)
  ·injection ar
 ·intro h;have:i < j:=by
   rcases Nat.lt_trichotomy i j with q |q |q
   ·exact q
   ·subst q;rw[hi] at aN;obtain rfl:=bT aN;walk_at"o"
   ·have:=D.before aN hi q;walk_at"o"
  exact eP (by rw[getElem?_take,aQ this];exact hi)
theorem iH.take_succ(D:iH L O){j:Nat}{y:Str}(aN:O[j]? =some y):z∈O.take (j+1)↔z∈O.take j\/z=y:=by
 rw[take_add_one,aN,mem_append];show _\/z∈[y]↔_;rw[cQ]
structure O6 (L:List (List Str)) (j:Nat) (st:List (List Str)×List Str):Prop where
 len:st.1.length=j
 th:∀x,x∈st.2↔∃i,i < j/\x∈cV L i
 row:∀i,i < j->∃a b,cV L i=a++b/\st.1[i]? =some (a++b.take 1)/\(∀x∈a,∀dG,dG < i->x∉cV L dG)/\∀x∈b,∃dG,dG < i/\x∈cV L dG
theorem NP(F:cq L):∀j,j<=5->O6 L j ((L.take j).foldl k3 ([],[])):=by
 intro a9;induction a9 with
 |zero=>
  intro _;exact⟨rfl,λx=>⟨λh=>absurd h b8,λQI=>ah QI λi h _=>absurd h (Nat.not_lt_zero _)⟩,λi h=>absurd h (Nat.not_lt_zero _)⟩
 |succ j aw=>
  intro aN;have C:=aw (by exact Nat.le_of_succ_le ‹_›);have kR:j < L.length:=by have:=F.ie;walk_at"o"
  have rD:L.take (j+1)=L.take j++[cV L j]:=by
   rw[take_add_one,cm kR];unfold cV;rw[c8,cm kR];rfl
  rw[rD,foldl_append,foldl_cons,foldl_nil];generalize (L.take j).foldl k3 ([],[])=st at C;induction st using jf;rename_i st
  have ao:cV L j∈L:=F.at (by walk_at"o");generalize j0:cV L j=l at ao;induction l using jf;rename_i l
  let p:Str->Bool:=λx=> !st.2.any (· ==x)
  have aa:∀x,p x=true↔x∉st.2:=λx=>by
   show(!st.2.any (· ==x))=true↔_;rw[Bool.not_eq_true'];constructor
   ·intro h ag;have:st.2.any (· ==x)=true:=List.any_eq_true.mpr ⟨x,ag,beq_self_eq_true _⟩;rw[this] at h;injection h
   ·intro h;induction q:st.2.any (· ==x) with
    |false=>rfl
    |true=>
     refine ah (List.any_eq_true.mp q) λy av e=>?_;exact absurd (eq_of_beq e▸av) h
  have ax:l=l.takeWhile p++l.dropWhile p:=List.takeWhile_append_dropWhile.symm;have af:∀x∈l.takeWhile p,p x=true:=λx ag=>List.all_eq_true.mp all_takeWhile x ag;have I:∀x∈l.dropWhile p,x∈st.2:=by
   intro x ag;have bY:l.dropWhile p≠[]:=λq=>by rw[q] at ag;exact absurd ag b8
   have h0:=head_dropWhile_not p bY;refine cn (exists_cons_of_ne_nil bY) λy r aC=>?_;have rz:(l.dropWhile p).head bY=y:=by simp[aC]
   rw[rz] at h0;replace h0:=h0;have av:y∈st.2:=Classical.byContradiction λq=>by rw[(aa y).mpr q] at h0;injection h0
   refine ah ((C.th y).mp av) λi hi T2=>?_;have mg:=F.up l ao (l.takeWhile p) y r (by rw[<-aC];exact ax);rw[aC] at ag;exact(C.th x).mpr ⟨i,hi,F.zD (F.at (by walk_at"o")) T2 (by rw[mg];exact ag)⟩
  have pP:l.filter p=l.takeWhile p:=by
   have:(l.takeWhile p++l.dropWhile p).filter p=l.takeWhile p:=by
    rw[filter_append,List.filter_eq_self.mpr af,List.filter_eq_nil_iff.mpr λx ag q=>(aa x).mp q (I x ag),append_nil]
   rwa [<-ax] at this
  have es:k3 st l=(st.1++[l.takeWhile p++(l.dropWhile p).take 1],st.2++l.takeWhile p):=by
   show(st.1++[cL l none (some ((l.filter p).length+1)) none],st.2++l.filter p)=_;rw[pP];have:cL l none (some (((l.takeWhile p).length:Int)+1)) none=l.take ((l.takeWhile p).length+1):=Nd ((l.takeWhile p).length+1);rw[this];congr 2;have a8:l.take ((l.takeWhile p).length+1)=(l.takeWhile p++l.dropWhile p).take ((l.takeWhile p).length+1):=by rw[<-ax]
   rw[a8,take_length_add_append]
  rw[es];refine⟨by rw[length_append,C.len];rfl,λx=>?_,λi hi=>?_⟩
  ·rw[mem_append,C.th];constructor
   ·rintro(⟨i,ab,ae⟩ |h)
    ·exact⟨i,by exact Nat.lt_add_right _ ‹_›,ae⟩
    ·exact⟨j,by exact Nat.lt_succ_self _,by rw[j0,ax];exact b6 _ h⟩
   ·intro dg;refine ah dg λi ab ae=>?_;by_cases q:i < j
    ·exact .inl ⟨i,q,ae⟩
    ·have:i=j:=by walk_at"o"
     subst this;rw[j0,ax] at ae;replace ae:=ae;rcases List.mem_append.mp ae with ae |ae
     ·exact .inr ae
     ·exact .inl ((C.th x).mp (I x ae))
  ·by_cases q:i < j
   ·refine h8 (C.row i q) λa b ab ae aD bc=>?_;exact⟨a,b,ab,by rw[getElem?_append_left (by rw[C.len];exact q)];exact ae,aD,bc⟩
   ·have:i=j:=by walk_at"o"
    subst this;refine⟨l.takeWhile p,l.dropWhile p,by rw[j0];exact ax,?_,λx ag dG fl hm=>(aa x).mp (af x ag) ((C.th x).mpr ⟨dG,fl,hm⟩),λx ag=>(C.th x).mp (I x ag)⟩;rw[getElem?_append_right (by rw[C.len];exact Nat.le_refl _),C.len,Nat.sub_self];rfl
noncomputable def ly(L:List (List Str))(i:Nat):List Str:=(iP L).getD i []
theorem tG(F:cq L):iP L=(range 5).map (ly L)/\∀i,i < 5->∃a b,cV L i=a++b/\ly L i=a++b.take 1/\(∀x∈a,∀dG,dG < i->x∉cV L dG)/\∀x∈b,∃dG,dG < i/\x∈cV L dG:=by
 have C:=NP F 5 (Nat.le_refl _);rw[take_of_length_le (by rw[F.ie];exact Nat.le_refl _)] at C;replace C:=C;have ao:(iP L).length=5:=C.len;refine⟨?_,λi hi=>?_⟩
 ·refine ext_getElem? λi=>?_;rw[d7];by_cases h:i < 5
  ·rw[getElem?_range h];show _=some ((iP L).getD i []);rw[c8,cm (by walk_at"o")];rfl
  ·rw[getElem?_eq_none (by walk_at"o"),getElem?_eq_none (by rw[length_range];walk_at"o")];rfl
 ·refine h8 (C.row i hi) λa b ab ae aD bc=>?_;refine⟨a,b,ab,?_,aD,bc⟩;have ae:(iP L)[i]? =some (a++b.take 1):=ae;unfold ly;rw[c8,ae];rfl
end
theorem Jz{q:Nat->Bool}{ij:Nat}:∀{l:List Nat},l.Pairwise (· < ·)->l.find? q=some i->ij∈l->q ij=true->i<=ij:=by
 intro l;induction l with
 |nil=>exact λ_ _ h=>absurd h b8
 |cons a l aw=>
  intro aa hf hm aG;rw[find?_cons] at hf;replace hf:=hf;refine aE (List.pairwise_cons.mp aa) λab ae=>?_;induction e:q a with
  |true=>
   rw[e] at hf;obtain rfl:=bT hf;rcases bI.mp hm with rfl |hm
   ·exact Nat.le_refl _
   ·exact Nat.le_of_lt (ab _ hm)
  |false=>
   rw[e] at hf;rcases bI.mp hm with rfl |hm
   ·rw[e] at aG;injection aG
   ·exact aw ae hf hm aG
theorem Ik{g:List Str->List Str}(dj:g []=[]):∀R:List (List Str),((R.filter λl=> !l.isEmpty).map g).filter (λl=> !l.isEmpty)=(R.map g).filter λl=> !l.isEmpty:=by
 intro R;induction R with
 |nil=>rfl
 |cons l R aw=>
  rcases l with _ |⟨a,l⟩
  ·rw[filter_cons,aI (by decide),map_cons,filter_cons,aI (by rw[dj];decide)];exact aw
  ·rw[filter_cons,aQ (show(!(a::l).isEmpty)=true from rfl),map_cons,map_cons,filter_cons,filter_cons,aw]
section
variable {L:List (List Str)} {O:List Str}
theorem cq.below(F:cq L){l p r:List Str}{x:Str}(ao:l∈L)(e:l=p++x::r)(hz:z∈r):keyOf L x < keyOf L z:=by
 have ab:=F.tail ao e z hz;have ag:eu L x:=⟨l,ao,by rw[e];exact b9 _ cM⟩
 have f6:eu L z:=⟨l,ao,by rw[e];exact b9 _ (en _ hz)⟩
 refine h7 (F.gC ag) λk ax K ar _=>?_;refine h7 (F.gC f6) λj aC J _ zT=>?_;have:=zT k K (F.zD (F.at K.lt) ar (by rw[F.up l ao p x r e];exact en _ hz));rw[lG,lG,ax,aC];walk_at"o"
noncomputable def TT(L:List (List Str))(O:List Str)(j i:Nat):List Str:=(ly L i).filter λx=>decide (x∉O.take j)
theorem y8{j:Nat}{x:Str}:x∈TT L O j i↔x∈ly L i/\x∉O.take j:=by
 unfold TT;rw[mem_filter,d0]
theorem tX(F:cq L)(hi:i < 5):∃q,cV L i=ly L i++q:=by
 refine bj ((tG F).2 i hi) λa b ab ae _=>?_;exact⟨b.drop 1,by rw[ab,ae,append_assoc,take_append_drop]⟩
theorem wi(F:cq L)(hi:i < 5){x:Str}(ag:x∈ly L i):x∈cV L i:=by
 refine aP (tX F hi) λq e=>?_;rw[e];exact b6 _ ag
theorem Ol(F:cq L)(hi:i < 5):(ly L i).Nodup:=by
 refine aP (tX F hi) λq e=>?_;have:=F.nodup (F.at hi);rw[e] at this;exact(List.nodup_append.mp this).1
theorem NY(F:cq L){j:Nat}(hi:i < 5):(TT L O j i).length<=4:=by
 refine aP (tX F hi) λq e=>?_;have h:=F.k9 _ (F.at hi);rw[e,length_append] at h;have:=length_filter_le (λx=>decide (x∉O.take j)) (ly L i);unfold TT;walk_at"o"
theorem EX(F:cq L){j:Nat}(hi:i < 5):(TT L O j i).Nodup:=(Ol F hi).filter _
theorem y4(F:cq L)(D:iH L O){j:Nat}{y h:Str}{t:List Str}(hi:i < 5)(aN:O[j]? =some y)(e:TT L O j i=h::t)(av:y∈TT L O j i):h=y:=by
 rw[e] at av;replace av:=av;rcases bI.mp av with q |av
 ·exact q.symm
 ·exfalso;refine h8 (List.filter_eq_cons_iff.mp e) λdH dh ax _ aD bc=>?_;refine aP (tX F hi) λq aC=>?_;have Uc:y∈dh:=by rw[<-bc] at av;exact(List.mem_filter.mp av).1
  have ar:=F.below (F.at hi) (p:=dH) (x:=h) (r:=dh++q) (by rw[aC,ax,append_assoc];rfl) (b6 _ Uc);have dr:eu L h:=⟨_,F.at hi,wi F hi (by rw[ax];exact b9 _ cM)⟩
  exact(ee aD) ((D.ky aN dr).mpr ar)
theorem DW(F:cq L){y:Str}:∀(i:Nat),i < 5->y∈cV L i->∃ij a b,ij<=i/\cV L ij=a++b/\ly L ij=a++b.take 1/\y∈a:=by
 intro i;induction i using Nat.strongRecOn with
 |_ i aw=>
  intro hi av;refine h8 ((tG F).2 i hi) λa b ab ae _ bc=>?_;rw[ab] at av;replace av:=av;rcases List.mem_append.mp av with av |av
  ·exact⟨i,a,b,Nat.le_refl _,ab,ae,av⟩
  ·refine ah (bc y av) λdG fl hC=>?_;refine t9 (aw dG fl (by exact Nat.lt_trans ‹_› ‹_›) hC) λij nh BJ g1 g2=>?_;exact⟨ij,nh,BJ,by walk_at"o",g2⟩
noncomputable def kp(L:List (List Str))(O:List Str)(j:Nat):List (List Str):=(range 5).map (TT L O j)
theorem DN{rows:List (List Str)}(bc:∀s∈rows,s.length<=4){x:Str}:kd rows x=true↔∀s∈rows,x∉s.drop 1:=by
 unfold kd;rw[List.all_eq_true];refine forall_congr' λs=>forall_congr' λhs=>?_;rw[za (bc s hs),Bool.not_eq_true'];constructor
 ·intro h ag;have this:(s.drop 1).any (· ==x)=true:=List.any_eq_true.mpr ⟨x,ag,beq_self_eq_true _⟩;rw[this] at h;injection h
 ·intro h;induction q:(s.drop 1).any (· ==x) with
  |false=>rfl
  |true=>
   refine ah (List.any_eq_true.mp q) λz hz e=>?_;exact absurd (eq_of_beq e▸hz) h
theorem Em(F:cq L)(D:iH L O){j:Nat}{y:Str}(aN:O[j]? =some y):oT ((kp L O j).filter λl=> !l.isEmpty)=some y:=by
 have av:eu L y:=(D.mem y).mp (eP aN);refine h7 (F.gC av) λHH UN J uF _=>?_;have nS:y∉O.take j:=λh=>by have:=(D.ky aN av).mp h;walk_at"o"
 refine cg (DW F HH J.lt uF) λij B0 Wc Bn ab ae SE=>?_;have Fn:ij < 5:=Nat.lt_of_le_of_lt Bn J.lt;have AU:y∈TT L O j ij:=y8.mpr ⟨by rw[ae];exact b6 _ SE,nS⟩;have B4:(kp L O j).filter (λl=> !l.isEmpty)=((range 5).filter λi=> !(TT L O j i).isEmpty).map (TT L O j):=by
  unfold kp;rw[List.filter_map];rfl
 have kH:∀s∈(kp L O j).filter (λl=> !l.isEmpty),∃i,i < 5/\s=TT L O j i/\s≠[]:=λs hs=>by
  refine aE (List.mem_filter.mp hs) λhs bY=>?_;refine ah (bA.mp hs) λi hi aU=>?_;subst aU;exact⟨i,List.mem_range.mp hi,rfl,λq=>by rw[q] at bY;injection bY⟩
 have gp:∀i,i < 5->TT L O j i≠[]->TT L O j i∈(kp L O j).filter λl=> !l.isEmpty:=λi hi bY=>by
  refine List.mem_filter.mpr ⟨fO (List.mem_range.mpr hi),?_⟩;induction e:TT L O j i with
  |nil=>exact absurd e bY
  |cons _ _=>rfl
 generalize V0:(kp L O j).filter (λl=> !l.isEmpty)=rows at B4 kH gp;have bc:∀s∈rows,s.length<=4:=λs hs=>by refine dK (kH s hs) λi hi a7 _=>?_;subst a7;exact NY F hi
 have Gh:kd rows (fT (TT L O j ij))=true:=by
  refine cn (exists_cons_of_ne_nil (ne_nil_of_mem AU)) λh t e=>?_;have:=y4 F D Fn aN e AU;subst this;rw[show fT (TT L O j ij)=h by rw[e];rfl,DN bc];intro s hs hm;refine dK (kH s hs) λi hi bk bY=>?_;subst bk;refine cn (exists_cons_of_ne_nil bY) λh' eV aO=>?_;rw[aO] at hm;replace hm:=hm;have:=y4 F D hi aN aO (by rw[aO];exact en _ hm);subst this;have bo:=EX F (O:=O) (j:=j) hi;rw[aO] at bo;exact(List.nodup_cons.mp bo).1 hm
 have uj:ij∈(range 5).filter λi=> !(TT L O j i).isEmpty:=by
  refine List.mem_filter.mpr ⟨List.mem_range.mpr Fn,?_⟩;refine cn (exists_cons_of_ne_nil (ne_nil_of_mem AU)) λh t e=>?_;rw[e];rfl
 have Qy:((range 5).filter λi=> !(TT L O j i).isEmpty).Pairwise (· < ·):=Pairwise.filter _ pairwise_lt_range;unfold oT;rw[show rows.find? (λs1=>kd rows (fT s1))=(((range 5).filter λi=> !(TT L O j i).isEmpty).find? λi=>kd rows (fT (TT L O j i))).map (TT L O j) by
  conv=>lhs;rw[B4]
  rw[find?_map, <-B4];rfl]
 induction pP:((range 5).filter λi=> !(TT L O j i).isEmpty).find? λi=>kd rows (fT (TT L O j i)) with
 |none=>
  have:=List.find?_eq_none.mp pP ij uj;exact absurd Gh this
 |some i=>
  show some (fT (TT L O j i))=some y;have hle:i<=ij:=Jz (q:=λi=>kd rows (fT (TT L O j i))) Qy pP uj Gh;have Gk:kd rows (fT (TT L O j i))=true:=find?_some (p:=λi=>kd rows (fT (TT L O j i))) pP;have S6:=mem_of_find?_eq_some pP;refine aE (List.mem_filter.mp S6) λTS G7=>?_;have pJ:=List.mem_range.mp TS;have bY:TT L O j i≠[]:=λq=>by rw[q] at G7;injection G7
  refine cn (exists_cons_of_ne_nil bY) λz t e=>?_;have m8:fT (TT L O j i)=z:=by rw[e];rfl
  rw[m8] at Gk ⊢;refine congrArg some (Classical.byContradiction λnZ=>?_);have Sl:z∈TT L O j i:=by rw[e];exact cM
  refine aE (y8.mp Sl) λTB wZ=>?_;have f6:=wi F pJ TB;have hz:eu L z:=⟨_,F.at pJ,f6⟩
  have AO:keyOf L y<=keyOf L z:=Int.not_lt.mp λq=>wZ ((D.ky aN hz).mpr q);have e1:=(DN bc).mp Gk;obtain⟨k,hN,ax,aC,cu,K,x5,_⟩:=F.Hv av hz nZ AO λc ar=>by
   refine ah ar λl ao bz=>?_;refine cn bz λp r j0=>?_;have U:eu L c:=⟨l,ao,by rw[j0];exact b9 _ cM⟩
   refine(D.ky aN U).mp (Classical.byContradiction λR4=>?_);refine ah (F.zb ao) λdG fl Sp=>?_;have et:c∈cV L dG:=by rw[Sp,j0];exact b9 _ cM
   refine cg (DW F dG fl et) λew a b l2 g1 g2 TN=>?_;have FY:ew < 5:=by walk_at"o"
   refine cn (append_of_mem TN) λp' s ff=>?_;have TQ:=F.up l ao p c (z::r) j0;have lj:=F.up _ (F.at FY) p' c (s++b) (by rw[g1,ff,append_assoc];rfl);rw[TQ] at lj;replace lj:=lj;injection lj with _ lj
   have hs:∃q',s++b.take 1=z::q':=by
    induction s with
    |nil=>
     have lj:z::r=b:=lj;rw[<-lj];exact⟨[],rfl⟩
    |cons eN s'=>
     injection lj with q _
     rw[<-q];exact⟨s'++b.take 1,rfl⟩
   refine aP hs λq' hs=>?_;have UC:ly L ew=p'++c::z::q':=by rw[g2,ff,append_assoc,cons_append,hs]
   have s8:TT L O j ew=p'.filter (λx=>decide (x∉O.take j))++c::z::q'.filter λx=>decide (x∉O.take j):=by
    unfold TT;rw[UC,filter_append,filter_cons,aQ (el R4),filter_cons,aQ (el wZ)]
   have iq:=gp ew FY (by rw[s8];simp);refine e1 _ iq ?_;rw[s8];induction p'.filter (λx=>decide (x∉O.take j)) with
   |nil=>exact cM
   |cons w ws=>exact b9 _ (en _ cM)
  rw[UN] at ax;have:hN=HH:=by walk_at"o"
  subst this;have Te:i < k:=by walk_at"o"
  have O9:z=(cV L i).getD 0 "":=by
   have h0:=F.len0 _ (F.at pJ)
   match AI:cV L i,h0 with
   |w::ws,_=>
    rw[AI] at f6;replace f6:=f6;rcases bI.mp f6 with q |q
    ·exact q
    ·exfalso;have VA:=(F.head (F.at K.lt)).1;have Bk:∃r,kW z=z::r:=by
      refine cn (append_of_mem (show z∈cV L i by rw[AI];exact f6)) λp r ep=>?_;exact⟨r,F.up _ (F.at pJ) p z r ep⟩
     refine aP Bk λr Bk=>?_;have oe:(cV L k).getD 0 ""=z:=by rw[x5,Bk];rfl
     refine K.low _ (F.at pJ) ?_;rw[oe,AI];exact q
  have:kW z=cV L i:=by rw[O9];exact(F.head (F.at pJ)).1
  exact K.fst i Te (by rw[x5,this])
theorem M4(F:cq L)(D:iH L O){j:Nat}{y:Str}(aN:O[j]? =some y):(((kp L O j).filter λl=> !l.isEmpty).map (mF y)).filter (λl=> !l.isEmpty)=(kp L O (j+1)).filter λl=> !l.isEmpty:=by
 have av:eu L y:=(D.mem y).mp (eP aN);have Fz:y≠"":=by refine ah av λl ao h=>?_;exact F.ne l ao y h
 rw[Ik (by show(if("":Str)==y then _ else _)=_;rw[aI (by rw[beq_iff_eq];exact λq=>Fz q.symm)])];congr 1;unfold kp;rw[dW];refine map_congr_left λi hi=>?_;have hi:=List.mem_range.mp hi;show mF y (TT L O j i)=TT L O (j+1) i;have aC:TT L O (j+1) i=(TT L O j i).filter λx=>decide (x≠y):=by
  unfold TT;rw[List.filter_filter];refine filter_congr λx _=>?_;rw[Bool.eq_iff_iff,Bool.and_eq_true,d0,d0,d0,D.take_succ aN];exact⟨λh=>⟨λq=>h (.inr q),λq=>h (.inl q)⟩,λh q=>q.elim h.2 h.1⟩
 rw[aC];unfold mF;induction e:TT L O j i with
 |nil=>rw[aI (by rw[beq_iff_eq];exact λq=>Fz q.symm)];rfl
 |cons h t=>
  have bo:=EX F (O:=O) (j:=j) hi;rw[e] at bo;by_cases q:h=y
  ·subst q;rw[aQ (by exact beq_self_eq_true h),filter_cons,aI (by walk_at"o")];show t=t.filter λx=>decide (x≠h);exact(List.filter_eq_self.mpr λx ag=>el (p:=x≠h) λq=>(List.nodup_cons.mp bo).1 (q▸ag)).symm
  ·rw[aI (by rw[beq_iff_eq];exact q)];exact(List.filter_eq_self.mpr λx ag=>el (p:=x≠y) λbN=>q (y4 F D hi aN e (by rw[e, <-bN];exact ag))).symm
theorem Oy(F:cq L)(D:iH L O):∃f,k7 f (iP L) []=some O:=by
 have key:∀n j rows,j+n=O.length->rows.filter (λl=> !l.isEmpty)=(kp L O j).filter (λl=> !l.isEmpty)->k7 (n+1) rows (O.take j)=some O:=by
  intro n;induction n with
  |zero=>
   intro j rows aN bf;unfold k7;dsimp only;rw[bf];have:(kp L O j).filter (λl=> !l.isEmpty)=[]:=by
    refine List.filter_eq_nil_iff.mpr λs hs h=>?_;refine ah (bA.mp hs) λi hi b7=>?_;subst b7;induction e:TT L O j i with
    |nil=>rw[e] at h;injection h
    |cons a t=>
     refine aE (y8.mp (show a∈TT L O j i by rw[e];exact cM)) λab ae=>?_;rw[take_of_length_le (by walk_at"o")] at ae;exact ae ((D.mem a).mpr ⟨_,F.at (List.mem_range.mp hi),wi F (List.mem_range.mp hi) ab⟩)
   rw[this,take_of_length_le (by walk_at"o")];rfl
  |succ n aw=>
   intro j rows aN bf;obtain⟨y,av⟩:∃y,O[j]? =some y:=⟨_,cm (by walk_at"o")⟩
   unfold k7;dsimp only;rw[bf,Em F D av];have bY:((kp L O j).filter λl=> !l.isEmpty).isEmpty=false:=by
    induction e:(kp L O j).filter λl=> !l.isEmpty with
    |nil=>
     have:=Em F D av;rw[e] at this;injection this
    |cons _ _=>rfl
   rw[bY];have:=aw (j+1) _ (by walk_at"o") (M4 F D av);rw[take_add_one,av] at this;exact this
 refine⟨O.length+1,key O.length 0 (iP L) (by walk_at"o") ?_⟩;congr 1;have:=(tG F).1;rw[this];unfold kp;refine map_congr_left λi hi=>?_;unfold TT;exact(List.filter_eq_self.mpr λx _=>el (by rw[take_zero];exact b8)).symm
end
noncomputable def ed(K:List Str)(f:Str->Int)(g:Str->List Str):dS:=K.map λx=>(x,f x,g x)
noncomputable def gK(K:List Str)(y:Str):List Str:=if y∈K then K else K++[y]
theorem DV{K:List Str}{f:Str->Int}{g:Str->List Str}:(ed K f g).map (·.1)=K:=by
 unfold ed;rw[dW];exact List.map_id _
theorem DK{K:List Str}{f:Str->Int}{g:Str->List Str}{y:Str}:y∈K->(ed K f g).lookup y=some (f y,g y):=by
 unfold ed;induction K with
 |nil=>exact λh=>absurd h b8
 |cons x K aw=>
  intro h;rw[map_cons,di];by_cases q:y=x
  ·subst q;rw[beq_self_eq_true]
  ·rw[ey.mpr q];exact aw ((bI.mp h).resolve_left q)
theorem Eu{K:List Str}{f:Str->Int}{g:Str->List Str}{y:Str}(h:y∈K):oa (ed K f g) y=f y:=by unfold oa;rw[DK h];rfl
theorem Ez{K:List Str}{f:Str->Int}{g:Str->List Str}{y:Str}(h:y∈K):mS (ed K f g) y=g y:=by unfold mS;rw[DK h];rfl
theorem yT{K:List Str}{f:Str->Int}{g:Str->List Str}{y:Str}(h:y∈K):nJ (ed K f g) y=true:=by
 unfold nJ ed;exact List.any_eq_true.mpr ⟨_,fO h,beq_self_eq_true _⟩
theorem k0{K:List Str}{f f':Str->Int}{g gh:Str->List Str}(h:∀x∈K,f x=f' x/\g x=gh x):ed K f g=ed K f' gh:=by
 unfold ed;exact map_congr_left λx ag=>by rw[(h x ag).1,(h x ag).2]
theorem yU{K:List Str}{f:Str->Int}{g:Str->List Str}{y:Str}{h:Int×List Str->Int×List Str}:jl (ed K f g) y h=ed K (λx=>if x=y then(h (f x,g x)).1 else f x) (λx=>if x=y then(h (f x,g x)).2 else g x):=by
 unfold jl ed;rw[dW];refine map_congr_left λx _=>?_;show(if x=y then(x,h (f x,g x)) else(x,f x,g x))=(x,(if x=y then(h (f x,g x)).1 else f x),(if x=y then(h (f x,g x)).2 else g x))
 by_cases q:x=y
 ·rw[aQ q,aQ q,aQ q]
 ·rw[aI q,aI q,aI q]
theorem y0{K:List Str}{f:Str->Int}{g:Str->List Str}{y:Str}{k:Int}:jj (ed K f g) y k=ed K (λx=>if x=y then f x+k else f x) g:=by
 unfold jj;rw[yU];exact k0 λx _=>⟨rfl,by show(if x=y then g x else g x)=g x;split<;>rfl⟩
theorem DG{K:List Str}{f:Str->Int}{g:Str->List Str}{y:Str}{k:Int}:k6 (ed K f g) y k=ed K (λx=>if x=y then k else f x) g:=by
 unfold k6;rw[yU];exact k0 λx _=>⟨rfl,by show(if x=y then g x else g x)=g x;split<;>rfl⟩
theorem LH{K:List Str}{f:Str->Int}{g:Str->List Str}{p y:Str}:sd (ed K f g) p y=ed K f (λx=>if x=p then g x++[y] else g x):=by
 unfold sd;rw[yU];exact k0 λx _=>⟨by show(if x=p then f x else f x)=f x;split<;>rfl,rfl⟩
theorem y1{K:List Str}{f:Str->Int}{g:Str->List Str}{y:Str}(h:y∉K->f y=0/\g y=[]):ha (ed K f g) y=ed (gK K y) f g:=by
 unfold ha gK;rw[DV];by_cases q:y∈K
 ·rw[aQ q,aQ q]
 ·rw[aI q,aI q];unfold ed;rw[map_append];congr 1;show _=[(y,f y,g y)]
  rw[(h q).1,(h q).2]
theorem oP{K:List Str}{y:Str}:(∀x∈K,x∈gK K y)/\y∈gK K y:=by
 unfold gK;split
 ·exact⟨λ_ h=>h,by assumption⟩
 ·exact⟨λ_ h=>b6 _ h,b9 _ (cQ.mpr rfl)⟩
theorem Nb{K:List Str}{y:Str}(h:y∈K):gK K y=K:=aQ h
theorem MD{K:List Str}{y:Str}(h:K.Nodup):(gK K y).Nodup:=by
 unfold gK;split
 ·exact h
 ·rename_i q;exact List.nodup_append.mpr ⟨h,by simp,λa af b I e=>q (by rw[<-cQ.mp I, <-e];exact af)⟩
theorem Mm{K:List Str}{x y:Str}:x∈gK K y↔x∈K\/x=y:=by
 unfold gK;split
 ·rename_i q;exact⟨.inl,λh=>h.elim id λe=>e▸q⟩
 ·rw[mem_append,cQ]
noncomputable abbrev iF:=List (Str×Option Str)
noncomputable def i0(T:iF)(x:Str):Int:=((T.filter λz=>z.1==x&&z.2.isSome).length:Nat)
noncomputable def fV(T:iF)(x:Str):List Str:=(T.filter λz=>z.2==some x).map (·.1)
structure ov (N:dS) (K:List Str) (T:iF):Prop where
 eq:N=ed K (i0 T) (fV T)
 nd:K.Nodup
 sub:∀z∈T,z.1∈K/\∀c,z.2=some c->c∈K
theorem MU{T:iF}{x:Str}(h:∀z∈T,z.1≠x):i0 T x=0:=by
 unfold i0;rw[List.filter_eq_nil_iff.mpr λz hz q=>h z hz (eq_of_beq (Bool.and_eq_true_iff.mp q).1)];rfl
theorem M1{T:iF}{x:Str}(h:∀z∈T,z.2≠some x):fV T x=[]:=by
 unfold fV;rw[List.filter_eq_nil_iff.mpr λz hz q=>h z hz (eq_of_beq q)];rfl
theorem ov.one{K:List Str}{T:iF}(bh:ov N K T)(y:Str)(o:Option Str)(aj:∀c,o=some c->c∈K):ov (mI N y o.toList) (gK K y) (T++[(y,o)]):=by
 have av:y∉K->i0 T y=0/\fV T y=[]:=λh=>⟨MU λz hz q=>h (q▸(bh.sub z hz).1),M1 λz hz q=>h ((bh.sub z hz).2 y q)⟩
 have hf:∀x,i0 (T++[(y,o)]) x=if x=y/\o.isSome=true then i0 T x+1 else i0 T x:=λx=>by
  unfold i0;rw[filter_append,length_append,filter_cons];by_cases q:x=y/\o.isSome=true
  ·rw[aQ (by refine aE q λdy bN=>?_;subst dy;walk_at"o"),aQ q,filter_nil];rfl
  ·rw[aI (by intro bN;rw[Bool.and_eq_true,beq_iff_eq] at bN;exact q ⟨bN.1.symm,bN.2⟩),aI q,filter_nil];rfl
 have dj:∀x,fV (T++[(y,o)]) x=if o=some x then fV T x++[y] else fV T x:=λx=>by
  unfold fV;rw[filter_append,map_append,filter_cons];by_cases q:o=some x
  ·rw[aQ (by rw[q];exact beq_self_eq_true _),aQ q,filter_nil];rfl
  ·rw[aI (by rw[beq_iff_eq];exact q),aI q,filter_nil];exact append_nil _
 refine⟨?_,MD bh.nd,λz hz=>?_⟩
 ·rw[bh.eq];induction o with
  |none=>
   show jj (ha _ y) y ((0:Nat):Int)=_;rw[y1 av,y0];refine k0 λx _=>⟨?_,?_⟩
   ·show(if x=y then i0 T x+0 else i0 T x)=_;rw[hf,aI (c:=x=y/\(none:Option Str).isSome=true) (λq=>nomatch q.2)];split<;>walk_at"o"
   ·rw[dj,aI (c:=(none:Option Str)=some x) (λq=>nomatch q)]
  |some c=>
   have U:=aj c rfl;show sd (ha (jj (ha _ y) y ((1:Nat):Int)) c) c y=_;rw[y1 av,y0,y1 (λq=>absurd (oP.1 c U) q),Nb (oP.1 c U),LH];refine k0 λx _=>⟨?_,?_⟩
   ·rw[hf];show(if x=y then i0 T x+1 else i0 T x)=_;by_cases q:x=y
    ·rw[aQ q,aQ ⟨q,rfl⟩]
    ·rw[aI q,aI λbN=>q bN.1]
   ·rw[dj];by_cases q:x=c
    ·subst q;rw[aQ rfl,aQ rfl]
    ·rw[aI q,aI λbN=>q (bT bN).symm]
 ·rcases List.mem_append.mp hz with hz |hz
  ·exact⟨oP.1 _ (bh.sub z hz).1,λc U=>oP.1 c ((bh.sub z hz).2 c U)⟩
  ·rw[cQ.mp hz];exact⟨oP.2,λc U=>oP.1 c (aj c U)⟩
noncomputable def oV(row:List Str)(k:Nat):Str×Option Str:=(row.getD k "",if k=0 then none else some (row.getD (k - 1) ""))
theorem ov.row{K:List Str}{T:iF}(bh:ov N K T){row:List Str}(bc:row.length<=4):∀j,j<=row.length->ov ((range j).foldl (λN k=>mI N (row.getD k "") (oS row k)) N) ((row.take j).foldl gK K) (T++(range j).map (oV row))/\∀x∈row.take j,x∈(row.take j).foldl gK K:=by
 intro a9;induction a9 with
 |zero=>
  intro _;exact⟨by rw[range_zero,map_nil,append_nil];exact bh,λx ag=>absurd ag b8⟩
 |succ j aw=>
  intro h;refine aE (aw (by exact Nat.le_of_succ_le ‹_›)) λab ae=>?_;have ex:row[j]? =some (row.getD j ""):=by rw[c8,cm (by walk_at"o")];rfl
  have sX:row.take (j+1)=row.take j++[row.getD j ""]:=by rw[take_add_one,ex];rfl
  rw[range_succ,foldl_append,foldl_cons,foldl_nil,map_append,map_cons,map_nil, <-append_assoc,sX,foldl_append,foldl_cons,foldl_nil,CN (by exact bH ‹_› rfl) (by walk_at"o")];have:=ab.one (row.getD j "") (oV row j).2 (λc U=>by
   unfold oV at U;dsimp only at U;split at U
   ·injection U
   ·obtain rfl:=bT U;refine ae _ (eP (i:=j - 1) ?_);rw[getElem?_take,aQ (by walk_at"o"),c8,cm (by walk_at"o")];rfl)
  have e:(oV row j).2.toList=if j=0 then [] else [row.getD (j - 1) ""]:=by
   unfold oV;dsimp only;by_cases q:j=0
   ·rw[aQ q,aQ q];rfl
   ·rw[aI q,aI q];rfl
  rw[e] at this;refine⟨this,λx ag=>?_⟩;rcases List.mem_append.mp ag with ag |ag
  ·exact oP.1 x (ae x ag)
  ·rw[cQ.mp ag];exact oP.2
noncomputable def eg(L:List (List Str)):iF:=L.flatMap λrow=>(range row.length).map (oV row)
noncomputable def lY(L:List (List Str)):List Str:=L.foldl (λK row=>row.foldl gK K) []
theorem Dc:∀{L:List (List Str)},(∀l∈L,l.length<=4)->ov (iM L) (lY L) (eg L):=by
 have key:∀(L:List (List Str)) (N:dS) (K:List Str) (T:iF),(∀l∈L,l.length<=4)->ov N K T->ov (L.foldl wm N) (L.foldl (λK row=>row.foldl gK K) K) (T++eg L):=by
  intro L;induction L with
  |nil=>intro N K T _ bh;unfold eg;rw[flatMap_nil,append_nil];exact bh
  |cons row L aw=>
   intro N K T bc bh;have:=(bh.row (bc row cM) row.length (Nat.le_refl _)).1;rw[take_length] at this;replace this:=this;have:=aw _ _ _ (λl ao=>bc l (en _ ao)) this;unfold eg at this ⊢;rw[flatMap_cons, <-append_assoc];exact this
 intro L h;exact key L [] [] [] h ⟨rfl,nodup_nil,λz hz=>absurd hz b8⟩
theorem CX{r:Str->Int}:∀{dH dh:List Str},dH.Pairwise (λa b=>r a < r b)->dh.Pairwise (λa b=>r a < r b)->(∀x,x∈dH↔x∈dh)->dH=dh:=by
 intro dH;induction dH with
 |nil=>
  intro dh _ _ h;rcases dh with _ |⟨b,dh⟩
  ·rfl
  ·exact absurd ((h b).mpr cM) b8
 |cons a dH aw=>
  intro dh bW cc h;rcases dh with _ |⟨b,dh⟩
  ·exact absurd ((h a).mp cM) b8
  refine aE (List.pairwise_cons.mp bW) λa1 a2=>?_;refine aE (List.pairwise_cons.mp cc) λgI i1=>?_;have e:a=b:=by
   rcases bI.mp ((h a).mp cM) with q |q
   ·exact q
   ·rcases bI.mp ((h b).mpr cM) with bN |bN
    ·exact bN.symm
    ·have:=gI a q;have:=a1 b bN;walk_at"o"
  subst e;refine congrArg _ (aw a2 i1 λx=>⟨λag=>?_,λag=>?_⟩)
  ·rcases bI.mp ((h x).mp (en _ ag)) with q |q
   ·subst q;have:=a1 x ag;walk_at"o"
   ·exact q
  ·rcases bI.mp ((h x).mpr (en _ ag)) with q |q
   ·subst q;have:=gI x ag;walk_at"o"
   ·exact q
section
variable {L:List (List Str)} {O:List Str}
theorem mB{c y:Str}:(y,some c)∈eg L↔hS L c y:=by
 unfold eg hS;rw[mem_flatMap];constructor
 ·intro dg;refine ah dg λrow bf h=>?_;refine ah (bA.mp h) λk ar e=>?_;have ar:=List.mem_range.mp ar;unfold oV at e;injection e with ax aC
  by_cases q:k=0
  ·rw[aQ q] at aC;injection aC
  ·rw[aI q] at aC;replace aC:=aC;injection aC with aC
   refine⟨row,bf,row.take (k - 1),row.drop (k+1),?_⟩;have ab:k - 1 < row.length:=by walk_at"o"
   have d1:=drop_eq_getElem_cons ab;have d2:=drop_eq_getElem_cons ar;have g1:row[k - 1]=c:=by rw[<-aC,c8,cm ab];rfl
   have g2:row[k]=y:=by rw[<-ax,c8,cm ar];rfl
   rw[g1,show k - 1+1=k by walk_at"o",d2,g2] at d1;rw[<-d1,take_append_drop]
 ·intro eZ;refine ah eZ λrow bf dq=>?_;refine cn dq λp r e=>?_;refine⟨row,bf,bA.mpr ⟨p.length+1,List.mem_range.mpr (by rw[e];simp),?_⟩⟩;unfold oV;rw[aI (by walk_at"o"),Nat.add_sub_cancel];have g1:row[p.length]? =some c:=by rw[e,getElem?_append_right (Nat.le_refl _),Nat.sub_self];rfl
  have g2:row[p.length+1]? =some y:=by rw[e,getElem?_append_right (by exact Nat.le_add_right _ _),show p.length+1 - p.length=1 by walk_at"o"];rfl
  rw[c8,c8,g1,g2];rfl
theorem KN{x:Str}:∀{row K:List Str},x∈row.foldl gK K↔x∈K\/x∈row:=by
 intro a9;induction a9 with
 |nil=>
  intro K;exact⟨.inl,λh=>h.resolve_right b8⟩
 |cons y row aw=>
  intro K;rw[foldl_cons,aw,Mm,bI];constructor
  ·rintro((h |h) |h)
   ·exact .inl h
   ·exact .inr (.inl h)
   ·exact .inr (.inr h)
  ·rintro(h |h |h)
   ·exact .inl (.inl h)
   ·exact .inl (.inr h)
   ·exact .inr h
theorem CK{x:Str}:∀{L:List (List Str)} {K:List Str},x∈L.foldl (λK row=>row.foldl gK K) K↔x∈K\/eu L x:=by
 intro a9;induction a9 with
 |nil=>
  intro K;exact⟨.inl,λh=>h.resolve_right λPm=>ah Pm λl ao _=>absurd ao b8⟩
 |cons row L aw=>
  intro K;rw[foldl_cons,aw,KN];constructor
  ·rintro((h |h) |⟨l,ao,h⟩)
   ·exact .inl h
   ·exact .inr ⟨row,cM,h⟩
   ·exact .inr ⟨l,en _ ao,h⟩
  ·rintro(h |⟨l,ao,h⟩)
   ·exact .inl (.inl h)
   ·rcases bI.mp ao with rfl |ao
    ·exact .inl (.inr h)
    ·exact .inr ⟨l,ao,h⟩
theorem qm{x:Str}:x∈lY L↔eu L x:=CK.trans ⟨λh=>h.resolve_left b8,.inr⟩
def wG(L:List (List Str))(x:Str):Prop:=∀c,¬hS L c x
theorem yI(F:cq L){l:List Str}{x:Str}(ao:l∈L)(ag:x∈l)(hf:wG L x):x=l.getD 0 "":=by
 refine cn (append_of_mem ag) λp r e=>?_;rcases eq_nil_or_concat p with rfl |⟨p',c,rfl⟩
 ·rw[e];rfl
 ·exact absurd ⟨l,ao,p',r,by rw[e];simp⟩ (hf c)
theorem LM(F:cq L){j:Nat}{x:Str}(aN:j < 5)(ag:x∈cV L j)(hf:wG L x)(kg:∀i,i < j->x∉cV L i):gC L x=j:=by
 refine h7 (F.gC ⟨_,F.at aN,ag⟩) λk e K ar _=>?_;have ab:=yI F (F.at aN) ag hf;have ae:=yI F (F.at K.lt) ar hf;have:cV L k=cV L j:=by rw[<-(F.head (F.at aN)).1, <-(F.head (F.at K.lt)).1, <-ab, <-ae]
 rw[e];rcases Nat.lt_trichotomy k j with q |q |q
 ·exact absurd ar (kg k q)
 ·rw[q]
 ·exact absurd this.symm (K.fst j q)
theorem IV{p:Str->Bool}:∀{row K:List Str},(∀x∈row,p x=false)->(row.foldl gK K).filter p=K.filter p:=by
 intro a9;induction a9 with
 |nil=>
  intro _ _;exact rfl
 |cons y row aw=>
  intro K h;rw[foldl_cons,aw λx ag=>h x (en _ ag)];unfold gK;split
  ·rfl
  ·rw[filter_append,filter_cons,aI (by rw[h y cM];decide)];exact append_nil _
theorem Kp(F:cq L){p:Str->Bool}(aa:∀x,p x=true↔wG L x):((lY L).filter p).Pairwise λa b=>keyOf L a < keyOf L b:=by
 have key:∀j,j<=5->(((L.take j).foldl (λK row=>row.foldl gK K) []).filter p).Pairwise (λa b=>keyOf L a < keyOf L b)/\∀x∈((L.take j).foldl (λK row=>row.foldl gK K) []).filter p,keyOf L x < 10*(j:Int) - 9:=by
  intro j;induction j with
  |zero=>exact λ_=>⟨Pairwise.nil,λx ag=>absurd ag b8⟩
  |succ j aw=>
   intro aN;refine aE (aw (by exact Nat.le_of_succ_le ‹_›)) λab ae=>?_;have kR:j < L.length:=by have:=F.ie;walk_at"o"
   have rD:L.take (j+1)=L.take j++[cV L j]:=by
    rw[take_add_one,cm kR];unfold cV;rw[c8,cm kR];rfl
   have bx:∀x,x∈(L.take j).foldl (λK row=>row.foldl gK K) []↔eu (L.take j) x:=λx=>CK.trans ⟨λh=>h.resolve_left b8,.inr⟩;rw[rD,foldl_append,foldl_cons,foldl_nil];generalize (L.take j).foldl (λK row=>row.foldl gK K) []=K at ab ae bx;have ao:=F.at (L:=L) (k:=j) (by walk_at"o");have h0:=F.len0 _ ao
   match e:cV L j,h0 with
   |h::t,_=>
    have bo:=F.nodup ao;rw[e] at bo ao;replace ao:=ao;have aM:∀x∈t,p x=false:=λx ag=>by
     induction q:p x with
     |false=>rfl
     |true=>
      have:=yI F ao (en _ ag) ((aa x).mp q);have this:x=h:=this;exact absurd (this▸ag) (List.nodup_cons.mp bo).1
    rw[foldl_cons,IV aM];unfold gK;split
    ·exact⟨ab,λx ag=>by have:=ae x ag;walk_at"o"⟩
    ·rename_i kg;rw[filter_append,filter_cons,filter_nil];split
     ·rename_i q;have ar:Mine.gC L h=j:=LM F (j:=j) (by walk_at"o") (by rw[e];exact cM) ((aa h).mp q) λi hi hm=>kg ((bx h).mpr ⟨cV L i,by
       refine eP (i:=i) ?_;rw[getElem?_take,aQ hi];unfold cV;rw[c8,cm (by exact Nat.lt_trans ‹_› ‹_›)];rfl,hm⟩)
      have hd:=F.dx ⟨_,ao,cM⟩;have qQ:keyOf L h=10*(j:Int) - gj h:=by rw[lG,ar]
      refine⟨List.pairwise_append.mpr ⟨ab,pairwise_singleton ..,λa af b I=>?_⟩,λx ag=>?_⟩
      ·rw[cQ.mp I];have:=ae a af;walk_at"o"
      ·rcases List.mem_append.mp ag with ag |ag
       ·have:=ae x ag;walk_at"o"
       ·rw[cQ.mp ag];walk_at"o"
     ·rw[append_nil];exact⟨ab,λx ag=>by have:=ae x ag;walk_at"o"⟩
 have:=(key 5 (Nat.le_refl _)).1;rw[take_of_length_le (by rw[F.ie];exact Nat.le_refl _)] at this;exact this
noncomputable def jX(L:List (List Str))(E:List Str)(z:Str):Bool:=@decide (z∉E/\∀c,hS L c z->c∈E) (Classical.propDecidable _)
theorem qo{E:List Str} :jX L E z=true↔z∉E/\∀c,hS L c z->c∈E:=by unfold jX;exact@d0 _ (Classical.propDecidable _)
noncomputable def i3(T:iF)(E:List Str)(x:Str):Int:=((T.filter λz=>z.1==x&&(z.2.isSome&&decide (z.2.getD ""∉E))).length:Nat)
noncomputable def oE(T:iF)(y x:Str):Int:=((T.filter λz=>z.1==x&&z.2==some y).length:Nat)
theorem Ep{T:iF}{x:Str}:i3 T [] x=i0 T x:=by
 unfold i3 i0;congr 2;refine filter_congr λz _=>?_;rw[el (b8),Bool.and_true]
theorem Ef{E c5:List Str}{x y:Str}(jB:∀z,z∈c5↔z∈E\/z=y)(av:y∉E):∀T:iF,i3 T E x=i3 T c5 x+oE T y x:=by
 intro a9;induction a9 with
 |nil=>
  exact rfl
 |cons hJ T aw=>
  obtain⟨a,o⟩:=hJ;have aw:=aw;unfold i3 oE at aw ⊢;rw[filter_cons,filter_cons,filter_cons];dsimp only;by_cases ab:a=x
  ·rw[beq_iff_eq.mpr ab];induction o with
   |none=>
    exact aw
   |some c=>
    by_cases ae:c=y
    ·subst ae;rw[aQ (by rw[Bool.true_and,Bool.and_eq_true,d0];exact⟨rfl,av⟩),aI (by rw[Bool.true_and,Bool.and_eq_true,d0];exact λq=>q.2 ((jB c).mpr (.inr rfl))),aQ (by rw[Bool.true_and];exact beq_self_eq_true _),dI,dI];walk_at"o"
    ·by_cases aD:c∈E
     ·rw[aI (by rw[Bool.true_and,Bool.and_eq_true,d0];exact λq=>q.2 aD),aI (by rw[Bool.true_and,Bool.and_eq_true,d0];exact λq=>q.2 ((jB c).mpr (.inl aD))),aI (by rw[Bool.true_and,beq_iff_eq];exact λq=>ae (bT q))];exact aw
     ·rw[aQ (by rw[Bool.true_and,Bool.and_eq_true,d0];exact⟨rfl,aD⟩),aQ (by rw[Bool.true_and,Bool.and_eq_true,d0];exact⟨rfl,λq=>((jB c).mp q).elim aD ae⟩),aI (by rw[Bool.true_and,beq_iff_eq];exact λq=>ae (bT q)),dI,dI];walk_at"o"
  ·rw[ey.mpr ab];exact aw
theorem yX{T:iF}{E:List Str}{x:Str}:i3 T E x=0↔∀c,(x,some c)∈T->c∈E:=by
 unfold i3;constructor
 ·intro h c U;have h:(T.filter λz=>z.1==x&&(z.2.isSome&&decide (z.2.getD ""∉E))).length=0:=by walk_at"o"
  have:=List.filter_eq_nil_iff.mp (List.length_eq_zero_iff.mp h) _ U;refine Classical.byContradiction λq=>this ?_;show(x==x&&(true&&decide (c∉E)))=true;rw[beq_self_eq_true,el q];rfl
 ·intro h;rw[List.filter_eq_nil_iff.mpr]
  ·rfl
  ·intro gE hz q;obtain⟨a,o⟩:=gE;rw[Bool.and_eq_true,Bool.and_eq_true,d0] at q;refine cB q λdy bN hq=>?_;induction o with
   |none=>injection bN
   |some c=>
    have dy:a=x:=eq_of_beq dy;subst dy;exact hq (h c hz)
theorem Kg{T:iF}{E:List Str}{x:Str}:0<=i3 T E x:=by unfold i3;exact Int.natCast_nonneg _
end
theorem Jx{K:List Str}{g:Str->List Str}:∀(cW:List Str) (f:Str->Int),kC (ed K f g) cW=ed K (λx=>if x∈cW then -1 else f x) g:=by
 intro a9;induction a9 with
 |nil=>
  intro f;show ed K f g=_;exact k0 λx _=>⟨by show _=if x∈([]:List Str) then -1 else f x;rw[aI b8],rfl⟩
 |cons z cW aw=>
  intro f;show kC (k6 (ed K f g) z (-1)) cW=_;rw[DG,aw];refine k0 λx _=>⟨?_,rfl⟩
  show(if x∈cW then(-1:Int) else if x=z then -1 else f x)=if x∈z::cW then -1 else f x
  by_cases ab:x∈cW
  ·rw[aQ ab,aQ (en _ ab)]
  ·rw[aI ab];by_cases ae:x=z
   ·rw[aQ ae,aQ (ae▸cM)]
   ·rw[aI ae,aI λq=>(bI.mp q).elim ae ab]
theorem K5{K:List Str}{g:Str->List Str}{p:Str}(aa:p∈K):∀(m:Nat) (f:Str->Int) (l:List Str),0<=f p - m->(replicate m p).foldl fF (ed K f g,l)=(ed K (λx=>if x=p then f x - m else f x) g,if 0 < m/\f p - m=0 then l++[p] else l):=by
 intro a9;induction a9 with
 |zero=>
  intro f l _;show(ed K f g,l)=_;rw[aI (λq=>absurd q.1 (Nat.lt_irrefl 0))];congr 1;refine k0 λx _=>⟨?_,rfl⟩
  show f x=if x=p then f x - ((0:Nat):Int) else f x
  split<;>walk_at"o"
 |succ m aw=>
  intro f l h;rw[replicate_succ,foldl_cons];have e:fF (ed K f g,l) p=(ed K (λx=>if x=p then f x+ -1 else f x) g,if f p+ -1=0 then l++[p] else l):=by
   unfold fF;dsimp only;rw[y0,Eu aa,aQ rfl]
  rw[e,aw _ _ (by rw[aQ rfl];walk_at"o")];have ax:(ed K (λx=>if x=p then(if x=p then f x+ -1 else f x) - (m:Int) else if x=p then f x+ -1 else f x) g)=ed K (λx=>if x=p then f x - ((m+1:Nat):Int) else f x) g:=by
   refine k0 λx _=>⟨?_,rfl⟩
   split<;>walk_at"o"
  rw[ax];congr 1;rw[aQ rfl];by_cases q:m=0
  ·subst q;rw[aI (λq=>absurd q.1 (Nat.lt_irrefl 0))];by_cases bN:f p+ -1=0
   ·rw[aQ bN,aQ ⟨by exact Nat.lt_succ_self _,by walk_at"o"⟩]
   ·rw[aI bN,aI (λq=>bN (by have:=q.2;walk_at"o"))]
  ·rw[aI (c:=f p+ -1=0) (by walk_at"o")];by_cases bN:f p+ -1 - (m:Int)=0
   ·rw[aQ ⟨by walk_at"o",bN⟩,aQ ⟨by exact Nat.zero_lt_succ _,by walk_at"o"⟩]
   ·rw[aI (λq=>bN q.2),aI (λq=>bN (by have:=q.2;walk_at"o"))]
section
variable {L:List (List Str)} {O:List Str}
theorem we(F:cq L){c x y:Str}(ab:hS L c x)(ae:hS L c y):x=y:=by
 refine ah ab λl ao aU=>?_;refine cn aU λp r e=>?_;refine ah ae λl' e0 a7=>?_;refine cn a7 λp' r' aO=>?_;have:=(F.up l ao p c _ e).symm.trans (F.up l' e0 p' c _ aO);injection this with _ this
 injection this
theorem nx(F:cq L){c x:Str}(h:hS L c x):keyOf L c < keyOf L x/\eu L c/\eu L x:=by
 refine ah h λl ao bk=>?_;refine cn bk λp r e=>?_;exact⟨F.below ao e cM,⟨l,ao,by rw[e];exact b9 _ (.head _)⟩,⟨l,ao,by rw[e];simp⟩⟩
theorem Nz(F:cq L):(eg L).length<=20:=by
 have key:∀L:List (List Str),(∀l∈L,l.length<=4)->(eg L).length<=4*L.length:=by
  intro L;induction L with
  |nil=>exact λ_=>Nat.le_refl _
  |cons l L aw=>
   intro h;have:=aw λl ao=>h l (en _ ao);have bc:=h l cM;unfold eg at this ⊢;rw[flatMap_cons,length_append,bO,length_range,dI];walk_at"o"
 have:=key L F.k9;rw[F.ie] at this;exact this
theorem r1{T:iF}{y:Str}:z∈fV T y↔(z,some y)∈T:=by
 unfold fV;rw[bA];constructor
 ·intro dg;refine ah dg λdq h e2=>?_;obtain⟨a,o⟩:=dq;subst e2;refine aE (List.mem_filter.mp h) λab ae=>?_;have ae:o=some y:=eq_of_beq ae;subst ae;exact ab
 ·intro h;exact⟨_,List.mem_filter.mpr ⟨h,beq_self_eq_true _⟩,rfl⟩
theorem N5{T:iF}{y p:Str}(h:∀z∈fV T y,z=p):oE T y p=(fV T y).length:=by
 unfold oE fV;rw[bO];congr 2;refine filter_congr λz hz=>?_;induction q:z.2==some y with
 |false=>rw[Bool.and_false]
 |true=>
  have:z.1=p:=h z.1 (fO (List.mem_filter.mpr ⟨hz,q⟩));rw[beq_iff_eq.mpr this];rfl
theorem D2{T:iF}{y x:Str}(h:(x,some y)∉T):oE T y x=0:=by
 unfold oE;rw[List.filter_eq_nil_iff.mpr]
 ·rfl
 ·intro eZ hz q;obtain⟨a,o⟩:=eZ;refine aE (Bool.and_eq_true_iff.mp q) λdy bN=>?_;have dy:a=x:=eq_of_beq dy;have bN:o=some y:=eq_of_beq bN;subst dy bN;exact h hz
noncomputable def hY(L:List (List Str))(E q:List Str):dS:=ed (lY L) (λx=>if x∈E then -2 else if x∈q then -1 else i3 (eg L) E x) (fV (eg L))
theorem L6(F:cq L)(D:iH L O){j:Nat}{y:Str}(aN:O[j]? =some y){cW q S:List Str}(jD:cW++q=y::S)(ri:y::S=O.filter (jX L (O.take j))):
  kC (hY L (O.take j) q) cW=hY L (O.take j) (y::S)/\∃mV,jM (hY L (O.take j) (y::S)) [] y=(hY L (O.take (j+1)) S,mV)/\mV++S=O.filter (jX L (O.take (j+1))):=by
 have av:eu L y:=(D.mem y).mp (eP aN);have uI:y∈lY L:=qm.mpr av;have jB:∀z,z∈O.take (j+1)↔z∈O.take j\/z=y:=λz=>D.take_succ aN;have nS:y∉O.take j:=λh=>by have:=(D.ky aN av).mp h;walk_at"o"
 have ES:(y::S).Pairwise λa b=>keyOf L a < keyOf L b:=by rw[ri];exact D.asc.filter _
 have iq:∀z,z∈y::S↔eu L z/\z∉O.take j/\∀c,hS L c z->c∈O.take j:=λz=>by
  rw[ri,mem_filter,D.mem,qo]
 have TV:y∉S:=λh=>by have:=(List.pairwise_cons.mp ES).1 y h;walk_at"o"
 refine⟨?_,?_⟩
 ·unfold hY;rw[Jx];refine k0 λx _=>⟨?_,rfl⟩
  by_cases ab:x∈cW
  ·have ae:x∈y::S:=jD▸b6 _ ab;rw[aQ ab,aI ((iq x).mp ae).2.1,aQ ae]
  ·rw[aI ab];by_cases h0:x∈O.take j
   ·rw[aQ h0,aQ h0]
   ·rw[aI h0,aI h0];by_cases ae:x∈q
    ·rw[aQ ae,aQ (jD▸b9 _ ae)]
    ·rw[aI ae,aI (c:=x∈y::S) (λh=>(List.mem_append.mp (jD▸h:x∈cW++q)).elim ab ae)]
 ·
  have dN:jM (hY L (O.take j) (y::S)) [] y=(fV (eg L) y).foldl fF (ed (lY L) (λx=>if x=y then -2 else if x∈O.take j then -2 else if x∈y::S then -1 else i3 (eg L) (O.take j) x) (fV (eg L)),[]):=by
   unfold jM hY;rw[Ez uI,DG]
  have rv:∀f:Str->Int,(∀x∈lY L,f x=(if x=y then -2 else if x∈O.take j then -2 else if x∈y::S then -1 else i3 (eg L) (O.take j) x - oE (eg L) y x))->ed (lY L) f (fV (eg L))=hY L (O.take (j+1)) S:=λf hf=>by
   unfold hY;refine k0 λx ag=>⟨?_,rfl⟩
   rw[hf x ag];by_cases ab:x=y
   ·rw[aQ ab,aQ ((jB x).mpr (.inr ab))]
   ·rw[aI ab];by_cases ae:x∈O.take j
    ·rw[aQ ae,aQ ((jB x).mpr (.inl ae))]
    ·rw[aI ae,aI (c:=x∈O.take (j+1)) (λq=>((jB x).mp q).elim ae ab)];by_cases aD:x∈S
     ·rw[aQ (en _ aD),aQ aD]
     ·rw[aI (λq=>(bI.mp q).elim ab aD),aI aD,Ef jB nS];walk_at"o"
  have pg:S.Pairwise λa b=>keyOf L a < keyOf L b:=(List.pairwise_cons.mp ES).2;have Gb:∀z,z∈S↔eu L z/\z≠y/\z∉O.take j/\∀c,hS L c z->c∈O.take j:=λz=>by
   constructor
   ·intro h;refine cB ((iq z).mp (en _ h)) λab ae aD=>?_;exact⟨ab,λq=>TV (q▸h),ae,aD⟩
   ·intro gE;refine eK gE λab ae aD bc=>?_;exact(bI.mp ((iq z).mpr ⟨ab,aD,bc⟩)).resolve_left ae
  have wQ:∀mV,(mV=[]/\(∀p,hS L y p->¬∀c,hS L c p->c∈O.take (j+1))\/∃p,mV=[p]/\hS L y p/\∀c,hS L c p->c∈O.take (j+1))->mV++S=O.filter (jX L (O.take (j+1))):=by
   intro mV h;have hm:∀z,z∈mV++S↔z∈O.filter (jX L (O.take (j+1))):=λz=>by
    rw[mem_filter,D.mem,qo,mem_append,Gb];constructor
    ·rintro(hz |⟨ab,ae,aD,bc⟩)
     ·rcases h with⟨rfl,_⟩ |⟨p,rfl,aa,mP⟩
      ·exact absurd hz b8
      ·rw[cQ.mp hz];have ar:=nx F aa;refine⟨ar.2.2,λq=>?_,mP⟩;rcases(jB p).mp q with q |q
       ·have:=(D.ky aN ar.2.2).mp q;have:=ar.1;walk_at"o"
       ·have:=ar.1;rw[q] at this;walk_at"o"
     ·exact⟨ab,λq=>((jB z).mp q).elim aD ae,λc U=>(jB c).mpr (.inl (bc c U))⟩
    ·intro h9;refine cB h9 λab ae aD=>?_;have wZ:z∉O.take j:=λq=>ae ((jB z).mpr (.inl q));have nZ:z≠y:=λq=>ae ((jB z).mpr (.inr q));by_cases ar:hS L y z
     ·rcases h with⟨_,hT⟩ |⟨p,rfl,aa,_⟩
      ·exact absurd aD (hT z ar)
      ·exact .inl (cQ.mpr (we F ar aa))
     ·exact .inr ⟨ab,nZ,wZ,λc U=>((jB c).mp (aD c U)).resolve_right λq=>ar (q▸U)⟩
   refine CX (r:=keyOf L) ?_ (D.asc.filter _) hm;rcases h with⟨rfl,_⟩ |⟨p,rfl,aa,mP⟩
   ·exact pg
   ·refine List.pairwise_cons.mpr ⟨λb I=>?_,pg⟩;refine cB (nx F aa) λar _ sU=>?_;refine eK ((Gb b).mp I) λGf Tj RB RG=>?_;have F9:p∉O.take (j+1):=(qo.mp (List.mem_filter.mp ((hm p).mp (b6 _ (cQ.mpr rfl)))).2).1;have TY:b≠p:=λq=>nS (RG y (q▸aa));have Rl:b∉O.take (j+1):=λq=>((jB b).mp q).elim RB Tj;have Q1:j+1 < O.length:=by
     refine Nat.lt_of_not_le λq=>F9 ?_;rw[take_of_length_le q];exact(D.mem p).mpr sU
    have uS:O[j+1]? =some O[j+1]:=cm Q1;generalize O[j+1]=x3 at uS;have sF:eu L x3:=(D.mem x3).mp (eP uS);have ep:p=x3:=Classical.byContradiction λbY=>by
     refine FZ (F.Hv sF sU bY (Int.not_lt.mp λq=>F9 ((D.ky uS sU).mpr q)) λc U=>(D.ky uS (nx F U).2.1).mp (mP c U)) λk _ _ _ _ K x5 _=>?_;refine ah aa λl ao bz=>?_;refine cn bz λu r e=>?_;have mg:=F.up l ao (u++[y]) p r (by rw[e,append_assoc];rfl);refine K.low l ao ?_;rw[x5,mg,e];show p∈(u++y::p::r).drop 1;induction u with
     |nil=>exact cM
     |cons w u=>exact b9 _ (en _ cM)
    have hle:¬keyOf L b < keyOf L x3:=λq=>Rl ((D.ky uS Gf).mpr q);rw[ep];rcases Int.lt_or_eq_of_le (Int.not_lt.mp hle) with q |q
    ·exact q
    ·exact absurd (F.z9 sF Gf q).symm (ep▸TY)
  induction vw:fV (eg L) y with
  |nil=>
   refine⟨[],?_,wQ [] (.inl ⟨rfl,λp aa=>?_⟩)⟩
   ·rw[dN,vw];show(ed _ _ _,_)=_;congr 1;refine rv _ λx _=>?_;have:oE (eg L) y x=0:=D2 λh=>by
     have:=r1.mpr h;rw[vw] at this;exact absurd this b8
    rw[this,Int.sub_zero]
   ·have:=r1.mpr (mB.mpr aa);rw[vw] at this;exact absurd this b8
  |cons p t=>
   have aa:hS L y p:=mB.mp (r1.mp (by rw[vw];exact cM));have mP:∀z∈fV (eg L) y,z=p:=λz hz=>we F (mB.mp (r1.mp hz)) aa;have F2:fV (eg L) y=replicate (fV (eg L) y).length p:=List.eq_replicate_iff.mpr ⟨rfl,mP⟩;have hm:=N5 mP;have Gv:0 < (fV (eg L) y).length:=by rw[vw,dI];exact Nat.zero_lt_succ _
   generalize (fV (eg L) y).length=m at F2 hm Gv;refine cB (nx F aa) λar _ sU=>?_;have A2:p≠y:=λq=>by rw[q] at ar;walk_at"o"
   have Ao:p∉O.take j:=λq=>by have:=(D.ky aN sU).mp q;walk_at"o"
   have Bl:p∉y::S:=λq=>nS (((iq p).mp q).2.2 y aa);have oZ:=Ef (x:=p) jB nS (eg L);have Ba:=Kg (T:=eg L) (E:=O.take (j+1)) (x:=p);have hf:(if p=y then(-2:Int) else if p∈O.take j then -2 else if p∈y::S then -1 else i3 (eg L) (O.take j) p)=i3 (eg L) (O.take j) p:=by
    rw[aI A2,aI Ao,aI Bl]
   have iW:=K5 (g:=fV (eg L)) (qm.mpr sU) m (λx=>if x=y then(-2:Int) else if x∈O.take j then -2 else if x∈y::S then -1 else i3 (eg L) (O.take j) x) [] (by rw[hf];walk_at"o");rw[hf] at iW;refine⟨if 0 < m/\i3 (eg L) (O.take j) p - m=0 then [p] else [],?_,wQ _ ?_⟩
   ·rw[dN,F2,iW];congr 1;refine rv _ λx _=>?_;by_cases q:x=p
    ·subst q;rw[aQ rfl,aI A2,aI Ao,aI Bl,aI A2,aI Ao,aI Bl,hm]
    ·have:oE (eg L) y x=0:=D2 λh=>q (we F (mB.mp h) aa);rw[aI q,this,Int.sub_zero]
   ·by_cases q:i3 (eg L) (O.take j) p - m=0
    ·rw[aQ ⟨Gv,q⟩];refine .inr ⟨p,rfl,aa,λc U=>?_⟩;exact yX.mp (by walk_at"o") c (mB.mpr U)
    ·rw[aI λh=>q h.2];refine .inl ⟨rfl,λp' fS h=>q ?_⟩;rw[we F fS aa] at h;have:=yX.mpr λc U=>h c (mB.mp U);walk_at"o"
theorem N1(F:cq L)(D:iH L O)(dD:O.length<=20):∃fuel,runN fuel (iM L) (((iM L).filter λz=>z.2.1==0).map (·.1)) [] 0 0 []=some O:=by
 have key:∀n j cW q po da,j+n=O.length->cW++q=O.filter (jX L (O.take j))->po - da=((q.length:Nat):Int)->runN (n+1) (hY L (O.take j) q) cW q po da (O.take j)=some O:=by
  intro n;induction n with
  |zero=>
   intro j cW q po da aN jD lU;have:O.filter (jX L (O.take j))=[]:=List.filter_eq_nil_iff.mpr λz hz h=>(qo.mp h).1 (by rw[take_of_length_le (by walk_at"o")];exact hz);rw[this] at jD;refine aE (List.append_eq_nil_iff.mp jD) λb7 cC=>?_;subst b7;subst cC;unfold runN;rw[decide_eq_false (by have:po - da=0:=lU;walk_at"o"),take_of_length_le (by walk_at"o")];rfl
  |succ n aw=>
   intro j cW q po da aN jD lU;obtain⟨y,av⟩:∃y,O[j]? =some y:=⟨_,cm (by walk_at"o")⟩
   have GW:=(D.mem y).mp (eP av);have nS:y∉O.take j:=λh=>by have:=(D.ky av GW).mp h;walk_at"o"
   obtain⟨cu,rz⟩:=List.getElem?_eq_some_iff.mp av;have ri:O.filter (jX L (O.take j))=y::(O.drop (j+1)).filter (jX L (O.take j)):=by
    have e:O=O.take j++y::O.drop (j+1):=by rw[<-rz, <-drop_eq_getElem_cons cu,take_append_drop]
    have ab:(O.take j++y::O.drop (j+1)).filter (jX L (O.take j))=y::(O.drop (j+1)).filter (jX L (O.take j)):=by
     rw[filter_append,List.filter_eq_nil_iff.mpr λz hz h=>(qo.mp h).1 hz,filter_cons,aQ (qo.mpr ⟨nS,λc U=>(D.ky av (nx F U).2.1).mpr (nx F U).1⟩)];rfl
    rwa [<-e] at ab
   generalize (O.drop (j+1)).filter (jX L (O.take j))=S at ri;induction S using jf;rename_i S
   have Az:=jD.trans ri;obtain⟨wY,mV,kN,pg⟩:=L6 F D av Az ri.symm;have hlen:cW.length+q.length=S.length+1:=by have:=congrArg List.length Az;rw[length_append,dI] at this;exact this
   have VD:S.length < O.length:=by
    have:=length_filter_le (jX L (O.take j)) O;rw[ri,dI] at this;walk_at"o"
   have OW:(decide (da < po)|| !cW.isEmpty)=true:=by
    induction cW with
    |nil=>
     rw[length_nil] at hlen;rw[el (by walk_at"o")];rfl
    |cons a t=>rw[Bool.or_comm];rfl
   have uI:y∈lY L:=qm.mpr GW;have e1:okN (hY L (O.take j) q) cW q (O.take j) y=true:=by
    unfold okN;rw[wY];have a1:oa (hY L (O.take j) (y::S)) y= -1:=by
     unfold hY;rw[Eu uI,aI nS,aQ cM]
    have a2:nJ (hY L (O.take j) (y::S)) y=true:=yT uI;have dF:cW.all (nJ (hY L (O.take j) q))=true:=List.all_eq_true.mpr λx ag=>yT (qm.mpr ((D.mem x).mp (List.mem_filter.mp (jD▸b6 q ag)).1));have fh:mS (hY L (O.take j) (y::S)) y=fV (eg L) y:=by unfold hY;rw[Ez uI]
    have kT:(fV (eg L) y).all (nJ (hY L (O.take j) (y::S)))=true:=List.all_eq_true.mpr λx ag=>yT (qm.mpr (nx F (mB.mp (r1.mp ag))).2.2);have pR:(fV (eg L) y).length<=20:=by
     unfold fV;rw[bO];exact Nat.le_trans (length_filter_le _ _) (Nz F)
    rw[a1,a2,dF,fh,kT,el ⟨by exact bH ‹_› rfl,by rw[length_append];walk_at"o",by rw[length_take];walk_at"o"⟩];rfl
   unfold runN;rw[OW,aQ rfl,Az];dsimp only;rw[e1,aQ rfl,wY,kN];have:=aw (j+1) mV S (po+cW.length) (da+1) (by walk_at"o") pg (by walk_at"o");have sX:O.take j++[y]=O.take (j+1):=by rw[take_add_one,av];rfl
   rw[sX];exact this
 have bh:=Dc (L:=L) F.k9;have dN:hY L (O.take 0) []=iM L:=by
  rw[bh.eq];unfold hY;refine k0 λx _=>⟨?_,rfl⟩
  rw[take_zero,aI b8,aI b8,Ep]
 have ax:((iM L).filter λz=>z.2.1==0).map (·.1)=(lY L).filter λx=>i0 (eg L) x==0:=by
  rw[bh.eq];unfold ed;rw[List.filter_map,dW];exact List.map_id _
 have aa:∀x,(i0 (eg L) x==0)=true↔wG L x:=λx=>by
  rw[beq_iff_eq, <-Ep,yX];exact⟨λh c U=>absurd (h c (mB.mpr U)) b8,λh c U=>absurd (mB.mp U) (h c)⟩
 have aC:(lY L).filter (λx=>i0 (eg L) x==0)=O.filter (jX L (O.take 0)):=by
  refine CX (r:=keyOf L) (Kp F aa) (D.asc.filter _) λx=>?_;rw[mem_filter,mem_filter,qm,D.mem,aa,qo,take_zero];exact⟨λPd=>aE Pd λab ae=>⟨ab,b8,λc U=>absurd U (ae c)⟩,λRh=>cB Rh λab _ aD=>⟨ab,λc U=>absurd (aD c U) b8⟩⟩
 refine⟨O.length+1,?_⟩;have:=key O.length 0 _ [] 0 0 (by walk_at"o") ((append_nil _).trans (ax.trans aC)) rfl;rw[dN] at this;exact this
theorem M9(F:cq L):∃rk:Str->Nat,∀z∈iM L,∀x∈z.2.2,x∈(iM L).map (·.1)/\rk x < rk z.1:=by
 have bh:=Dc (L:=L) F.k9;refine⟨λx=>(gj x).toNat,λz hz x ag=>?_⟩;rw[bh.eq] at hz ⊢;rw[DV];refine ah (bA.mp hz) λy av c2=>?_;subst c2;have ar:hS L y x:=mB.mp (r1.mp ag);refine⟨qm.mpr (nx F ar).2.2,?_⟩;refine ah ar λl ao c1=>?_;refine cn c1 λp r e=>?_;have:=F.dot l ao p y x r e;have:=F.HI l ao x (by rw[e];simp);show(gj x).toNat < (gj y).toNat;walk_at"o"
end
noncomputable def pr(x:Str):Str:=(kW x).getD 1 ""
theorem LK{α:Type}{K:List Str}{v:Str->α}{y:Str}:y∈K->(K.map λx=>(x,v x)).lookup y=some (v y):=by
 induction K with
 |nil=>exact λh=>absurd h b8
 |cons x K aw=>
  intro h;rw[map_cons,di];by_cases q:y=x
  ·subst q;rw[beq_self_eq_true]
  ·rw[ey.mpr q];exact aw ((bI.mp h).resolve_left q)
section
variable {L:List (List Str)} {O:List Str}
theorem qw(F:cq L){l p r:List Str}{x:Str}(ao:l∈L)(e:l=p++x::r):pr x=r.getD 0 "":=by
 unfold pr;rw[F.up l ao p x r e];rfl
theorem wk(F:cq L){c x:Str}(U:eu L c)(ag:x≠""):pr c=x↔hS L c x:=by
 constructor
 ·intro h;refine ah U λl ao et=>?_;refine cn (append_of_mem et) λp r e=>?_;rw[qw F ao e] at h;replace h:=h;induction r with
  |nil=>exact absurd h.symm ag
  |cons y r=>
   have h:y=x:=h;exact⟨l,ao,p,r,by rw[e,h]⟩
 ·intro dg;refine ah dg λl ao dq=>?_;refine cn dq λp r e=>?_;rw[qw F ao e];rfl
theorem yO(F:cq L){x:Str}(ag:eu L x):(jI L).lookup x=some (pr x):=by
 have step:∀l∈L,∀j,j<=l.length->∀kv:List (Str×Str),(∀x v,kv.lookup x=some v->v=pr x)->(∀x v,((range j).foldl (ku l) kv).lookup x=some v->v=pr x)/\(∀x,(kv.lookup x).isSome=true->(((range j).foldl (ku l) kv).lookup x).isSome=true)/\∀x∈l.take j,(((range j).foldl (ku l) kv).lookup x).isSome=true:=by
  intro l ao j;induction j with
  |zero=>exact λ_ kv h=>⟨h,λ_ h=>h,λx ag=>absurd ag b8⟩
  |succ j aw=>
   intro aN kv h;refine cB (aw (by exact Nat.le_of_succ_le ‹_›) kv h) λab ae aD=>?_;rw[range_succ,foldl_append,foldl_cons,foldl_nil];generalize (range j).foldl (ku l) kv=q0 at ab ae aD;have cu:j < l.length:=aN;have ex:l.getD j ""=l[j]:=by rw[c8,cm cu];rfl
   have e:l=l.take j++l[j]::l.drop (j+1):=by rw[<-drop_eq_getElem_cons cu,take_append_drop]
   have ep:(l++[("":Str)]).getD (j+1) ""=pr l[j]:=by
    rw[qw F ao e,c8,c8,getElem?_drop];by_cases q:j+1 < l.length
    ·rw[getElem?_append_left q]
    ·rw[getElem?_append_right (by walk_at"o"),getElem?_eq_none (l:=l) (by walk_at"o"),show j+1 - l.length=0 by walk_at"o"];rfl
   unfold ku;rw[ex,ep];refine⟨λx v aq=>?_,λx ag=>?_,λx ag=>?_⟩
   ·rw[jE] at aq;replace aq:=aq;split at aq
    ·rename_i q;obtain rfl:=bT aq;rw[q]
    ·exact ab x v aq
   ·rw[jE];split
    ·rfl
    ·exact ae x ag
   ·rw[jE];split
    ·rfl
    ·rename_i q;rw[take_add_one,cm cu,mem_append] at ag;exact aD x (ag.resolve_right λh=>q (cQ.mp h))
 have rows:∀(ls:List (List Str)),(∀l∈ls,l∈L)->∀kv:List (Str×Str),(∀x v,kv.lookup x=some v->v=pr x)->(∀x v,(ls.foldl mx kv).lookup x=some v->v=pr x)/\(∀x,(kv.lookup x).isSome=true->((ls.foldl mx kv).lookup x).isSome=true)/\∀l∈ls,∀x∈l,((ls.foldl mx kv).lookup x).isSome=true:=by
  intro ls;induction ls with
  |nil=>exact λ_ kv h=>⟨h,λ_ h=>h,λl ao=>absurd ao b8⟩
  |cons l ls aw=>
   intro He kv h;refine cB (step l (He l cM) l.length (Nat.le_refl _) kv h) λab ae aD=>?_;rw[take_length] at aD;refine cB (aw (λl ao=>He l (en _ ao)) _ ab) λg1 g2 g3=>?_;refine⟨g1,λx ag=>g2 x (ae x ag),λl' e0 x ag=>?_⟩;rcases bI.mp e0 with rfl |e0
   ·exact g2 x (aD x ag)
   ·exact g3 l' e0 x ag
 refine ah ag λl ao iY=>?_;refine cB (rows L (λ_ h=>h) [] (λ_ _ h=>nomatch h)) λab _ aD=>?_;refine aP (Option.isSome_iff_exists.mp (aD l ao x iY)) λv aq=>?_;have jr:(jI L).lookup x=some v:=aq;rw[jr,ab x v aq]
theorem Dw(F:cq L)(D:iH L O)(j:Nat)(name:Str)(h:(O++[("":Str)])[j]? =some name)(one:Str)(ab:one∈O)(ae:pr one=name):one∈(O++[("":Str)]).take j:=by
 by_cases aN:j < O.length
 ·rw[getElem?_append_left aN] at h;replace h:=h;have aA:=(D.mem name).mp (eP h);have aj:=(D.mem one).mp ab;have bY:name≠"":=by refine ah aA λl ao ag=>?_;exact F.ne l ao _ ag
  rw[take_append_of_le_length (Nat.le_of_lt aN)];exact(D.ky h aj).mpr (nx F ((wk F aj bY).mp ae)).1
 ·rw[take_append,take_of_length_le (by walk_at"o")];exact b6 _ ab
theorem JR{y:Str}:∀(ns:List Str) (t:List (Str×Int)),y∉ns->(ns.foldl (gP O cK above heads) t).lookup y=t.lookup y:=by
 intro a9;induction a9 with
 |nil=>
  intro _ _;exact rfl
 |cons n ns aw=>
  intro t h;rw[foldl_cons,aw _ λq=>h (en _ q)];have aA:y≠n:=λq=>h (q▸cM);unfold gP;split
  ·rw[jE,aI aA,jE,aI aA]
  ·rw[jE,aI aA]
noncomputable def ik(O:List Str)(cK:List (Str×Int))(L:List (List Str))(x:Str):Int:=(((O++[("":Str)]).foldl (gP O cK (jI L) (L.map λl=>l.getD 0 "")) []).lookup x).getD 0
noncomputable def Pv(cK:List (Str×Int))(x:Str):Int:=(cK.lookup x).getD 0
noncomputable def sB(O:List Str)(f:Str->Int)(x:Str):Int:=((O.filter λone=>decide (pr one=x)).map f).sum
theorem EO(F:cq L)(D:iH L O)(cK:List (Str×Int)){j:Nat}{x:Str}(h:(O++[("":Str)])[j]? =some x):
  ik O cK L x=if(L.map λl=>l.getD 0 "").any (· ==x)||(x != ""&&decide (Pv cK x < sB O (ik O cK L) x)) then Pv cK x else sB O (ik O cK L) x:=by
 have hT:("":Str)∉O:=λq=>by refine ah ((D.mem _).mp q) λl ao ag=>?_;exact F.ne l ao _ ag rfl
 have bo:(O++[("":Str)]).Nodup:=List.nodup_append.mpr ⟨D.nd,by decide,λa af b I e=>hT (by rw[<-cQ.mp I, <-e];exact af)⟩;obtain⟨cu,ex⟩:=List.getElem?_eq_some_iff.mp h;generalize tb:O++[("":Str)]=W at*;have e:W=W.take j++x::W.drop (j+1):=by rw[<-ex, <-drop_eq_getElem_cons cu,take_append_drop]
 have ag:x∉W.drop (j+1):=λq=>by
  have aA:=bo;rw[e] at aA;exact(List.nodup_cons.mp (List.nodup_append.mp aA).2.1).1 q
 have mn:∀y,y∉W.drop (j+1)->(ik O cK L y)=((gP O cK (jI L) (L.map λl=>l.getD 0 "") ((W.take j).foldl (gP O cK (jI L) (L.map λl=>l.getD 0 "")) []) x).lookup y).getD 0:=λy av=>by
  unfold ik;rw[tb]
  conv=>lhs;rw[e]
  rw[foldl_append,foldl_cons,JR _ _ av]
 generalize (W.take j).foldl (gP O cK (jI L) (L.map λl=>l.getD 0 "")) []=t at mn;have jD:nr O (jI L) t x=sB O (ik O cK L) x:=by
  unfold nr sB;have ax:(O.filter λone=>((jI L).lookup one).getD ""==x)=O.filter λone=>decide (pr one=x):=filter_congr λone aj=>by
   rw[yO F ((D.mem one).mp aj),Bool.eq_iff_iff,beq_iff_eq,d0];rfl
  rw[ax];congr 1;refine map_congr_left λone aj=>?_;refine aE (List.mem_filter.mp aj) λpG Al=>?_;have I:=Dw F D j x (by rw[tb];exact h) one pG (ee Al);rw[tb] at I;replace I:=I;have pk:one≠x:=λq=>by
   have aA:=bo;rw[e] at aA;exact(List.nodup_append.mp aA).2.2 one I x cM q
  have wN:one∉W.drop (j+1):=λq=>by
   have aA:=bo;rw[e] at aA;exact(List.nodup_append.mp aA).2.2 one I one (en _ q) rfl
  rw[mn one wN];unfold gP;split
  ·rw[jE,aI pk,jE,aI pk]
  ·rw[jE,aI pk]
 rw[mn x ag];unfold gP;rw[jD];show((if(L.map λl=>l.getD 0 "").any (· ==x)||(x != ""&&decide (Pv cK x < sB O (ik O cK L) x)) then _ else _:List (Str×Int)).lookup x).getD 0=_;split
 ·rw[jE,aQ rfl];rfl
 ·rw[jE,aQ rfl];rfl
theorem NK{f g:Str->Int}:∀{B:List Str},(∀x∈B,f x<=g x)->(B.map f).sum<=(B.map g).sum:=by
 intro a9;induction a9 with
 |nil=>
  intro _;exact Int.le_refl _
 |cons b B aw=>
  intro h;have ab:=aw λx ag=>h x (en _ ag);have ae:=h b cM;rw[map_cons,map_cons,sum_cons,sum_cons];walk_at"o"
theorem NM{c:Int}{q:Str->Bool}{f:Str->Int}:∀{B:List Str},(B.map λx=>f x+if q x=true then c else 0).sum=(B.map f).sum+c*(B.filter q).length:=by
 intro a9;induction a9 with
 |nil=>
  simp
 |cons b B aw=>
  have aw:=aw;rw[map_cons,map_cons,sum_cons,sum_cons,aw,filter_cons];split
  ·rw[dI,Int.natCast_add,Int.mul_add];walk_at"o"
  ·walk_at"o"
theorem Kh(F:cq L)(D:iH L O){l:List Str}{x:Str}(ao:l∈L)(ag:x≠l.getD 0 ""):(((O.filter λone=>decide (pr one=x)).filter λone=>decide (one∈l)).length:Int)=if decide (x∈l++[("":Str)])=true then 1 else 0:=by
 have bo:((O.filter λone=>decide (pr one=x)).filter λone=>decide (one∈l)).Nodup:=(D.nd.filter _).filter _;have hm:∀z,z∈(O.filter λone=>decide (pr one=x)).filter (λone=>decide (one∈l))↔z∈l/\pr z=x:=λz=>by
  rw[mem_filter,mem_filter,d0,d0,D.mem];exact⟨λPY=>aE PY λQW aD=>aE QW λ_ ae=>⟨aD,ae⟩,λRf=>aE Rf λab ae=>⟨⟨⟨l,ao,ab⟩,ae⟩,ab⟩⟩
 generalize (O.filter λone=>decide (pr one=x)).filter (λone=>decide (one∈l))=B at bo hm;induction B using jf;rename_i B
 have one:∀c,(∀z,z∈B↔z=c)->B.length=1:=λc h=>by
  match B,bo,h with
  |[],_,h=>exact absurd ((h c).mpr rfl) b8
  |[_],_,_=>rfl
  |a::b::r,bo,h=>
   have ab:=(h a).mp cM;have ae:=(h b).mp (en _ cM);exact absurd (by rw[ab,ae];exact cM) (List.nodup_cons.mp bo).1
 by_cases ab:x∈l
 ·rw[aQ (el (b6 _ ab))];refine cn (append_of_mem ab) λp r e=>?_;rcases eq_nil_or_concat p with rfl |⟨p',c,rfl⟩
  ·exact absurd (by rw[e];rfl) ag
  ·have aC:l=p'++c::x::r:=by rw[e];simp
   have et:c∈l:=by rw[aC];exact b9 _ (.head _)
   rw[one c λz=>?_]
   ·rfl
   ·rw[hm];constructor
    ·intro eZ;refine aE eZ λhz aa=>?_;refine ah ((wk F ⟨l,ao,hz⟩ (F.ne l ao x ab)).mp aa) λl' e0 aU=>?_;refine cn aU λcc e3 a8=>?_;have d1:=F.dot l ao _ _ _ _ aC;have d2:=F.dot l' e0 _ _ _ _ a8;exact F.same ao hz et (by walk_at"o")
    ·rintro rfl;exact⟨et,by rw[qw F ao aC];rfl⟩
 ·by_cases ae:x=""
  ·subst ae;rw[aQ (el (b9 _ (cQ.mpr rfl)))];have bY:l≠[]:=List.length_pos_iff.mp (F.len0 l ao);rw[one (l.getLast bY) λz=>?_]
   ·rfl
   ·rw[hm];have e:=(dropLast_concat_getLast bY).symm;constructor
    ·intro gE;refine aE gE λhz aa=>?_;refine cn (append_of_mem hz) λp r aC=>?_;rw[qw F ao aC] at aa;induction r with
     |nil=>simp[aC]
     |cons y r=>exact absurd aa (F.ne l ao y (by rw[aC];simp))
    ·rintro rfl;exact⟨getLast_mem bY,by rw[qw F ao e];rfl⟩
  ·rw[aI (by rw[d0,mem_append,cQ];exact λq=>q.elim ab ae)];have:B=[]:=List.eq_nil_iff_forall_not_mem.mpr λz hz=>by
    refine aE ((hm z).mp hz) λhz aa=>?_;refine ah ((wk F ⟨l,ao,hz⟩ ae).mp aa) λl' e0 a7=>?_;refine cn a7 λcc e3 a8=>?_;exact ab (F.zD ao hz (by rw[F.up l' e0 _ _ _ a8];exact .tail _ (.head _)))
   rw[this];rfl
end
section
variable {L:List (List Str)} {O:List Str}
noncomputable def om(fits:List (List Str))(kv:List (Str×Int))(j:Nat)(x:Str):Int:=((layAt fits kv j).2.lookup x).getD 0
noncomputable def oC(fits:List (List Str))(kv:List (Str×Int))(j:Nat):Int:=qs (layAt fits kv j).2 (fits.getD j [])
noncomputable def hp(fits:List (List Str))(kv:List (Str×Int)):Nat->Str->Int
 |0,_=>0
 |j+1,x=>hp fits kv j x+if decide (x∈fits.getD j [])=true then oC fits kv j else 0
theorem yY{fits:List (List Str)}{kv:List (Str×Int)}{j:Nat}{x:Str}(ag:x∈ks kv):om fits kv (j+1) x=om fits kv j x - if decide (x∈fits.getD j [])=true then oC fits kv j else 0:=by
 show(((mD (layAt fits kv j).2 (fits.getD j [])).lookup x).getD 0)=_;unfold mD;rw[LK (by rw[DH];exact ag)];show(if((fits.getD j []).any (· ==x))=true then om fits kv j x - oC fits kv j else om fits kv j x)=_;by_cases h:x∈fits.getD j []
 ·have e:(fits.getD j []).any (· ==x)=true:=List.any_eq_true.mpr ⟨x,h,beq_self_eq_true _⟩;rw[e,aQ rfl,aQ (el h)]
 ·rw[aI (λq=>by refine ah (List.any_eq_true.mp q) λy av e=>?_;exact h (eq_of_beq e▸av)),aI (by rw[d0];exact h),Int.sub_zero]
theorem MC{fits:List (List Str)}{kv:List (Str×Int)}{j:Nat}(h0:0 < (fits.getD j []).length):(∃x∈fits.getD j [],oC fits kv j=om fits kv j x)/\∀x∈fits.getD j [],oC fits kv j<=om fits kv j x:=by
 refine aE (Mi (l:=(fits.getD j []).map λx=>((layAt fits kv j).2.lookup x).getD 0) (by rw[bO];exact h0)) λab ae=>?_;refine ah (bA.mp ab) λx ag e=>?_;exact⟨⟨x,ag,e.symm⟩,λy av=>ae _ (fO av)⟩
theorem Nc{fits:List (List Str)}{kv:List (Str×Int)}(hf:∀j,j < 5->0 < (fits.getD j []).length/\∀x∈fits.getD j [],x∈ks kv)(aa:∀x∈ks kv,0<=Pv kv x):∀j,j<=5->(∀x∈ks kv,0<=om fits kv j x/\om fits kv j x=Pv kv x - hp fits kv j x)/\(∀i,i < j->0<=oC fits kv i)/\∀i,i < j->∃x∈fits.getD i [],om fits kv j x=0:=by
 intro a9;induction a9 with
 |zero=>
  intro _;exact⟨λx ag=>⟨aa x ag,by show Pv kv x=_;exact(Int.sub_zero _).symm⟩,λi h=>absurd h (Nat.not_lt_zero _),λi h=>absurd h (Nat.not_lt_zero _)⟩
 |succ j aw=>
  intro h;refine cB (aw (by exact Nat.le_of_succ_le ‹_›)) λab ae aD=>?_;refine aE (hf j (by walk_at"o")) λf0 f1=>?_;refine aE (MC (kv:=kv) f0) λaU pT=>?_;refine ah aU λx0 pa dN=>?_;have hm:0<=oC fits kv j:=by rw[dN];exact(ab x0 (f1 x0 pa)).1
  refine⟨λx ag=>?_,λi hi=>?_,λi hi=>?_⟩
  ·have:=ab x ag;rw[yY ag];show 0<=_/\_=Pv kv x - (hp fits kv j x+_);by_cases q:x∈fits.getD j []
   ·have:=pT x q;rw[aQ (el q)];walk_at"o"
   ·rw[aI (by rw[d0];exact q)];walk_at"o"
  ·by_cases q:i < j
   ·exact ae i q
   ·rw[show i=j by walk_at"o"];exact hm
  ·by_cases q:i < j
   ·refine ah (aD i q) λx ag e=>?_;have R6:=(hf i (by walk_at"o")).2 x ag;refine⟨x,ag,?_⟩;rw[yY R6];by_cases bN:x∈fits.getD j []
    ·have:=pT x bN;rw[aQ (el bN)];walk_at"o"
    ·rw[aI (by rw[d0];exact bN)];walk_at"o"
   ·have:i=j:=by walk_at"o"
    subst this;refine⟨x0,pa,?_⟩;rw[yY (f1 x0 pa),aQ (el pa)];walk_at"o"
theorem FW(F:cq L)(D:iH L O){fits:List (List Str)}{kv:List (Str×Int)}(hf:∀j,j < 5->∃l∈L,fits.getD j []=l.reverse){x:Str}(ag:∀l∈L,x≠l.getD 0 ""):∀j,j<=5->sB O (hp fits kv j) x=if x="" then(layAt fits kv j).1 else hp fits kv j x:=by
 intro a9;induction a9 with
 |zero=>
  intro _;have e:∀B:List Str,(B.map (hp fits kv 0)).sum=0:=λB=>by
   induction B with
   |nil=>rfl
   |cons b B aw=>rw[map_cons,sum_cons,aw];rfl
  unfold sB;rw[e];split<;>rfl
 |succ j aw=>
  intro h;have aw:=aw (by exact Nat.le_of_succ_le ‹_›);refine ah (hf j (by walk_at"o")) λl ao j0=>?_;have ab:=Kh F D ao (ag l ao);unfold sB at aw ⊢;have ax:(O.filter λone=>decide (pr one=x)).map (hp fits kv (j+1))=(O.filter λone=>decide (pr one=x)).map λone=>hp fits kv j one+if(λone=>decide (one∈l)) one=true then oC fits kv j else 0:=map_congr_left λone _=>by
   show hp fits kv j one+(if decide (one∈fits.getD j [])=true then oC fits kv j else 0)=_;have e:decide (one∈fits.getD j [])=decide (one∈l):=by
    rw[j0,Bool.eq_iff_iff,d0,d0,mem_reverse]
   rw[e]
  rw[ax,NM,aw,ab];by_cases q:x=""
  ·rw[aQ q,aQ q,aQ (el (b9 _ (cQ.mpr q))),Int.mul_one];rfl
  ·rw[aI q,aI q];show _=hp fits kv j x+_;congr 1;rw[j0];by_cases bN:x∈l
   ·rw[aQ (el (b6 _ bN)),aQ (el (List.mem_reverse.mpr bN)),Int.mul_one]
   ·rw[aI (by rw[d0,mem_append,cQ];exact λh=>h.elim bN q),aI (by rw[d0,mem_reverse];exact bN),Int.mul_zero]
theorem C7(F:cq L)(D:iH L O){fits:List (List Str)}{kv:List (Str×Int)}(ar:∀x,x∈ks kv↔eu L x)(aa:∀x∈ks kv,0<=Pv kv x)(hf:∀j,j < 5->∃l∈L,fits.getD j []=l.reverse)(mP:∀l∈L,∃j,j < 5/\fits.getD j []=l.reverse):(layAt fits kv 5).1=qg O kv L:=by
 have w8:∀j,j < 5->0 < (fits.getD j []).length/\∀x∈fits.getD j [],x∈ks kv:=λj aN=>by
  refine ah (hf j aN) λl ao e=>?_;rw[e,length_reverse];exact⟨F.len0 l ao,λx ag=>(ar x).mpr ⟨l,ao,List.mem_reverse.mp ag⟩⟩
 refine cB (Nc w8 aa 5 (Nat.le_refl _)) λew _ kl=>?_
 let host:Str->Bool:=λx=>(L.map λl=>l.getD 0 "").any (· ==x)
 have E2:∀x,host x=false->∀l∈L,x≠l.getD 0 "":=λx h l ao e=>by
  have:host x=true:=List.any_eq_true.mpr ⟨l.getD 0 "",fO ao,beq_iff_eq.mpr e.symm⟩;rw[this] at h;injection h
 have FV:∀x,host x=true->∃l∈L,x=l.getD 0 "":=λx h=>by
  refine ah (List.any_eq_true.mp h) λy av e=>?_;refine ah (bA.mp av) λl ao a7=>?_;subst a7;exact⟨l,ao,(eq_of_beq e).symm⟩
 have mn:∀x∈O,ik O kv L x=if host x||(x != ""&&decide (Pv kv x < sB O (ik O kv L) x)) then Pv kv x else sB O (ik O kv L) x:=λx ag=>by
  obtain⟨j,aN⟩:=getElem?_of_mem ag;exact EO F D kv (j:=j) (by rw[getElem?_append_left (List.getElem?_eq_some_iff.mp aN).1];exact aN)
 have bY:∀x∈O,x≠"":=λx ag=>by refine ah ((D.mem x).mp ag) λl ao h=>?_;exact F.ne l ao x h
 have xb:∀x∈O,hp fits kv 5 x<=Pv kv x:=λx ag=>by have:=ew x ((ar x).mpr ((D.mem x).mp ag));walk_at"o"
 have E0:∀x∈O,host x=false->sB O (hp fits kv 5) x=hp fits kv 5 x:=λx ag h=>by
  rw[FW F D hf (E2 x h) 5 (Nat.le_refl _),aI (bY x ag)]
 have FO:∀x∈O,∀one∈O.filter (λone=>decide (pr one=x)),one∈O/\hS L one x/\gj one=gj x+1:=λx ag one aj=>by
  refine aE (List.mem_filter.mp aj) λab ae=>?_;have ar:=(wk F ((D.mem one).mp ab) (bY x ag)).mp (ee ae);refine⟨ab,ar,?_⟩;refine ah ar λl ao bk=>?_;refine cn bk λp r e=>?_;exact F.dot l ao _ _ _ _ e
 have hle:∀n:Nat,∀x∈O,10<=gj x+n->hp fits kv 5 x<=ik O kv L x:=by
  intro n;induction n with
  |zero=>intro x ag h;have:=F.dx ((D.mem x).mp ag);walk_at"o"
  |succ n aw=>
   intro x ag h;rw[mn x ag];split
   ·exact xb x ag
   ·rename_i q;have dr:host x=false:=by
     induction e:host x with
     |false=>rfl
     |true=>rw[e] at q;exact absurd rfl q
    rw[<-E0 x ag dr];exact NK λone aj=>by
     refine cB (FO x ag one aj) λa _ c=>?_;exact aw one a (by walk_at"o")
 have heq:∀n:Nat,∀x∈O,10<=gj x+n->(∀y∈(kW x).drop 1,hp fits kv 5 y≠Pv kv y)->hp fits kv 5 x=ik O kv L x:=by
  intro n;induction n with
  |zero=>intro x ag h;have:=F.dx ((D.mem x).mp ag);walk_at"o"
  |succ n aw=>
   intro x ag h av;have ab:=hle (n+1) x ag h;have ae:=mn x ag;by_cases q:hp fits kv 5 x=Pv kv x
   ·have:ik O kv L x<=Pv kv x:=by
     rw[ae];split
     ·exact Int.le_refl _
     ·rename_i bN;rw[Bool.or_eq_true,Bool.and_eq_true,d0] at bN;refine Int.not_lt.mp λhq=>bN (.inr ⟨bne_iff_ne.mpr (bY x ag),hq⟩)
    walk_at"o"
   ·refine ah ((D.mem x).mp ag) λl0 lX iY=>?_;refine cn (append_of_mem iY) λxE oB dN=>?_;have mg:=F.up l0 lX xE x oB dN;have uR:∀y∈kW x,hp fits kv 5 y≠Pv kv y:=λy og=>by
     rw[mg] at og av;replace og:=og;rcases bI.mp og with rfl |og
     ·exact q
     ·exact av y og
    have dr:host x=false:=by
     induction e:host x with
     |false=>rfl
     |true=>
      refine ah (FV x e) λl ao bz=>?_;subst bz;refine ah (mP l ao) λj aN pP=>?_;refine ah (kl j aN) λz hz m8=>?_;rw[pP] at hz;replace hz:=hz;have hz:=List.mem_reverse.mp hz;have:=ew z ((ar z).mpr ⟨l,ao,hz⟩);exact absurd (by walk_at"o") (uR z (by rw[(F.head ao).1];exact hz))
    have aD:sB O (hp fits kv 5) x=sB O (ik O kv L) x:=by
     unfold sB;congr 1;refine map_congr_left λone aj=>?_;refine cB (FO x ag one aj) λa b c=>?_;refine aw one a (by walk_at"o") λy og=>uR y ?_;refine ah b λl ao b7=>?_;refine cn b7 λp r e=>?_;rw[F.up l ao p one _ e] at og;rw[F.up l ao (p++[one]) x r (by rw[e,append_assoc];rfl)];exact og
    rw[E0 x ag dr] at aD;rw[dr, <-aD] at ae;have bc:ik O kv L x<=hp fits kv 5 x:=by
     rw[ae];split
     ·rename_i bN;rw[Bool.false_or,Bool.and_eq_true,d0] at bN;exact Int.le_of_lt bN.2
     ·exact Int.le_refl _
    walk_at"o"
 have F0:host ""=false:=by
  induction e:host "" with
  |false=>rfl
  |true=>
   refine ah (FV _ e) λl ao aC=>?_;exact absurd aC.symm (F.ne l ao _ (F.head ao).2)
 have h0:ik O kv L ""=sB O (ik O kv L) "":=by
  have:=EO F D kv (j:=O.length) (x:="") (by rw[getElem?_append_right (Nat.le_refl _),Nat.sub_self];rfl);have e:(L.map λl=>l.getD 0 ("":Str)).any (· ==("":Str))=false:=F0;have aC:((("":Str) != ("":Str))&&decide (Pv kv "" < sB O (ik O kv L) ""))=false:=by rw[show(("":Str) != ("":Str))=false from bne_self_eq_false _];rfl
  rw[this,e,aC];rfl
 have ab:sB O (hp fits kv 5) ""=(layAt fits kv 5).1:=by rw[FW F D hf (E2 "" F0) 5 (Nat.le_refl _),aQ rfl]
 have ae:sB O (hp fits kv 5) ""=sB O (ik O kv L) "":=by
  unfold sB;congr 1;refine map_congr_left λone aj=>?_;refine aE (List.mem_filter.mp aj) λa b=>?_;have af:=(D.mem one).mp a;have:=F.dx af;refine heq 10 one a (by walk_at"o") λy av=>?_;refine ah af λl ao AL=>?_;refine cn (append_of_mem AL) λp r e=>?_;have aa:=ee b;rw[qw F ao e] at aa;rw[F.up l ao p one r e] at av;induction r with
  |nil=>exact absurd av b8
  |cons z r=>exact absurd aa (F.ne l ao z (by rw[e];simp))
 rw[<-ab,ae, <-h0];rfl
end
theorem U5(dk:List Int)(hs:dk.length<=63):∃L kv O fe,zk dk L kv O fe:=by
 obtain⟨L,rD⟩:∃L,(cellsOf dk).map (λc=>kx (gz c))=L:=⟨_,rfl⟩
 have F:cq L:=rD▸NO dk;have q3:∀l∈L,zG l:=λl ao=>by
  rw[<-rD] at ao;refine ah (bA.mp ao) λc _ aU=>?_;subst aU;exact EH (Et c)
 refine cB (KW F (Cy dk)) λP hlen ar=>?_;obtain⟨kv,pE⟩:∃kv,rU (cellsOf dk) L=kv:=⟨_,rfl⟩
 rw[pE] at P hlen ar;replace P:=P;replace ar:=ar;refine ah (Om F P.nd ar) λO D EZ=>?_;have pM:∀x,eu L x->xI x:=λx Ph=>ah Ph λl ao ag=>(q3 l ao).nm x ag;have aa:∀x∈ks kv,0<=Pv kv x:=λx ag=>by
  unfold Pv;induction e:kv.lookup x with
  |none=>exact Int.le_refl _
  |some v=>
   have:(x,v)∈kv:=by
    have key:∀kv:List (Str×Int),kv.lookup x=some v->(x,v)∈kv:=λkv=>by
     induction kv with
     |nil=>exact λh=>nomatch h
     |cons z r aw=>
      intro h;rw[di] at h;replace h:=h;induction q:x==z.1 with
      |true=>
       rw[q] at h;replace h:=h;have h:some z.2=some v:=h;obtain rfl:=bT h;rw[eq_of_beq q];exact cM
      |false=>
       rw[q] at h;exact en _ (aw h)
    exact key kv e
   exact P.nn _ this
 have PF:O.length<=20:=by rw[EZ.length_eq,bO];exact hlen
 have et:∀r∈iP L,∃i,i < 5/\r=ly L i:=λr bf=>by
  rw[(tG F).1] at bf;refine ah (bA.mp bf) λi hi a7=>?_;subst a7;exact⟨i,List.mem_range.mp hi,rfl⟩
 have z1:∀j,(L.map reverse).getD j []=(cV L j).reverse:=λj=>by
  unfold cV;rw[c8,c8,d7]
  (induction L[j]?)<;>rfl
 have EP:∀j,j < 5->(L.map reverse).reverse.getD j []=(cV L (4 - j)).reverse:=λj aN=>by
  have dz:=F.ie;rw[<-z1,c8,c8,getElem?_reverse (by rw[bO];walk_at"o"),bO,dz]
 refine⟨L,kv,O,qg O kv L,⟨by exact bH ‹_› rfl,rD,λc _=>Q8 c,F.ie,F.len0,λl ao=>Nat.le_trans (F.k9 l ao) (by decide),λl ao x ag=>(uk ((q3 l ao).nm x ag)).ok,λl ao=>(F.head ao).1,pE,by exact bH ‹_› rfl,P.nd,ar,λl ao x ag=>⟨((q3 l ao).fit x (pM x ((ar x).mp ag))).1.2,((q3 l ao).fit x (pM x ((ar x).mp ag))).1.1⟩,λl ao=>?_,λx ag=>(uk (pM x ((ar x).mp ag))).zt,λx ag=>(uk (pM x ((ar x).mp ag))).ends,M9 F,N1 F D PF,λx ag=>F.holds ((ar x).mp ag),λy av z hz=>F.z9 ((ar y).mp av) ((ar z).mp hz),λy av z hz=>F.Pc ((ar y).mp av) ((ar z).mp hz),EZ,D.asc,Oy F D,?_,λx ag=>by rw[yO F ((D.mem x).mp ag)];rfl,λj name h one ab ae=>?_,λh=>?_,rfl,?_,?_⟩⟩
 ·rw[<-ko.fit F P ar ao];congr 1
  ·exact filter_congr λx ag=>((q3 l ao).fit x (pM x ((ar x).mp ag))).2.1
  ·exact filter_congr λx ag=>((q3 l ao).fit x (pM x ((ar x).mp ag))).2.2
 ·refine⟨by rw[(tG F).1,bO,length_range];exact Nat.le_refl _,λr bf=>?_⟩;refine ah (et r bf) λi hi bk=>?_;subst bk;refine aP (tX F hi) λq e=>?_;have bc:=F.k9 _ (F.at hi);rw[e,length_append] at bc;exact⟨by walk_at"o",λx ag=>(uk ((q3 _ (F.at hi)).nm x (wi F hi ag))).ok.1⟩
 ·rw[yO F ((D.mem one).mp ab)] at ae;exact Dw F D j name h one ab ae
 ·refine ah (bA.mp h) λl ao e=>?_;exact F.ne l ao _ (F.head ao).2 e
 ·exact C7 F D ar aa (λj aN=>⟨cV L j,F.at aN,z1 j⟩) λl ao=>by
   refine ah (F.zb ao) λj aN e=>?_;exact⟨j,aN,by rw[z1,e]⟩
 ·exact C7 F D ar aa (λj aN=>⟨cV L (4 - j),F.at (by walk_at"o"),EP j aN⟩) λl ao=>by
   refine ah (F.zb ao) λj aN e=>?_;exact⟨4 - j,by walk_at"o",by rw[EP (4 - j) (by walk_at"o"),show 4 - (4 - j)=j by walk_at"o",e]⟩
end Mine
theorem PySem.Challenge.cw_op0239_01_holds : PySem.Challenge.rw_op0239_01.Holds := by
  exact Mine.U9 (Mine.U6 Mine.U5)
