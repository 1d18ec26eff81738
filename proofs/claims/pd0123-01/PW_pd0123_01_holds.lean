import PyProof.Rows.All
import Wide.All
import OpenK.AllK
import Wide.FinOn
import KE.KSortAsk
import KE.KDictList
import PyProof.SetNew
import PyProof.RulesDelMore
import KE.KLam
import KE.KxDecode
import KE.KBytesWalk
import KE.BytesMake
import KE.KAnyBase
import Lean
import PySem.Challenge.RW_pd0123_01
set_option Elab.async false
set_option maxRecDepth 100000
set_option linter.unusedVariables false
set_option compiler.extract_closed false
set_option maxHeartbeats 4000000
open PySem renaming wpAny_bind → jK,Value → jL,model → jM,wpAny → jN,wpAny_pure → jO,Shared → jP,Addr → jQ,wpAny_mono → jR,World → jS,Params → jT,OsState → jU,Around → jV,Stmt → jW,GenState → jX,typeLookup_type → jY,sizeLine_eq → jZ,wpAny_holding → kB,sizeLine → kC,starEach → kD,letOwnedTupleGo → kE,typeLookup → kF,builtinLookup_eq_fast → kH,Heap → kI,Str → kJ,Obj → kK,codeAny → kN,execs → kO,wpAny_newObj_type → kP,Program → kQ,Flow → kS,Drawn → kU,Pos → kW
open PySem.Challenge renaming pw_pd0123_01 → kX
open PySem.Str renaming ofString → kY,length → oG
open List renaming mem_cons_self → kZ,mem_singleton → lA,mem_cons → lH,mem_append_right → lJ,mem_append → lQ,length_append → lR,range → lW,mem_cons_of_mem → lX,size_toArray → lY,length_map → lZ,mem_map → mC,map_cons → mD,toArray → mE,mem_map_of_mem → mF,length_singleton → mG,getElem?_eq_getElem → mH,mem_append_left → mJ,flatMap_cons → mO,map_append → mP,getD_eq_getElem?_getD → mR,eq_nil_or_concat → mW,concat_eq_append → mX,mem_range → nB,append_nil → nD,getElem?_eq_some_iff → nF,length_take → nG,take_add_one → nH,lookup_cons → nJ,flatten → nM,map_map → nP,flatMap_append → nQ,append_assoc → nR,eq_nil_of_length_eq_zero → nT,mem_flatMap → nV,nodup_cons → nW,length_range → oA,nodup_append → oD,take_length → oH,nodup_nil → oO,getElem?_append_left → oR,getElem?_eq_none → oS,pairwise_iff_getElem → oU,forIn_cons → oV,find?_cons → oY,getElem?_map → oZ,take_of_length_le → pA,lookup → pB,foldl_append → pC,getElem_mem → pO,all_eq_true → pY,mem_of_getElem? → qB,flatMap_nil → qC,length_cons → qD,foldl_cons → qG,pairwise_map → qN,contains_iff_mem → qS,sublist_cons_self → qU,map_congr_left → qV,pairwise_append → qW,find?_cons_of_neg → rE,length_filter_le → rF,getElem_of_mem → rG
open Nat renaming le_trans → lB,zero_le → lC,le_refl → lE,le_of_ble_eq_true → lF,le_of_lt → lL,ne_of_lt → lN,lt_irrefl → lO,lt_of_lt_of_le → lP,not_lt → lU,le_succ → lV,le_of_eq → mB,mul_le_mul_right → mI,lt_of_le_of_lt → mM,sub_le → mN,le_add_right → mQ,le_of_add_right_le → mU,le_succ_of_le → mV,lt_succ_of_lt → mZ,add_assoc → nA,add_mul → nC,lt_succ_self → nE,div_lt_iff_lt_mul → nI,add_sub_cancel' → nK,mul_comm → nO,mod_lt → nS,le_add_left → nX,zero_lt_of_lt → oE,lt_or_ge → oF,add_zero → oL,sub_pos_of_lt → oP,add_comm → oQ,succ_pred_eq_of_pos → pE,sub_lt → pF,sub_sub → pG,add_le_add_left → pH,pos_of_ne_zero → pI,le_sub_one_of_lt → pJ,le_of_lt_succ → pK,add_le_add_right → pL,lt_trichotomy → pM,lt_asymm → pN,succ_ne_zero → pP,sub_zero → pQ,zero_mul → pR,not_lt_of_le → pS,le_sub_of_add_le → pT,succ_le_succ → pU,lt_add_of_pos_right → pV,ne_of_gt → pW,lt_succ_of_le → pX,zero_add → pZ,le_div_iff_mul_le → qE,div_add_mod → qF,add_sub_cancel → qH,sub_add_cancel → qI,add_le_of_le_sub' → qJ,add_right_comm → qK,le_antisymm → qM,div_eq_of_lt → qY,mul_lt_mul_of_pos_right → qZ,add_sub_add_right → rA,sub_le_of_le_add → rB,sub_lt_sub_right → rC,lt_of_mul_lt_mul_right → rH
open PySem.Data renaming func → lD,fields → lG,seq → lK,dict → mL,plain → oC
open Bool renaming eq_iff_iff → lI,and_eq_true_iff → mT,false_eq_true → oW,and_eq_true → oX,false_ne_true → qQ
open PySem.Heap renaming lt_size → lM,get?_push_of_some → lS,get?_push_size → lT,size_push → mK,get?_update_self → nZ,dictOf_iff → qA,get?_update_other → qX
open Int renaming ofNat_lt → mS,ofNat_sub → nN,toNat_natCast → nY,natCast_add → oB,natCast_mul → oN,natCast_nonneg → qP
open PySem.PyData renaming strOk → mY,depthAll → nL,canLayAll0 → nU,depth → oK,eqv → oT,canLay0 → pD
open Array renaming length_toList → oM,getD_eq_getD_getElem? → qO,getElem?_eq_none → qT,getElem?_eq_getElem → rD
open PySem PySem.W PySem.Calls PyProof.Rows
local macro_rules | `(tactic| lia)=> `(tactic| lia -abstractProof)
namespace Mine
section
section
variable {a b c d e f g i j l m n o p q r s t u v w x y z A B C P:Prop}
theorem jG2:(a->b->P)->a/\b->P:=fun k h=>k h.1 h.2
theorem jG3:(a->b->c->P)->a/\b/\c->P:=fun k h=>jG2 (k h.1) h.2
theorem jG4:(a->b->c->d->P)->a/\b/\c/\d->P:=fun k h=>jG3 (k h.1) h.2
theorem jG5:(a->b->c->d->e->P)->a/\b/\c/\d/\e->P:=fun k h=>jG4 (k h.1) h.2
theorem jG6:(a->b->c->d->e->f->P)->a/\b/\c/\d/\e/\f->P:=fun k h=>jG5 (k h.1) h.2
theorem jG7:(a->b->c->d->e->f->g->P)->a/\b/\c/\d/\e/\f/\g->P:=fun k h=>jG6 (k h.1) h.2
theorem jG8:(a->b->c->d->e->f->g->i->P)->a/\b/\c/\d/\e/\f/\g/\i->P:=fun k h=>jG7 (k h.1) h.2
theorem jG9:(a->b->c->d->e->f->g->i->j->P)->a/\b/\c/\d/\e/\f/\g/\i/\j->P:=fun k h=>jG8 (k h.1) h.2
theorem jG10:(a->b->c->d->e->f->g->i->j->l->P)->a/\b/\c/\d/\e/\f/\g/\i/\j/\l->P:=fun k h=>jG9 (k h.1) h.2
theorem jG11:(a->b->c->d->e->f->g->i->j->l->m->P)->a/\b/\c/\d/\e/\f/\g/\i/\j/\l/\m->P:=fun k h=>jG10 (k h.1) h.2
theorem jG12:(a->b->c->d->e->f->g->i->j->l->m->n->P)->a/\b/\c/\d/\e/\f/\g/\i/\j/\l/\m/\n->P:=fun k h=>jG11 (k h.1) h.2
theorem jG13:(a->b->c->d->e->f->g->i->j->l->m->n->o->P)->a/\b/\c/\d/\e/\f/\g/\i/\j/\l/\m/\n/\o->P:=fun k h=>jG12 (k h.1) h.2
theorem jG14:(a->b->c->d->e->f->g->i->j->l->m->n->o->p->P)->a/\b/\c/\d/\e/\f/\g/\i/\j/\l/\m/\n/\o/\p->P:=fun k h=>jG13 (k h.1) h.2
theorem jG15:(a->b->c->d->e->f->g->i->j->l->m->n->o->p->q->P)->a/\b/\c/\d/\e/\f/\g/\i/\j/\l/\m/\n/\o/\p/\q->P:=fun k h=>jG14 (k h.1) h.2
theorem jG16:(a->b->c->d->e->f->g->i->j->l->m->n->o->p->q->r->P)->a/\b/\c/\d/\e/\f/\g/\i/\j/\l/\m/\n/\o/\p/\q/\r->P:=fun k h=>jG15 (k h.1) h.2
theorem jG17:(a->b->c->d->e->f->g->i->j->l->m->n->o->p->q->r->s->P)->a/\b/\c/\d/\e/\f/\g/\i/\j/\l/\m/\n/\o/\p/\q/\r/\s->P:=fun k h=>jG16 (k h.1) h.2
theorem jG18:(a->b->c->d->e->f->g->i->j->l->m->n->o->p->q->r->s->t->P)->a/\b/\c/\d/\e/\f/\g/\i/\j/\l/\m/\n/\o/\p/\q/\r/\s/\t->P:=fun k h=>jG17 (k h.1) h.2
theorem jG19:(a->b->c->d->e->f->g->i->j->l->m->n->o->p->q->r->s->t->u->P)->a/\b/\c/\d/\e/\f/\g/\i/\j/\l/\m/\n/\o/\p/\q/\r/\s/\t/\u->P:=fun k h=>jG18 (k h.1) h.2
theorem jG20:(a->b->c->d->e->f->g->i->j->l->m->n->o->p->q->r->s->t->u->v->P)->a/\b/\c/\d/\e/\f/\g/\i/\j/\l/\m/\n/\o/\p/\q/\r/\s/\t/\u/\v->P:=fun k h=>jG19 (k h.1) h.2
theorem jG21:(a->b->c->d->e->f->g->i->j->l->m->n->o->p->q->r->s->t->u->v->w->P)->a/\b/\c/\d/\e/\f/\g/\i/\j/\l/\m/\n/\o/\p/\q/\r/\s/\t/\u/\v/\w->P:=fun k h=>jG20 (k h.1) h.2
theorem jG22:(a->b->c->d->e->f->g->i->j->l->m->n->o->p->q->r->s->t->u->v->w->x->P)->a/\b/\c/\d/\e/\f/\g/\i/\j/\l/\m/\n/\o/\p/\q/\r/\s/\t/\u/\v/\w/\x->P:=fun k h=>jG21 (k h.1) h.2
theorem jG23:(a->b->c->d->e->f->g->i->j->l->m->n->o->p->q->r->s->t->u->v->w->x->y->P)->a/\b/\c/\d/\e/\f/\g/\i/\j/\l/\m/\n/\o/\p/\q/\r/\s/\t/\u/\v/\w/\x/\y->P:=fun k h=>jG22 (k h.1) h.2
theorem jG24:(a->b->c->d->e->f->g->i->j->l->m->n->o->p->q->r->s->t->u->v->w->x->y->z->P)->a/\b/\c/\d/\e/\f/\g/\i/\j/\l/\m/\n/\o/\p/\q/\r/\s/\t/\u/\v/\w/\x/\y/\z->P:=fun k h=>jG23 (k h.1) h.2
theorem jG25:(a->b->c->d->e->f->g->i->j->l->m->n->o->p->q->r->s->t->u->v->w->x->y->z->A->P)->a/\b/\c/\d/\e/\f/\g/\i/\j/\l/\m/\n/\o/\p/\q/\r/\s/\t/\u/\v/\w/\x/\y/\z/\A->P:=fun k h=>jG24 (k h.1) h.2
theorem jG26:(a->b->c->d->e->f->g->i->j->l->m->n->o->p->q->r->s->t->u->v->w->x->y->z->A->B->P)->a/\b/\c/\d/\e/\f/\g/\i/\j/\l/\m/\n/\o/\p/\q/\r/\s/\t/\u/\v/\w/\x/\y/\z/\A/\B->P:=fun k h=>jG25 (k h.1) h.2
theorem jG27:(a->b->c->d->e->f->g->i->j->l->m->n->o->p->q->r->s->t->u->v->w->x->y->z->A->B->C->P)->a/\b/\c/\d/\e/\f/\g/\i/\j/\l/\m/\n/\o/\p/\q/\r/\s/\t/\u/\v/\w/\x/\y/\z/\A/\B/\C->P:=fun k h=>jG26 (k h.1) h.2
theorem curry2:(a/\b->P)->a->b->P:=fun k h r=>k ⟨h,r⟩
theorem curry3:(a/\b/\c->P)->a->b->c->P:=fun k x=>curry2 fun h=>k ⟨x,h⟩
theorem curry4:(a/\b/\c/\d->P)->a->b->c->d->P:=fun k x=>curry3 fun h=>k ⟨x,h⟩
theorem curry5:(a/\b/\c/\d/\e->P)->a->b->c->d->e->P:=fun k x=>curry4 fun h=>k ⟨x,h⟩
theorem curry6:(a/\b/\c/\d/\e/\f->P)->a->b->c->d->e->f->P:=fun k x=>curry5 fun h=>k ⟨x,h⟩
theorem curry7:(a/\b/\c/\d/\e/\f/\g->P)->a->b->c->d->e->f->g->P:=fun k x=>curry6 fun h=>k ⟨x,h⟩
theorem curry8:(a/\b/\c/\d/\e/\f/\g/\i->P)->a->b->c->d->e->f->g->i->P:=fun k x=>curry7 fun h=>k ⟨x,h⟩
theorem curry9:(a/\b/\c/\d/\e/\f/\g/\i/\j->P)->a->b->c->d->e->f->g->i->j->P:=fun k x=>curry8 fun h=>k ⟨x,h⟩
theorem curry10:(a/\b/\c/\d/\e/\f/\g/\i/\j/\l->P)->a->b->c->d->e->f->g->i->j->l->P:=fun k x=>curry9 fun h=>k ⟨x,h⟩
theorem curry11:(a/\b/\c/\d/\e/\f/\g/\i/\j/\l/\m->P)->a->b->c->d->e->f->g->i->j->l->m->P:=fun k x=>curry10 fun h=>k ⟨x,h⟩
theorem curry12:(a/\b/\c/\d/\e/\f/\g/\i/\j/\l/\m/\n->P)->a->b->c->d->e->f->g->i->j->l->m->n->P:=fun k x=>curry11 fun h=>k ⟨x,h⟩
theorem curry13:(a/\b/\c/\d/\e/\f/\g/\i/\j/\l/\m/\n/\o->P)->a->b->c->d->e->f->g->i->j->l->m->n->o->P:=fun k x=>curry12 fun h=>k ⟨x,h⟩
theorem curry14:(a/\b/\c/\d/\e/\f/\g/\i/\j/\l/\m/\n/\o/\p->P)->a->b->c->d->e->f->g->i->j->l->m->n->o->p->P:=fun k x=>curry13 fun h=>k ⟨x,h⟩
theorem curry15:(a/\b/\c/\d/\e/\f/\g/\i/\j/\l/\m/\n/\o/\p/\q->P)->a->b->c->d->e->f->g->i->j->l->m->n->o->p->q->P:=fun k x=>curry14 fun h=>k ⟨x,h⟩
theorem curry16:(a/\b/\c/\d/\e/\f/\g/\i/\j/\l/\m/\n/\o/\p/\q/\r->P)->a->b->c->d->e->f->g->i->j->l->m->n->o->p->q->r->P:=fun k x=>curry15 fun h=>k ⟨x,h⟩
theorem curry17:(a/\b/\c/\d/\e/\f/\g/\i/\j/\l/\m/\n/\o/\p/\q/\r/\s->P)->a->b->c->d->e->f->g->i->j->l->m->n->o->p->q->r->s->P:=fun k x=>curry16 fun h=>k ⟨x,h⟩
theorem curry18:(a/\b/\c/\d/\e/\f/\g/\i/\j/\l/\m/\n/\o/\p/\q/\r/\s/\t->P)->a->b->c->d->e->f->g->i->j->l->m->n->o->p->q->r->s->t->P:=fun k x=>curry17 fun h=>k ⟨x,h⟩
theorem curry19:(a/\b/\c/\d/\e/\f/\g/\i/\j/\l/\m/\n/\o/\p/\q/\r/\s/\t/\u->P)->a->b->c->d->e->f->g->i->j->l->m->n->o->p->q->r->s->t->u->P:=fun k x=>curry18 fun h=>k ⟨x,h⟩
theorem curry20:(a/\b/\c/\d/\e/\f/\g/\i/\j/\l/\m/\n/\o/\p/\q/\r/\s/\t/\u/\v->P)->a->b->c->d->e->f->g->i->j->l->m->n->o->p->q->r->s->t->u->v->P:=fun k x=>curry19 fun h=>k ⟨x,h⟩
theorem curry21:(a/\b/\c/\d/\e/\f/\g/\i/\j/\l/\m/\n/\o/\p/\q/\r/\s/\t/\u/\v/\w->P)->a->b->c->d->e->f->g->i->j->l->m->n->o->p->q->r->s->t->u->v->w->P:=fun k x=>curry20 fun h=>k ⟨x,h⟩
theorem curry22:(a/\b/\c/\d/\e/\f/\g/\i/\j/\l/\m/\n/\o/\p/\q/\r/\s/\t/\u/\v/\w/\x->P)->a->b->c->d->e->f->g->i->j->l->m->n->o->p->q->r->s->t->u->v->w->x->P:=fun k x=>curry21 fun h=>k ⟨x,h⟩
theorem curry23:(a/\b/\c/\d/\e/\f/\g/\i/\j/\l/\m/\n/\o/\p/\q/\r/\s/\t/\u/\v/\w/\x/\y->P)->a->b->c->d->e->f->g->i->j->l->m->n->o->p->q->r->s->t->u->v->w->x->y->P:=fun k x=>curry22 fun h=>k ⟨x,h⟩
theorem curry24:(a/\b/\c/\d/\e/\f/\g/\i/\j/\l/\m/\n/\o/\p/\q/\r/\s/\t/\u/\v/\w/\x/\y/\z->P)->a->b->c->d->e->f->g->i->j->l->m->n->o->p->q->r->s->t->u->v->w->x->y->z->P:=fun k x=>curry23 fun h=>k ⟨x,h⟩
theorem curry25:(a/\b/\c/\d/\e/\f/\g/\i/\j/\l/\m/\n/\o/\p/\q/\r/\s/\t/\u/\v/\w/\x/\y/\z/\A->P)->a->b->c->d->e->f->g->i->j->l->m->n->o->p->q->r->s->t->u->v->w->x->y->z->A->P:=fun k x=>curry24 fun h=>k ⟨x,h⟩
theorem curry26:(a/\b/\c/\d/\e/\f/\g/\i/\j/\l/\m/\n/\o/\p/\q/\r/\s/\t/\u/\v/\w/\x/\y/\z/\A/\B->P)->a->b->c->d->e->f->g->i->j->l->m->n->o->p->q->r->s->t->u->v->w->x->y->z->A->B->P:=fun k x=>curry25 fun h=>k ⟨x,h⟩
theorem curry27:(a/\b/\c/\d/\e/\f/\g/\i/\j/\l/\m/\n/\o/\p/\q/\r/\s/\t/\u/\v/\w/\x/\y/\z/\A/\B/\C->P)->a->b->c->d->e->f->g->i->j->l->m->n->o->p->q->r->s->t->u->v->w->x->y->z->A->B->C->P:=fun k x=>curry26 fun h=>k ⟨x,h⟩
theorem jH3:a->b->c->a/\b/\c:=fun k h r=>⟨k,h,r⟩
theorem jH4:a->b->c->d->a/\b/\c/\d:=fun k hb hc hd=>⟨k,jH3 hb hc hd⟩
theorem jH5:a->b->c->d->e->a/\b/\c/\d/\e:=fun k hb hc hd he=>⟨k,jH4 hb hc hd he⟩
theorem jH6:a->b->c->d->e->f->a/\b/\c/\d/\e/\f:=fun k hb hc hd he hf=>⟨k,jH5 hb hc hd he hf⟩
theorem jH7:a->b->c->d->e->f->g->a/\b/\c/\d/\e/\f/\g:=fun k hb hc hd he hf hg=>⟨k,jH6 hb hc hd he hf hg⟩
theorem jH8:a->b->c->d->e->f->g->i->a/\b/\c/\d/\e/\f/\g/\i:=fun k hb hc hd he hf hg hi=>⟨k,jH7 hb hc hd he hf hg hi⟩
theorem jH9:a->b->c->d->e->f->g->i->j->a/\b/\c/\d/\e/\f/\g/\i/\j:=fun k hb hc hd he hf hg hi hj=>⟨k,jH8 hb hc hd he hf hg hi hj⟩
theorem jH10:a->b->c->d->e->f->g->i->j->l->a/\b/\c/\d/\e/\f/\g/\i/\j/\l:=fun k hb hc hd he hf hg hi hj hl=>⟨k,jH9 hb hc hd he hf hg hi hj hl⟩
theorem jH11:a->b->c->d->e->f->g->i->j->l->m->a/\b/\c/\d/\e/\f/\g/\i/\j/\l/\m:=fun k hb hc hd he hf hg hi hj hl hm=>⟨k,jH10 hb hc hd he hf hg hi hj hl hm⟩
theorem jH12:a->b->c->d->e->f->g->i->j->l->m->n->a/\b/\c/\d/\e/\f/\g/\i/\j/\l/\m/\n:=fun k hb hc hd he hf hg hi hj hl hm hn=>⟨k,jH11 hb hc hd he hf hg hi hj hl hm hn⟩
end
universe u
section
variable {A:Sort _}{B:Sort _}{C:Sort _}{D:Sort _}{E:Sort _}{F:Sort _}{G:Sort _}{H:Sort _}{I:Sort _}{k:Prop}
theorem jI1{P:A->Prop}:(∀a,P a->k)->(∃a,P a)->k:=fun k h=>h.elim k
theorem jI2{P:A->B->Prop}:(∀a b,P a b->k)->(∃a b,P a b)->k:=fun k h=>h.elim fun a h=>jI1 (k a) h
theorem jI3{P:A->B->C->Prop}:(∀a b c,P a b c->k)->(∃a b c,P a b c)->k:=fun k h=>h.elim fun a h=>jI2 (k a) h
theorem jI4{P:A->B->C->D->Prop}:(∀a b c d,P a b c d->k)->(∃a b c d,P a b c d)->k:=fun k h=>h.elim fun a h=>jI3 (k a) h
theorem jI5{P:A->B->C->D->E->Prop}:(∀a b c d e,P a b c d e->k)->(∃a b c d e,P a b c d e)->k:=fun k h=>h.elim fun a h=>jI4 (k a) h
theorem jI6{P:A->B->C->D->E->F->Prop}:(∀a b c d e f,P a b c d e f->k)->(∃a b c d e f,P a b c d e f)->k:=fun k h=>h.elim fun a h=>jI5 (k a) h
theorem jI7{P:A->B->C->D->E->F->G->Prop}:(∀a b c d e f g,P a b c d e f g->k)->(∃a b c d e f g,P a b c d e f g)->k:=fun k h=>h.elim fun a h=>jI6 (k a) h
theorem jJ2{P:A->B->Prop}(a:A)(b:B)(h:P a b):∃a b,P a b:=⟨a,b,h⟩
theorem jJ3{P:A->B->C->Prop}(a:A)(b:B)(c:C)(h:P a b c):∃a b c,P a b c:=⟨a,jJ2 b c h⟩
theorem jJ4{P:A->B->C->D->Prop}(a:A)(b:B)(c:C)(d:D)(h:P a b c d):∃a b c d,P a b c d:=⟨a,jJ3 b c d h⟩
theorem jJ5{P:A->B->C->D->E->Prop}(a:A)(b:B)(c:C)(d:D)(e:E)(h:P a b c d e):∃a b c d e,P a b c d e:=⟨a,jJ4 b c d e h⟩
theorem jJ6{P:A->B->C->D->E->F->Prop}(a:A)(b:B)(c:C)(d:D)(e:E)(f:F)(h:P a b c d e f):∃a b c d e f,P a b c d e f:=⟨a,jJ5 b c d e f h⟩
theorem jJ7{P:A->B->C->D->E->F->G->Prop}(a:A)(b:B)(c:C)(d:D)(e:E)(f:F)(g:G)(h:P a b c d e f g):∃a b c d e f g,P a b c d e f g:=⟨a,jJ6 b c d e f g h⟩
theorem jJ8{P:A->B->C->D->E->F->G->H->Prop}(a:A)(b:B)(c:C)(d:D)(e:E)(f:F)(g:G)(i:H)(h:P a b c d e f g i):∃a b c d e f g i,P a b c d e f g i:=⟨a,jJ7 b c d e f g i h⟩
theorem jJ9{P:A->B->C->D->E->F->G->H->I->Prop}(a:A)(b:B)(c:C)(d:D)(e:E)(f:F)(g:G)(i:H)(j:I)(h:P a b c d e f g i j):∃a b c d e f g i j,P a b c d e f g i j:=⟨a,jJ8 b c d e f g i j h⟩
end
end
open PySem.Str renaming ofString → sO
open PySem.Value renaming str → vs,type → vt,ref → vr,none → vn,int → vi
open PySem.PyData renaming keyHash → kh
open PySem.W.BT renaming node → bn,nil → b0
theorem anyFast {α:Type}(as:Array α)(p:α→Bool):as.any p=PySem.W.R.anyR as.toList p:=by rw[←PySem.W.R.anyR_eq];exact(Array.any_toList).symm
noncomputable def tn:Builtin:=by
 refine(?g:(b:Builtin)→PySem.W.Fast.tw4202317264376624991=b→Builtin) ?b ?h
 case h=>
  delta PySem.W.Fast.tw4202317264376624991
  simp -zeta -zetaHave -zetaUnused only[anyFast]
  exact rfl
 case g=>exact fun b _=>b
theorem tn_eq:Builtin.«type.__new__»=tn:=by
 rw[PySem.W.Fast.te4202317264376624991]
 delta PySem.W.Fast.tw4202317264376624991 tn
 simp -zeta -zetaHave -zetaUnused only[anyFast]
noncomputable def myTable (id:String):Option Builtin:=if id="type.__new__" then some tn else treeTable id
theorem tree_tn:treeTable "type.__new__"=some Builtin.«type.__new__»:=by kernel_rfl!
theorem table_my:treeTable=myTable:=by
 funext id
 unfold myTable
 split
 ·rename_i h;subst h;rw[tree_tn,tn_eq]
 ·rfl
noncomputable section
theorem ofS (s:String):sO s=⟨(s.toList.map Char.toNat).toArray⟩:=by
 rw[Str.ofString_eq_byList];rfl
noncomputable def cB (i:Nat):jW:=kX.main.body.getD i (.Pass ⟨0,0,0,0⟩)
noncomputable def bQ (s:jW):List jW:=match s with
 | .ClassDef _ _ _ b _ _ _ _ _ _ _=>b
 | .FunctionDef _ _ b _ _ _ _ _ _ _=>b
 | _=>[]
noncomputable def wB (s:jW)(l:List jW):jW:=match s with
 | .ClassDef a b c _ e f g h i j k=>.ClassDef a b c l e f g h i j k
 | .FunctionDef a b _ d e f g h i j=>.FunctionDef a b l d e f g h i j
 | s=>s
noncomputable def dO (s:jW):Option kJ:=match s with
 | .Expr (.Constant (.str d) _ _) _=>some d
 | _=>none
noncomputable def wD (s:jW)(d:kJ):jW:=match s with
 | .Expr (.Constant (.str _) a b) c=>.Expr (.Constant (.str d) a b) c
 | s=>s
noncomputable def lsO (o:Option kJ):List Nat:=match o with
 | some d=>d.cps.toList
 | none=>[]
noncomputable def mapC (l:List Nat):List Char:=@List.rec Nat (fun _=>List Char) [] (fun a _ ih=>Char.ofNat a::ih) l
noncomputable def mapN (l:List Char):List Nat:=@List.rec Char (fun _=>List Nat) [] (fun a _ ih=>a.toNat::ih) l
theorem mapN_eq:∀l:List Char,l.map Char.toNat=mapN l
 | []=>rfl
 | a::l=>congrArg (a.toNat:: ·) (mapN_eq l)
theorem ofM (ns:List Nat)(h:mapN (mapC ns)=ns):sO (String.ofList (mapC ns))=⟨⟨ns⟩⟩:=by
 rw[PySem.W.Fast.ofString_ofList,mapN_eq,h]
noncomputable def r5 (j:Nat):jW:=(bQ (cB 5)).getD j (.Pass ⟨0,0,0,0⟩)
noncomputable def q5 (j:Nat):jW:=(bQ (r5 j)).headD (.Pass ⟨0,0,0,0⟩)
noncomputable def st0:jW:=by
 refine(?g:(b:jW)→(cB 0=b)→jW) ?b ?h
 case h=>conv=>lhs;whnf;first | (simp[ofS];dsimp only[OfNat.ofNat]) | skip
 case g=>exact fun b _=>b
noncomputable def st1:jW:=by
 refine(?g:(b:jW)→(cB 1=b)→jW) ?b ?h
 case h=>conv=>lhs;whnf;first | (simp[ofS];dsimp only[OfNat.ofNat]) | skip
 case g=>exact fun b _=>b
noncomputable def st2:jW:=by
 refine(?g:(b:jW)→(cB 2=b)→jW) ?b ?h
 case h=>conv=>lhs;whnf;first | (simp[ofS];dsimp only[OfNat.ofNat]) | skip
 case g=>exact fun b _=>b
noncomputable def st3:jW:=by
 refine(?g:(b:jW)→(cB 3=b)→jW) ?b ?h
 case h=>conv=>lhs;whnf;first | (simp[ofS];dsimp only[OfNat.ofNat]) | skip
 case g=>exact fun b _=>b
noncomputable def st4:jW:=by
 refine(?g:(b:jW)→(cB 4=b)→jW) ?b ?h
 case h=>conv=>lhs;whnf;first | (simp[ofS];dsimp only[OfNat.ofNat]) | skip
 case g=>exact fun b _=>b
noncomputable def st6:jW:=by
 refine(?g:(b:jW)→(cB 6=b)→jW) ?b ?h
 case h=>conv=>lhs;whnf;first | (simp[ofS];dsimp only[OfNat.ofNat]) | skip
 case g=>exact fun b _=>b
noncomputable def st7:jW:=by
 refine(?g:(b:jW)→(cB 7=b)→jW) ?b ?h
 case h=>conv=>lhs;whnf;first | (simp[ofS];dsimp only[OfNat.ofNat]) | skip
 case g=>exact fun b _=>b
noncomputable def st8:jW:=by
 refine(?g:(b:jW)→(cB 8=b)→jW) ?b ?h
 case h=>conv=>lhs;whnf;first | (simp[ofS];dsimp only[OfNat.ofNat]) | skip
 case g=>exact fun b _=>b
noncomputable def st9:jW:=by
 refine(?g:(b:jW)→(cB 9=b)→jW) ?b ?h
 case h=>conv=>lhs;whnf;first | (simp[ofS];dsimp only[OfNat.ofNat]) | skip
 case g=>exact fun b _=>b
noncomputable def st10:jW:=by
 refine(?g:(b:jW)→(cB 10=b)→jW) ?b ?h
 case h=>conv=>lhs;whnf;first | (simp[ofS];dsimp only[OfNat.ofNat]) | skip
 case g=>exact fun b _=>b
noncomputable def st11:jW:=by
 refine(?g:(b:jW)→(cB 11=b)→jW) ?b ?h
 case h=>conv=>lhs;whnf;first | (simp[ofS];dsimp only[OfNat.ofNat]) | skip
 case g=>exact fun b _=>b
noncomputable def st12:jW:=by
 refine(?g:(b:jW)→(cB 12=b)→jW) ?b ?h
 case h=>conv=>lhs;whnf;first | (simp[ofS];dsimp only[OfNat.ofNat]) | skip
 case g=>exact fun b _=>b
noncomputable def st13:jW:=by
 refine(?g:(b:jW)→(cB 13=b)→jW) ?b ?h
 case h=>conv=>lhs;whnf;first | (simp[ofS];dsimp only[OfNat.ofNat]) | skip
 case g=>exact fun b _=>b
noncomputable def st14:jW:=by
 refine(?g:(b:jW)→(cB 14=b)→jW) ?b ?h
 case h=>conv=>lhs;whnf;first | (simp[ofS];dsimp only[OfNat.ofNat]) | skip
 case g=>exact fun b _=>b
noncomputable def st15:jW:=by
 refine(?g:(b:jW)→(cB 15=b)→jW) ?b ?h
 case h=>conv=>lhs;whnf;first | (simp[ofS];dsimp only[OfNat.ofNat]) | skip
 case g=>exact fun b _=>b
noncomputable def st16:jW:=by
 refine(?g:(b:jW)→(cB 16=b)→jW) ?b ?h
 case h=>conv=>lhs;whnf;first | (simp[ofS];dsimp only[OfNat.ofNat]) | skip
 case g=>exact fun b _=>b
noncomputable def st17:jW:=by
 refine(?g:(b:jW)→(cB 17=b)→jW) ?b ?h
 case h=>conv=>lhs;whnf;first | (simp[ofS];dsimp only[OfNat.ofNat]) | skip
 case g=>exact fun b _=>b
noncomputable def st18:jW:=by
 refine(?g:(b:jW)→(cB 18=b)→jW) ?b ?h
 case h=>conv=>lhs;whnf;first | (simp[ofS];dsimp only[OfNat.ofNat]) | skip
 case g=>exact fun b _=>b
noncomputable def st19:jW:=by
 refine(?g:(b:jW)→(cB 19=b)→jW) ?b ?h
 case h=>conv=>lhs;whnf;first | (simp[ofS];dsimp only[OfNat.ofNat]) | skip
 case g=>exact fun b _=>b
noncomputable def st20:jW:=by
 refine(?g:(b:jW)→(cB 20=b)→jW) ?b ?h
 case h=>conv=>lhs;whnf;first | (simp[ofS];dsimp only[OfNat.ofNat]) | skip
 case g=>exact fun b _=>b
noncomputable def st21:jW:=by
 refine(?g:(b:jW)→(cB 21=b)→jW) ?b ?h
 case h=>conv=>lhs;whnf;first | (simp[ofS];dsimp only[OfNat.ofNat]) | skip
 case g=>exact fun b _=>b
noncomputable def st22:jW:=by
 refine(?g:(b:jW)→(cB 22=b)→jW) ?b ?h
 case h=>conv=>lhs;whnf;first | (simp[ofS];dsimp only[OfNat.ofNat]) | skip
 case g=>exact fun b _=>b
noncomputable def st23:jW:=by
 refine(?g:(b:jW)→(cB 23=b)→jW) ?b ?h
 case h=>conv=>lhs;whnf;first | (simp[ofS];dsimp only[OfNat.ofNat]) | skip
 case g=>exact fun b _=>b
noncomputable def st24:jW:=by
 refine(?g:(b:jW)→(cB 24=b)→jW) ?b ?h
 case h=>conv=>lhs;whnf;first | (simp[ofS];dsimp only[OfNat.ofNat]) | skip
 case g=>exact fun b _=>b
noncomputable def st25:jW:=by
 refine(?g:(b:jW)→(cB 25=b)→jW) ?b ?h
 case h=>conv=>lhs;whnf;first | (simp[ofS];dsimp only[OfNat.ofNat]) | skip
 case g=>exact fun b _=>b
noncomputable def do0:Option kJ:=by
 refine(?g:(b:Option kJ)→(dO (r5 0)=b)→Option kJ) ?b ?h
 case h=>conv=>lhs;whnf;first | (simp[ofS];dsimp only[OfNat.ofNat]) | skip
 case g=>exact fun b _=>b
noncomputable def dl0:List Nat:=lsO do0
noncomputable def df0:jW:=by
 refine(?g:(b:jW)→(wD (r5 0) ⟨⟨dl0⟩⟩=b)→jW) ?b ?h
 case h=>conv=>lhs;whnf
 case g=>exact fun b _=>b
theorem de0:r5 0=df0:=(show r5 0=wD (r5 0) (sO (String.ofList (mapC dl0))) by kernel_rfl!).trans ((congrArg (wD (r5 0)) (ofM dl0 (by kernel_rfl!))).trans (by kernel_rfl!))
noncomputable def do1:Option kJ:=by
 refine(?g:(b:Option kJ)→(dO (q5 1)=b)→Option kJ) ?b ?h
 case h=>conv=>lhs;whnf;first | (simp[ofS];dsimp only[OfNat.ofNat]) | skip
 case g=>exact fun b _=>b
noncomputable def dl1:List Nat:=lsO do1
noncomputable def df1:jW:=by
 refine(?g:(b:jW)→(wD (q5 1) ⟨⟨dl1⟩⟩=b)→jW) ?b ?h
 case h=>conv=>lhs;whnf
 case g=>exact fun b _=>b
theorem de1:q5 1=df1:=(show q5 1=wD (q5 1) (sO (String.ofList (mapC dl1))) by kernel_rfl!).trans ((congrArg (wD (q5 1)) (ofM dl1 (by kernel_rfl!))).trans (by kernel_rfl!))
noncomputable def do3:Option kJ:=by
 refine(?g:(b:Option kJ)→(dO (q5 3)=b)→Option kJ) ?b ?h
 case h=>conv=>lhs;whnf;first | (simp[ofS];dsimp only[OfNat.ofNat]) | skip
 case g=>exact fun b _=>b
noncomputable def dl3:List Nat:=lsO do3
noncomputable def df3:jW:=by
 refine(?g:(b:jW)→(wD (q5 3) ⟨⟨dl3⟩⟩=b)→jW) ?b ?h
 case h=>conv=>lhs;whnf
 case g=>exact fun b _=>b
theorem de3:q5 3=df3:=(show q5 3=wD (q5 3) (sO (String.ofList (mapC dl3))) by kernel_rfl!).trans ((congrArg (wD (q5 3)) (ofM dl3 (by kernel_rfl!))).trans (by kernel_rfl!))
noncomputable def do4:Option kJ:=by
 refine(?g:(b:Option kJ)→(dO (q5 4)=b)→Option kJ) ?b ?h
 case h=>conv=>lhs;whnf;first | (simp[ofS];dsimp only[OfNat.ofNat]) | skip
 case g=>exact fun b _=>b
noncomputable def dl4:List Nat:=lsO do4
noncomputable def df4:jW:=by
 refine(?g:(b:jW)→(wD (q5 4) ⟨⟨dl4⟩⟩=b)→jW) ?b ?h
 case h=>conv=>lhs;whnf
 case g=>exact fun b _=>b
theorem de4:q5 4=df4:=(show q5 4=wD (q5 4) (sO (String.ofList (mapC dl4))) by kernel_rfl!).trans ((congrArg (wD (q5 4)) (ofM dl4 (by kernel_rfl!))).trans (by kernel_rfl!))
noncomputable def do6:Option kJ:=by
 refine(?g:(b:Option kJ)→(dO (q5 6)=b)→Option kJ) ?b ?h
 case h=>conv=>lhs;whnf;first | (simp[ofS];dsimp only[OfNat.ofNat]) | skip
 case g=>exact fun b _=>b
noncomputable def dl6:List Nat:=lsO do6
noncomputable def df6:jW:=by
 refine(?g:(b:jW)→(wD (q5 6) ⟨⟨dl6⟩⟩=b)→jW) ?b ?h
 case h=>conv=>lhs;whnf
 case g=>exact fun b _=>b
theorem de6:q5 6=df6:=(show q5 6=wD (q5 6) (sO (String.ofList (mapC dl6))) by kernel_rfl!).trans ((congrArg (wD (q5 6)) (ofM dl6 (by kernel_rfl!))).trans (by kernel_rfl!))
noncomputable def do7:Option kJ:=by
 refine(?g:(b:Option kJ)→(dO (q5 7)=b)→Option kJ) ?b ?h
 case h=>conv=>lhs;whnf;first | (simp[ofS];dsimp only[OfNat.ofNat]) | skip
 case g=>exact fun b _=>b
noncomputable def dl7:List Nat:=lsO do7
noncomputable def df7:jW:=by
 refine(?g:(b:jW)→(wD (q5 7) ⟨⟨dl7⟩⟩=b)→jW) ?b ?h
 case h=>conv=>lhs;whnf
 case g=>exact fun b _=>b
theorem de7:q5 7=df7:=(show q5 7=wD (q5 7) (sO (String.ofList (mapC dl7))) by kernel_rfl!).trans ((congrArg (wD (q5 7)) (ofM dl7 (by kernel_rfl!))).trans (by kernel_rfl!))
noncomputable def do8:Option kJ:=by
 refine(?g:(b:Option kJ)→(dO (q5 8)=b)→Option kJ) ?b ?h
 case h=>conv=>lhs;whnf;first | (simp[ofS];dsimp only[OfNat.ofNat]) | skip
 case g=>exact fun b _=>b
noncomputable def dl8:List Nat:=lsO do8
noncomputable def df8:jW:=by
 refine(?g:(b:jW)→(wD (q5 8) ⟨⟨dl8⟩⟩=b)→jW) ?b ?h
 case h=>conv=>lhs;whnf
 case g=>exact fun b _=>b
theorem de8:q5 8=df8:=(show q5 8=wD (q5 8) (sO (String.ofList (mapC dl8))) by kernel_rfl!).trans ((congrArg (wD (q5 8)) (ofM dl8 (by kernel_rfl!))).trans (by kernel_rfl!))
noncomputable def do10:Option kJ:=by
 refine(?g:(b:Option kJ)→(dO (q5 10)=b)→Option kJ) ?b ?h
 case h=>conv=>lhs;whnf;first | (simp[ofS];dsimp only[OfNat.ofNat]) | skip
 case g=>exact fun b _=>b
noncomputable def dl10:List Nat:=lsO do10
noncomputable def df10:jW:=by
 refine(?g:(b:jW)→(wD (q5 10) ⟨⟨dl10⟩⟩=b)→jW) ?b ?h
 case h=>conv=>lhs;whnf
 case g=>exact fun b _=>b
theorem de10:q5 10=df10:=(show q5 10=wD (q5 10) (sO (String.ofList (mapC dl10))) by kernel_rfl!).trans ((congrArg (wD (q5 10)) (ofM dl10 (by kernel_rfl!))).trans (by kernel_rfl!))
noncomputable def ft1:List jW:=by
 refine(?g:(b:List jW)→((bQ (r5 1)).tail=b)→List jW) ?b ?h
 case h=>conv=>lhs;whnf;first | (simp[ofS];dsimp only[OfNat.ofNat]) | skip
 case g=>exact fun b _=>b
noncomputable def fm1:jW:=by
 refine(?g:(b:jW)→(wB (r5 1) (df1::ft1)=b)→jW) ?b ?h
 case h=>conv=>lhs;whnf;first | (simp[ofS];dsimp only[OfNat.ofNat]) | skip
 case g=>exact fun b _=>b
theorem fe1:r5 1=fm1:=(show r5 1=wB (r5 1) (q5 1::(bQ (r5 1)).tail) by kernel_rfl!).trans (by rw[de1];kernel_rfl!)
noncomputable def fm2:jW:=by
 refine(?g:(b:jW)→(r5 2=b)→jW) ?b ?h
 case h=>conv=>lhs;whnf;first | (simp[ofS];dsimp only[OfNat.ofNat]) | skip
 case g=>exact fun b _=>b
theorem fe2:r5 2=fm2:=by kernel_rfl!
noncomputable def ft3:List jW:=by
 refine(?g:(b:List jW)→((bQ (r5 3)).tail=b)→List jW) ?b ?h
 case h=>conv=>lhs;whnf;first | (simp[ofS];dsimp only[OfNat.ofNat]) | skip
 case g=>exact fun b _=>b
noncomputable def fm3:jW:=by
 refine(?g:(b:jW)→(wB (r5 3) (df3::ft3)=b)→jW) ?b ?h
 case h=>conv=>lhs;whnf;first | (simp[ofS];dsimp only[OfNat.ofNat]) | skip
 case g=>exact fun b _=>b
theorem fe3:r5 3=fm3:=(show r5 3=wB (r5 3) (q5 3::(bQ (r5 3)).tail) by kernel_rfl!).trans (by rw[de3];kernel_rfl!)
noncomputable def ft4:List jW:=by
 refine(?g:(b:List jW)→((bQ (r5 4)).tail=b)→List jW) ?b ?h
 case h=>conv=>lhs;whnf;first | (simp[ofS];dsimp only[OfNat.ofNat]) | skip
 case g=>exact fun b _=>b
noncomputable def fm4:jW:=by
 refine(?g:(b:jW)→(wB (r5 4) (df4::ft4)=b)→jW) ?b ?h
 case h=>conv=>lhs;whnf;first | (simp[ofS];dsimp only[OfNat.ofNat]) | skip
 case g=>exact fun b _=>b
theorem fe4:r5 4=fm4:=(show r5 4=wB (r5 4) (q5 4::(bQ (r5 4)).tail) by kernel_rfl!).trans (by rw[de4];kernel_rfl!)
noncomputable def fm5:jW:=by
 refine(?g:(b:jW)→(r5 5=b)→jW) ?b ?h
 case h=>conv=>lhs;whnf;first | (simp[ofS];dsimp only[OfNat.ofNat]) | skip
 case g=>exact fun b _=>b
theorem fe5:r5 5=fm5:=by kernel_rfl!
noncomputable def ft6:List jW:=by
 refine(?g:(b:List jW)→((bQ (r5 6)).tail=b)→List jW) ?b ?h
 case h=>conv=>lhs;whnf;first | (simp[ofS];dsimp only[OfNat.ofNat]) | skip
 case g=>exact fun b _=>b
noncomputable def fm6:jW:=by
 refine(?g:(b:jW)→(wB (r5 6) (df6::ft6)=b)→jW) ?b ?h
 case h=>conv=>lhs;whnf;first | (simp[ofS];dsimp only[OfNat.ofNat]) | skip
 case g=>exact fun b _=>b
theorem fe6:r5 6=fm6:=(show r5 6=wB (r5 6) (q5 6::(bQ (r5 6)).tail) by kernel_rfl!).trans (by rw[de6];kernel_rfl!)
noncomputable def ft7:List jW:=by
 refine(?g:(b:List jW)→((bQ (r5 7)).tail=b)→List jW) ?b ?h
 case h=>conv=>lhs;whnf;first | (simp[ofS];dsimp only[OfNat.ofNat]) | skip
 case g=>exact fun b _=>b
noncomputable def fm7:jW:=by
 refine(?g:(b:jW)→(wB (r5 7) (df7::ft7)=b)→jW) ?b ?h
 case h=>conv=>lhs;whnf;first | (simp[ofS];dsimp only[OfNat.ofNat]) | skip
 case g=>exact fun b _=>b
theorem fe7:r5 7=fm7:=(show r5 7=wB (r5 7) (q5 7::(bQ (r5 7)).tail) by kernel_rfl!).trans (by rw[de7];kernel_rfl!)
noncomputable def ft8:List jW:=by
 refine(?g:(b:List jW)→((bQ (r5 8)).tail=b)→List jW) ?b ?h
 case h=>conv=>lhs;whnf;first | (simp[ofS];dsimp only[OfNat.ofNat]) | skip
 case g=>exact fun b _=>b
noncomputable def fm8:jW:=by
 refine(?g:(b:jW)→(wB (r5 8) (df8::ft8)=b)→jW) ?b ?h
 case h=>conv=>lhs;whnf;first | (simp[ofS];dsimp only[OfNat.ofNat]) | skip
 case g=>exact fun b _=>b
theorem fe8:r5 8=fm8:=(show r5 8=wB (r5 8) (q5 8::(bQ (r5 8)).tail) by kernel_rfl!).trans (by rw[de8];kernel_rfl!)
noncomputable def fm9:jW:=by
 refine(?g:(b:jW)→(r5 9=b)→jW) ?b ?h
 case h=>conv=>lhs;whnf;first | (simp[ofS];dsimp only[OfNat.ofNat]) | skip
 case g=>exact fun b _=>b
theorem fe9:r5 9=fm9:=by kernel_rfl!
noncomputable def ft10:List jW:=by
 refine(?g:(b:List jW)→((bQ (r5 10)).tail=b)→List jW) ?b ?h
 case h=>conv=>lhs;whnf;first | (simp[ofS];dsimp only[OfNat.ofNat]) | skip
 case g=>exact fun b _=>b
noncomputable def fm10:jW:=by
 refine(?g:(b:jW)→(wB (r5 10) (df10::ft10)=b)→jW) ?b ?h
 case h=>conv=>lhs;whnf;first | (simp[ofS];dsimp only[OfNat.ofNat]) | skip
 case g=>exact fun b _=>b
theorem fe10:r5 10=fm10:=(show r5 10=wB (r5 10) (q5 10::(bQ (r5 10)).tail) by kernel_rfl!).trans (by rw[de10];kernel_rfl!)
noncomputable def fm11:jW:=by
 refine(?g:(b:jW)→(r5 11=b)→jW) ?b ?h
 case h=>conv=>lhs;whnf;first | (simp[ofS];dsimp only[OfNat.ofNat]) | skip
 case g=>exact fun b _=>b
theorem fe11:r5 11=fm11:=by kernel_rfl!
noncomputable def fm12:jW:=by
 refine(?g:(b:jW)→(r5 12=b)→jW) ?b ?h
 case h=>conv=>lhs;whnf;first | (simp[ofS];dsimp only[OfNat.ofNat]) | skip
 case g=>exact fun b _=>b
theorem fe12:r5 12=fm12:=by kernel_rfl!
noncomputable def st5:jW:=by
 refine(?g:(b:jW)→(wB (cB 5) [df0,fm1,fm2,fm3,fm4,fm5,fm6,fm7,fm8,fm9,fm10,fm11,fm12]=b)→jW) ?b ?h
 case h=>conv=>lhs;whnf;first | (simp[ofS];dsimp only[OfNat.ofNat]) | skip
 case g=>exact fun b _=>b
noncomputable def scP:Scope:=by
 refine(?g:(b:Scope)→(kX.main.scope=b)→Scope) ?b ?h
 case h=>conv=>lhs;whnf;first | (simp[ofS];dsimp only[OfNat.ofNat]) | skip
 case g=>exact fun b _=>b
noncomputable def gvP:Given:=by
 refine(?g:(b:Given)→(kX.given=b)→Given) ?b ?h
 case h=>conv=>lhs;whnf;first | (simp[ofS];dsimp only[OfNat.ofNat]) | skip
 case g=>exact fun b _=>b
noncomputable def pgR (s:jW):kQ:={main:={body:=[st0,st1,st2,st3,st4,s,st6,st7,st8,st9,st10,st11,st12,st13,st14,st15,st16,st17,st18,st19,st20,st21,st22,st23,st24,st25],scope:=scP,futureAnnotations:=false,file:="/claim/cut.py",more:=[]},modules:=[],parses:=[],absent:=[],harvested:=[],given:=gvP}
noncomputable def pg:kQ:=pgR st5
theorem e5:cB 5=st5:=(show cB 5=wB (cB 5) [r5 0,r5 1,r5 2,r5 3,r5 4,r5 5,r5 6,r5 7,r5 8,r5 9,r5 10,r5 11,r5 12] by kernel_rfl!).trans (by rw[de0,fe1,fe2,fe3,fe4,fe5,fe6,fe7,fe8,fe9,fe10,fe11,fe12];kernel_rfl!)
theorem fA:kX=pg:=(show kX=pgR (cB 5) by kernel_rfl!).trans (by rw[e5];rfl)
noncomputable def stAt (q:kQ)(i:Nat):jW:=q.main.body.getD i (.Pass ⟨0,0,0,0⟩)
noncomputable def aT (q:kQ)(i j:Nat):jW:=match stAt q i with
 | .ClassDef _ _ _ b _ _ _ _ _ _ _=>b.getD j (.Pass ⟨0,0,0,0⟩)
 | st=>st
noncomputable def sdoc (st:jW):kJ:=match st with
 | .FunctionDef _ _ b _ _ _ _ _ _ _=>(docOf b).getD Str.empty
 | .ClassDef _ _ _ b _ _ _ _ _ _ _=>(docOf b).getD Str.empty
 | _=>Str.empty
noncomputable def fd (st:jW)(qual:kJ)(g:jQ)(cl:List (kJ×jQ))(d k doc pm:jL)(an:Option jQ)(code ct:jL)(b:jQ):FuncData:=match st with
 | .FunctionDef n a bd _ _ _ sc _ _ _=>{name:=n,qualname:=qual,params:=a,body:=.stmts bd,scope:=sc,globals:=g,closure:=cl,defaults:=d,kwdefaults:=k,doc:=doc,pyModule:=pm,annotations:=an,code:=code,closureTuple:=ct,builtins:=b}
 | _=>default
section
variable (q:kQ)(P:jT)
noncomputable def aH:kK:=⟨(vt "tuple"),none,(lK #[] 0),#[]⟩
noncomputable def bC:kK:=⟨vn,none,(lG #[]),#[]⟩
noncomputable def i_13:kK:=⟨(vt "code"),none,(lG #[(vs (sO "<module>") 182),(vs (sO "<module>") 183),(vs (sO "/claim/cut.py") 184),(vi 1 0),(vi 0 0),(vi 0 0),(vi 0 0),(vi 0 0),(vr 11),(Value.bool false),(vi 181 0),(vr 12),vn,vn,vn,vn,(vi 185 0),(vi 1 0),(vs (sO "/claim/cut.py") 186)]),#[]⟩
noncomputable def i_14:kK:=⟨(vt "frame"),none,oC,#[some (vr 13),some (vr 3),some (vr 3),none,some (vs (sO "__main__") 164),none,some (vr 0)]⟩
noncomputable def u_3:kK:=⟨(vt "dict"),none,(mL (mE [⟨kh P (sO "__name__"),vs (sO "__name__") 165,(vs (sO "law_pd0123_01") 650)⟩,⟨kh P (sO "__doc__"),vs (sO "__doc__") 166,vn⟩,⟨kh P (sO "__package__"),vs (sO "__package__") 167,vn⟩,⟨kh P (sO "__loader__"),vs (sO "__loader__") 168,(Value.builtin "__main__.__loader__#opaque")⟩,⟨kh P (sO "__spec__"),vs (sO "__spec__") 169,vn⟩,⟨kh P (sO "__annotations__"),vs (sO "__annotations__") 170,(vr 6)⟩,⟨kh P (sO "__builtins__"),vs (sO "__builtins__") 171,(vr 4)⟩,⟨kh P (sO "__file__"),vs (sO "__file__") 173,(vs (sO "/claim/cut.py") 172)⟩,⟨kh P (sO "__cached__"),vs (sO "__cached__") 174,vn⟩,⟨kh P (sO "_wall"),vs (sO "_wall") 193,(vr 21)⟩,⟨kh P (sO "_tuplegetter"),vs (sO "_tuplegetter") 252,(vr 60)⟩,⟨kh P (sO "Match"),vs (sO "Match") 380,(vr 135)⟩,⟨kh P (sO "_calculate_ratio"),vs (sO "_calculate_ratio") 388,(vr 145)⟩,⟨kh P (sO "SequenceMatcher"),vs (sO "SequenceMatcher") 582,(vr 242)⟩,⟨kh P (sO "_buffer"),vs (sO "_buffer") 592,(vr 253)⟩,⟨kh P (sO "_truth"),vs (sO "_truth") 600,(vr 260)⟩,⟨kh P (sO "_B64"),vs (sO "_B64") 602,(Value.bytes #[65,66,67,68,69,70,71,72,73,74,75,76,77,78,79,80,81,82,83,84,85,86,87,88,89,90,97,98,99,100,101,102,103,104,105,106,107,108,109,110,111,112,113,114,115,116,117,118,119,120,121,122,48,49,50,51,52,53,54,55,56,57,43,47] 601)⟩,⟨kh P (sO "b2a_base64"),vs (sO "b2a_base64") 616,(vr 268)⟩,⟨kh P (sO "_NO_SEP"),vs (sO "_NO_SEP") 617,(vr 269)⟩,⟨kh P (sO "b2a_hex"),vs (sO "b2a_hex") 628,(vr 277)⟩,⟨kh P (sO "hexlify"),vs (sO "hexlify") 629,(vr 277)⟩,⟨kh P (sO "b64encode"),vs (sO "b64encode") 641,(vr 285)⟩,⟨kh P (sO "b16encode"),vs (sO "b16encode") 649,(vr 292)⟩,⟨kh P (sO "_law_octets"),vs (sO "_law_octets") 659,(vr 299)⟩,⟨kh P (sO "_law_written"),vs (sO "_law_written") 665,(vr 304)⟩,⟨kh P (sO "_law_block"),vs (sO "_law_block") 682,(vr 311)⟩,⟨kh P (sO "_law_places"),vs (sO "_law_places") 688,(vr 316)⟩,⟨kh P (sO "_law_due"),vs (sO "_law_due") 706,(vr 323)⟩,⟨kh P (sO "_law_told"),vs (sO "_law_told") 712,(vr 328)⟩,⟨kh P (sO "_law_times"),vs (sO "_law_times") 718,(vr 333)⟩,⟨kh P (sO "law"),vs (sO "law") 737,(vr 340)⟩]) 31),#[]⟩
noncomputable def u_12:kK:=⟨vn,none,(lG #[(vi 1 0),(vi 0 0),(vr 20),(vi 5 0),(vi 0 0),(vr 27),(vi 23 0),(vi 0 0),(vr 71),(vi 66 0),(vi 0 0),(vr 144),(vi 70 0),(vi 0 0),(vr 151),(vi 463 0),(vi 0 0),(vr 252),(vi 470 0),(vi 0 0),(vr 259),(vi 476 0),(vi 0 0),(vr 267),(vi 499 0),(vi 0 0),(vr 276),(vi 517 0),(vi 0 0),(vr 284),(vi 529 0),(vi 0 0),(vr 291),(vi 534 0),(vi 0 0),(vr 298),(vi 537 0),(vi 0 0),(vr 303),(vi 543 0),(vi 0 0),(vr 310),(vi 560 0),(vi 0 0),(vr 315),(vi 566 0),(vi 0 0),(vr 322),(vi 584 0),(vi 0 0),(vr 327),(vi 587 0),(vi 0 0),(vr 332),(vi 591 0),(vi 0 0),(vr 339)]),#[]⟩
noncomputable def u_17:kK:=⟨(vt "tuple"),none,(lK #[(vs (sO "k") 190)] 0),#[]⟩
noncomputable def u_19:kK:=⟨vn,none,(lD (fd (stAt q 0) (sO "_wall") 0 [] vn vn vn vn none vn vn 0)),#[]⟩
noncomputable def u_20:kK:=⟨(vt "code"),none,(lG #[(vs (sO "_wall") 187),(vs (sO "_wall") 188),(vs (sO "/claim/cut.py") 189),(vi 1 0),(vi 1 0),(vi 0 0),(vi 0 0),(vi 3 0),(vr 15),(Value.bool true),(vi 181 0),(vr 16),vn,(vr 17),(vr 18),(vr 19),(vi 191 0),(vi 1 0),(vs (sO "/claim/cut.py") 192)]),#[]⟩
noncomputable def u_21:kK:=⟨(vt "function"),none,(lD (fd (stAt q 0) (sO "_wall") 3 [] vn vn vn (vs (sO "__main__") 164) none (vr 20) vn 0)),#[]⟩
noncomputable def u_23:kK:=⟨(vt "builtin_function_or_method"),none,(lG #[(Value.builtin "type.__prepare__"),(vt "type")]),#[]⟩
noncomputable def u_24:kK:=⟨(vt "dict"),none,(mL (mE [⟨kh P (sO "__module__"),vs (sO "__module__") 203,(vs (sO "cpy313.difflib") 194)⟩,⟨kh P (sO "__qualname__"),vs (sO "__qualname__") 205,(vs (sO "_tuplegetter") 204)⟩,⟨kh P (sO "__firstlineno__"),vs (sO "__firstlineno__") 207,(vi 5 206)⟩,⟨kh P (sO "__init__"),vs (sO "__init__") 216,(vr 35)⟩,⟨kh P (sO "__get__"),vs (sO "__get__") 225,(vr 43)⟩,⟨kh P (sO "__set__"),vs (sO "__set__") 234,(vr 50)⟩,⟨kh P (sO "__delete__"),vs (sO "__delete__") 242,(vr 57)⟩,⟨kh P (sO "__static_attributes__"),vs (sO "__static_attributes__") 245,(vr 58)⟩]) 8),#[]⟩
noncomputable def u_26:kK:=⟨vn,none,(lG #[(vi 7 0),(vi 4 0),(vr 34),(vi 11 0),(vi 4 0),(vr 42),(vi 18 0),(vi 4 0),(vr 49),(vi 21 0),(vi 4 0),(vr 56)]),#[]⟩
noncomputable def u_27:kK:=⟨(vt "code"),none,(lG #[(vs (sO "_tuplegetter") 198),(vs (sO "_tuplegetter") 199),(vs (sO "/claim/cut.py") 200),(vi 5 0),(vi 0 0),(vi 0 0),(vi 0 0),(vi 0 0),(vr 25),(Value.bool false),(vi 181 0),(vr 26),vn,vn,vn,vn,(vi 201 0),(vi 5 0),(vs (sO "/claim/cut.py") 202)]),#[]⟩
noncomputable def u_28:kK:=⟨(vt "frame"),none,oC,#[some (vr 27),some (vr 3),some (vr 24),none,some (vs (sO "cpy313.difflib") 194),none,some (vr 0)]⟩
noncomputable def u_31:kK:=⟨(vt "tuple"),none,(lK #[(vs (sO "self") 211),(vs (sO "index") 212),(vs (sO "doc") 213)] 0),#[]⟩
noncomputable def u_33:kK:=⟨vn,none,(lD (fd (aT q 2 0) (sO "_tuplegetter.__init__") 0 [] vn vn vn vn none vn vn 0)),#[]⟩
noncomputable def u_34:kK:=⟨(vt "code"),none,(lG #[(vs (sO "__init__") 208),(vs (sO "_tuplegetter.__init__") 209),(vs (sO "/claim/cut.py") 210),(vi 7 0),(vi 3 0),(vi 0 0),(vi 0 0),(vi 3 0),(vr 29),(Value.bool true),(vi 181 0),(vr 30),vn,(vr 31),(vr 32),(vr 33),(vi 214 0),(vi 7 0),(vs (sO "/claim/cut.py") 215)]),#[]⟩
noncomputable def u_35:kK:=⟨(vt "function"),none,(lD (fd (aT q 2 0) (sO "_tuplegetter.__init__") 3 [] vn vn vn (vs (sO "cpy313.difflib") 194) none (vr 34) vn 0)),#[]⟩
noncomputable def u_36:kK:=⟨(vt "tuple"),none,(lK #[vn] 0),#[]⟩
noncomputable def u_39:kK:=⟨(vt "tuple"),none,(lK #[(vs (sO "self") 220),(vs (sO "obj") 221),(vs (sO "objtype") 222)] 0),#[]⟩
noncomputable def u_41:kK:=⟨vn,none,(lD (fd (aT q 2 1) (sO "_tuplegetter.__get__") 0 [] vn vn vn vn none vn vn 0)),#[]⟩
noncomputable def u_42:kK:=⟨(vt "code"),none,(lG #[(vs (sO "__get__") 217),(vs (sO "_tuplegetter.__get__") 218),(vs (sO "/claim/cut.py") 219),(vi 11 0),(vi 3 0),(vi 0 0),(vi 0 0),(vi 3 0),(vr 37),(Value.bool true),(vi 181 0),(vr 38),vn,(vr 39),(vr 40),(vr 41),(vi 223 0),(vi 11 0),(vs (sO "/claim/cut.py") 224)]),#[]⟩
noncomputable def u_43:kK:=⟨(vt "function"),none,(lD (fd (aT q 2 1) (sO "_tuplegetter.__get__") 3 [] (vr 36) vn vn (vs (sO "cpy313.difflib") 194) none (vr 42) vn 0)),#[]⟩
noncomputable def u_46:kK:=⟨(vt "tuple"),none,(lK #[(vs (sO "self") 229),(vs (sO "obj") 230),(vs (sO "value") 231)] 0),#[]⟩
noncomputable def u_48:kK:=⟨vn,none,(lD (fd (aT q 2 2) (sO "_tuplegetter.__set__") 0 [] vn vn vn vn none vn vn 0)),#[]⟩
noncomputable def u_49:kK:=⟨(vt "code"),none,(lG #[(vs (sO "__set__") 226),(vs (sO "_tuplegetter.__set__") 227),(vs (sO "/claim/cut.py") 228),(vi 18 0),(vi 3 0),(vi 0 0),(vi 0 0),(vi 3 0),(vr 44),(Value.bool true),(vi 181 0),(vr 45),vn,(vr 46),(vr 47),(vr 48),(vi 232 0),(vi 18 0),(vs (sO "/claim/cut.py") 233)]),#[]⟩
noncomputable def u_50:kK:=⟨(vt "function"),none,(lD (fd (aT q 2 2) (sO "_tuplegetter.__set__") 3 [] vn vn vn (vs (sO "cpy313.difflib") 194) none (vr 49) vn 0)),#[]⟩
noncomputable def u_53:kK:=⟨(vt "tuple"),none,(lK #[(vs (sO "self") 238),(vs (sO "obj") 239)] 0),#[]⟩
noncomputable def u_55:kK:=⟨vn,none,(lD (fd (aT q 2 3) (sO "_tuplegetter.__delete__") 0 [] vn vn vn vn none vn vn 0)),#[]⟩
noncomputable def u_56:kK:=⟨(vt "code"),none,(lG #[(vs (sO "__delete__") 235),(vs (sO "_tuplegetter.__delete__") 236),(vs (sO "/claim/cut.py") 237),(vi 21 0),(vi 2 0),(vi 0 0),(vi 0 0),(vi 3 0),(vr 51),(Value.bool true),(vi 181 0),(vr 52),vn,(vr 53),(vr 54),(vr 55),(vi 240 0),(vi 21 0),(vs (sO "/claim/cut.py") 241)]),#[]⟩
noncomputable def u_57:kK:=⟨(vt "function"),none,(lD (fd (aT q 2 3) (sO "_tuplegetter.__delete__") 3 [] vn vn vn (vs (sO "cpy313.difflib") 194) none (vr 56) vn 0)),#[]⟩
noncomputable def u_58:kK:=⟨(vt "tuple"),none,(lK #[(vs (sO "__doc__") 243),(vs (sO "index") 244)] 0),#[]⟩
noncomputable def u_59:kK:=⟨(vt "dict"),none,(mL (mE [⟨kh P (sO "__module__"),vs (sO "__module__") 203,(vs (sO "cpy313.difflib") 194)⟩,⟨kh P (sO "__firstlineno__"),vs (sO "__firstlineno__") 207,(vi 5 206)⟩,⟨kh P (sO "__init__"),vs (sO "__init__") 216,(vr 35)⟩,⟨kh P (sO "__get__"),vs (sO "__get__") 225,(vr 43)⟩,⟨kh P (sO "__set__"),vs (sO "__set__") 234,(vr 50)⟩,⟨kh P (sO "__delete__"),vs (sO "__delete__") 242,(vr 57)⟩,⟨kh P (sO "__static_attributes__"),vs (sO "__static_attributes__") 245,(vr 58)⟩,⟨kh P (sO "__dict__"),vs (sO "__dict__") 247,(vr 61)⟩,⟨kh P (sO "__weakref__"),vs (sO "__weakref__") 249,(vr 62)⟩,⟨kh P (sO "__doc__"),vs (sO "__doc__") 250,vn⟩]) 4),#[]⟩
noncomputable def u_60:kK:=⟨(vt "type"),none,(Data.cls ⟨(sO "_tuplegetter"),[(vt "object")],[(vr 60),(vt "object")],59,(sO "_tuplegetter"),true,[],[],false,none,false⟩),#[none,none,some (vs (sO "_tuplegetter") 196),some (vs (sO "_tuplegetter") 204),some (Value.builtin "object.__new__"),some (Value.bool true)]⟩
noncomputable def u_61:kK:=⟨(vt "getset_descriptor"),none,(lG #[(vs (sO "__dict__") 246),(vr 60),(Value.builtin "function.__dict__"),(Value.builtin "function.__dict__#set")]),#[]⟩
noncomputable def u_62:kK:=⟨(vt "getset_descriptor"),none,(lG #[(vs (sO "__weakref__") 248),(vr 60),(Value.builtin "ExceptionGroup.__weakref__"),vn]),#[]⟩
noncomputable def u_63:kK:=⟨(vt "super"),none,(lG #[(vr 60),(vr 60),(vr 60)]),#[]⟩
noncomputable def u_64:kK:=⟨(vt "builtin_function_or_method"),none,(lG #[(Value.builtin "object.__init_subclass__"),(vr 60)]),#[]⟩
noncomputable def u_65:kK:=⟨(vt "tuple"),none,(lK #[(vt "tuple")] 0),#[]⟩
noncomputable def u_67:kK:=⟨(vt "dict"),none,(mL (mE [⟨kh P (sO "__module__"),vs (sO "__module__") 260,(vs (sO "cpy313.difflib") 194)⟩,⟨kh P (sO "__qualname__"),vs (sO "__qualname__") 262,(vs (sO "Match") 261)⟩,⟨kh P (sO "__firstlineno__"),vs (sO "__firstlineno__") 264,(vi 23 263)⟩,⟨kh P (sO "__doc__"),vs (sO "__doc__") 266,(vs (sdoc (stAt q 3)) 265)⟩,⟨kh P (sO "__slots__"),vs (sO "__slots__") 268,(vr 73)⟩,⟨kh P (sO "_fields"),vs (sO "_fields") 272,(vr 74)⟩,⟨kh P (sO "_field_defaults"),vs (sO "_field_defaults") 273,(vr 75)⟩,⟨kh P (sO "__new__"),vs (sO "__new__") 284,(vr 82)⟩,⟨kh P (sO "_make"),vs (sO "_make") 306,(vr 91)⟩,⟨kh P (sO "_replace"),vs (sO "_replace") 317,(vr 100)⟩,⟨kh P (sO "__replace__"),vs (sO "__replace__") 318,(vr 100)⟩,⟨kh P (sO "__repr__"),vs (sO "__repr__") 326,(vr 107)⟩,⟨kh P (sO "_asdict"),vs (sO "_asdict") 333,(vr 114)⟩,⟨kh P (sO "__getnewargs__"),vs (sO "__getnewargs__") 341,(vr 121)⟩,⟨kh P (sO "__match_args__"),vs (sO "__match_args__") 345,(vr 122)⟩,⟨kh P (sO "a"),vs (sO "a") 355,(vr 124)⟩,⟨kh P (sO "b"),vs (sO "b") 365,(vr 127)⟩,⟨kh P (sO "size"),vs (sO "size") 375,(vr 130)⟩,⟨kh P (sO "__static_attributes__"),vs (sO "__static_attributes__") 376,(vr 132)⟩,⟨kh P (sO "__classcell__"),vs (sO "__classcell__") 377,(vr 68)⟩]) 20),#[]⟩
noncomputable def u_68:kK:=⟨(vt "cell"),none,(Data.cell (some (vr 135))),#[]⟩
noncomputable def u_70:kK:=⟨vn,none,(lG #[(vi 29 0),(vi 4 0),(vr 81),(vi 34 0),(vi 4 0),(vr 88),(vi 41 0),(vi 4 0),(vr 99),(vi 52 0),(vi 4 0),(vr 106),(vi 56 0),(vi 4 0),(vr 113),(vi 59 0),(vi 4 0),(vr 120)]),#[]⟩
noncomputable def u_71:kK:=⟨(vt "code"),none,(lG #[(vs (sO "Match") 255),(vs (sO "Match") 256),(vs (sO "/claim/cut.py") 257),(vi 23 0),(vi 0 0),(vi 0 0),(vi 0 0),(vi 0 0),(vr 69),(Value.bool false),(vi 181 0),(vr 70),vn,vn,vn,vn,(vi 258 0),(vi 23 0),(vs (sO "/claim/cut.py") 259)]),#[]⟩
noncomputable def u_72:kK:=⟨(vt "frame"),none,oC,#[some (vr 71),some (vr 3),some (vr 67),none,some (vs (sO "cpy313.difflib") 194),none,some (vr 0)]⟩
noncomputable def u_74:kK:=⟨(vt "tuple"),none,(lK #[(vs (sO "a") 269),(vs (sO "b") 270),(vs (sO "size") 271)] 0),#[]⟩
noncomputable def u_75:kK:=⟨(vt "dict"),none,(mL (mE []) 0),#[]⟩
noncomputable def u_78:kK:=⟨(vt "tuple"),none,(lK #[(vs (sO "_cls") 277),(vs (sO "a") 278),(vs (sO "b") 279),(vs (sO "size") 280)] 0),#[]⟩
noncomputable def u_80:kK:=⟨vn,none,(lD (fd (aT q 3 4) (sO "Match.__new__") 0 [] vn vn vn vn none vn vn 0)),#[]⟩
noncomputable def u_81:kK:=⟨(vt "code"),none,(lG #[(vs (sO "__new__") 274),(vs (sO "Match.__new__") 275),(vs (sO "/claim/cut.py") 276),(vi 29 0),(vi 4 0),(vi 0 0),(vi 0 0),(vi 3 0),(vr 76),(Value.bool true),(vi 181 0),(vr 77),vn,(vr 78),(vr 79),(vr 80),(vi 281 0),(vi 29 0),(vs (sO "/claim/cut.py") 282)]),#[]⟩
noncomputable def u_82:kK:=⟨(vt "function"),none,(lD (fd (aT q 3 4) (sO "Match.__new__") 3 [] vn vn (vs (sdoc (aT q 3 4)) 283) (vs (sO "cpy313.difflib") 194) none (vr 81) vn 0)),#[]⟩
noncomputable def u_85:kK:=⟨(vt "tuple"),none,(lK #[(vs (sO "cls") 288),(vs (sO "iterable") 289),(vs (sO "result") 290)] 0),#[]⟩
noncomputable def u_87:kK:=⟨vn,none,(lD (fd (aT q 3 5) (sO "Match._make") 0 [] vn vn vn vn none vn vn 0)),#[]⟩
noncomputable def u_88:kK:=⟨(vt "code"),none,(lG #[(vs (sO "_make") 285),(vs (sO "Match._make") 286),(vs (sO "/claim/cut.py") 287),(vi 33 0),(vi 2 0),(vi 0 0),(vi 0 0),(vi 3 0),(vr 83),(Value.bool true),(vi 181 0),(vr 84),vn,(vr 85),(vr 86),(vr 87),(vi 291 0),(vi 33 0),(vs (sO "/claim/cut.py") 292)]),#[]⟩
noncomputable def u_89:kK:=⟨(vt "function"),none,(lD (fd (aT q 3 5) (sO "Match._make") 3 [] vn vn (vs (sdoc (aT q 3 5)) 293) (vs (sO "cpy313.difflib") 194) (some 92) (vr 88) vn 0)),#[]⟩
noncomputable def u_90:kK:=⟨(vt "dict"),none,(mL (mE [⟨kh P (sO "__module__"),vs (sO "__module__") 295,(vs (sO "cpy313.difflib") 194)⟩,⟨kh P (sO "__name__"),vs (sO "__name__") 298,(vs (sO "_make") 297)⟩,⟨kh P (sO "__qualname__"),vs (sO "__qualname__") 301,(vs (sO "Match._make") 300)⟩,⟨kh P (sO "__doc__"),vs (sO "__doc__") 303,(vs (sdoc (aT q 3 5)) 293)⟩,⟨kh P (sO "__annotations__"),vs (sO "__annotations__") 305,(vr 92)⟩]) 5),#[]⟩
noncomputable def u_91:kK:=⟨(vt "classmethod"),(some 90),(lG #[(vr 89),(Value.bool false)]),#[]⟩
noncomputable def u_92:kK:=⟨(vt "dict"),none,(mL (mE []) 0),#[]⟩
noncomputable def u_93:kK:=⟨(vt "tuple"),none,(lK #[(vr 68)] 0),#[]⟩
noncomputable def u_94:kK:=⟨(vt "tuple"),none,(lK #[(vs (sO "__class__") 310)] 0),#[]⟩
noncomputable def u_96:kK:=⟨(vt "tuple"),none,(lK #[(vs (sO "self") 311),(vs (sO "kwds") 312),(vs (sO "result") 313)] 0),#[]⟩
noncomputable def u_98:kK:=⟨vn,none,(lD (fd (aT q 3 6) (sO "Match._replace") 0 [] vn vn vn vn none vn vn 0)),#[]⟩
noncomputable def u_99:kK:=⟨(vt "code"),none,(lG #[(vs (sO "_replace") 307),(vs (sO "Match._replace") 308),(vs (sO "/claim/cut.py") 309),(vi 41 0),(vi 1 0),(vi 1 0),(vi 0 0),(vi 11 0),(vr 94),(Value.bool true),(vi 181 0),(vr 95),vn,(vr 96),(vr 97),(vr 98),(vi 314 0),(vi 41 0),(vs (sO "/claim/cut.py") 315)]),#[]⟩
noncomputable def u_100:kK:=⟨(vt "function"),none,(lD (fd (aT q 3 6) (sO "Match._replace") 3 [((sO "__class__"),68)] vn vn (vs (sdoc (aT q 3 6)) 316) (vs (sO "cpy313.difflib") 194) none (vr 99) (vr 93) 0)),#[]⟩
noncomputable def u_103:kK:=⟨(vt "tuple"),none,(lK #[(vs (sO "self") 322)] 0),#[]⟩
noncomputable def u_105:kK:=⟨vn,none,(lD (fd (aT q 3 8) (sO "Match.__repr__") 0 [] vn vn vn vn none vn vn 0)),#[]⟩
noncomputable def u_106:kK:=⟨(vt "code"),none,(lG #[(vs (sO "__repr__") 319),(vs (sO "Match.__repr__") 320),(vs (sO "/claim/cut.py") 321),(vi 52 0),(vi 1 0),(vi 0 0),(vi 0 0),(vi 3 0),(vr 101),(Value.bool true),(vi 181 0),(vr 102),vn,(vr 103),(vr 104),(vr 105),(vi 323 0),(vi 52 0),(vs (sO "/claim/cut.py") 324)]),#[]⟩
noncomputable def u_107:kK:=⟨(vt "function"),none,(lD (fd (aT q 3 8) (sO "Match.__repr__") 3 [] vn vn (vs (sdoc (aT q 3 8)) 325) (vs (sO "cpy313.difflib") 194) none (vr 106) vn 0)),#[]⟩
noncomputable def u_110:kK:=⟨(vt "tuple"),none,(lK #[(vs (sO "self") 330)] 0),#[]⟩
noncomputable def u_112:kK:=⟨vn,none,(lD (fd (aT q 3 9) (sO "Match._asdict") 0 [] vn vn vn vn none vn vn 0)),#[]⟩
noncomputable def u_113:kK:=⟨(vt "code"),none,(lG #[(vs (sO "_asdict") 327),(vs (sO "Match._asdict") 328),(vs (sO "/claim/cut.py") 329),(vi 56 0),(vi 1 0),(vi 0 0),(vi 0 0),(vi 3 0),(vr 108),(Value.bool true),(vi 181 0),(vr 109),vn,(vr 110),(vr 111),(vr 112),(vi 331 0),(vi 56 0),(vs (sO "/claim/cut.py") 332)]),#[]⟩
noncomputable def u_114:kK:=⟨(vt "function"),none,(lD (fd (aT q 3 9) (sO "Match._asdict") 3 [] vn vn vn (vs (sO "cpy313.difflib") 194) none (vr 113) vn 0)),#[]⟩
noncomputable def u_117:kK:=⟨(vt "tuple"),none,(lK #[(vs (sO "self") 337)] 0),#[]⟩
noncomputable def u_119:kK:=⟨vn,none,(lD (fd (aT q 3 10) (sO "Match.__getnewargs__") 0 [] vn vn vn vn none vn vn 0)),#[]⟩
noncomputable def u_120:kK:=⟨(vt "code"),none,(lG #[(vs (sO "__getnewargs__") 334),(vs (sO "Match.__getnewargs__") 335),(vs (sO "/claim/cut.py") 336),(vi 59 0),(vi 1 0),(vi 0 0),(vi 0 0),(vi 3 0),(vr 115),(Value.bool true),(vi 181 0),(vr 116),vn,(vr 117),(vr 118),(vr 119),(vi 338 0),(vi 59 0),(vs (sO "/claim/cut.py") 339)]),#[]⟩
noncomputable def u_121:kK:=⟨(vt "function"),none,(lD (fd (aT q 3 10) (sO "Match.__getnewargs__") 3 [] vn vn (vs (sdoc (aT q 3 10)) 340) (vs (sO "cpy313.difflib") 194) none (vr 120) vn 0)),#[]⟩
noncomputable def u_122:kK:=⟨(vt "tuple"),none,(lK #[(vs (sO "a") 342),(vs (sO "b") 343),(vs (sO "size") 344)] 0),#[]⟩
noncomputable def u_123:kK:=⟨(vt "dict"),none,(mL (mE [⟨kh P (sO "index"),vs (sO "index") 352,(vi 0 346)⟩,⟨kh P (sO "__doc__"),vs (sO "__doc__") 354,(vs (sO "Alias for field number 0") 347)⟩]) 2),#[]⟩
noncomputable def u_124:kK:=⟨(vr 60),(some 123),oC,#[]⟩
noncomputable def u_125:kK:=⟨(vt "frame"),none,(mL (mE [⟨kh P (sO "self"),vs (sO "self") 348,(vr 124)⟩,⟨kh P (sO "index"),vs (sO "index") 349,(vi 0 346)⟩,⟨kh P (sO "doc"),vs (sO "doc") 350,(vs (sO "Alias for field number 0") 347)⟩]) 3),#[]⟩
noncomputable def u_126:kK:=⟨(vt "dict"),none,(mL (mE [⟨kh P (sO "index"),vs (sO "index") 362,(vi 1 356)⟩,⟨kh P (sO "__doc__"),vs (sO "__doc__") 364,(vs (sO "Alias for field number 1") 357)⟩]) 2),#[]⟩
noncomputable def u_127:kK:=⟨(vr 60),(some 126),oC,#[]⟩
noncomputable def u_128:kK:=⟨(vt "frame"),none,(mL (mE [⟨kh P (sO "self"),vs (sO "self") 358,(vr 127)⟩,⟨kh P (sO "index"),vs (sO "index") 359,(vi 1 356)⟩,⟨kh P (sO "doc"),vs (sO "doc") 360,(vs (sO "Alias for field number 1") 357)⟩]) 3),#[]⟩
noncomputable def u_129:kK:=⟨(vt "dict"),none,(mL (mE [⟨kh P (sO "index"),vs (sO "index") 372,(vi 2 366)⟩,⟨kh P (sO "__doc__"),vs (sO "__doc__") 374,(vs (sO "Alias for field number 2") 367)⟩]) 2),#[]⟩
noncomputable def u_130:kK:=⟨(vr 60),(some 129),oC,#[]⟩
noncomputable def u_131:kK:=⟨(vt "frame"),none,(mL (mE [⟨kh P (sO "self"),vs (sO "self") 368,(vr 130)⟩,⟨kh P (sO "index"),vs (sO "index") 369,(vi 2 366)⟩,⟨kh P (sO "doc"),vs (sO "doc") 370,(vs (sO "Alias for field number 2") 367)⟩]) 3),#[]⟩
noncomputable def u_133:kK:=⟨(vt "list"),none,(lK #[] 0),#[]⟩
noncomputable def u_134:kK:=⟨(vt "dict"),none,(mL (mE [⟨kh P (sO "__module__"),vs (sO "__module__") 260,(vs (sO "cpy313.difflib") 194)⟩,⟨kh P (sO "__firstlineno__"),vs (sO "__firstlineno__") 264,(vi 23 263)⟩,⟨kh P (sO "__doc__"),vs (sO "__doc__") 266,(vs (sdoc (stAt q 3)) 265)⟩,⟨kh P (sO "__slots__"),vs (sO "__slots__") 268,(vr 73)⟩,⟨kh P (sO "_fields"),vs (sO "_fields") 272,(vr 74)⟩,⟨kh P (sO "_field_defaults"),vs (sO "_field_defaults") 273,(vr 75)⟩,⟨kh P (sO "__new__"),vs (sO "__new__") 284,(vr 136)⟩,⟨kh P (sO "_make"),vs (sO "_make") 306,(vr 91)⟩,⟨kh P (sO "_replace"),vs (sO "_replace") 317,(vr 100)⟩,⟨kh P (sO "__replace__"),vs (sO "__replace__") 318,(vr 100)⟩,⟨kh P (sO "__repr__"),vs (sO "__repr__") 326,(vr 107)⟩,⟨kh P (sO "_asdict"),vs (sO "_asdict") 333,(vr 114)⟩,⟨kh P (sO "__getnewargs__"),vs (sO "__getnewargs__") 341,(vr 121)⟩,⟨kh P (sO "__match_args__"),vs (sO "__match_args__") 345,(vr 122)⟩,⟨kh P (sO "a"),vs (sO "a") 355,(vr 124)⟩,⟨kh P (sO "b"),vs (sO "b") 365,(vr 127)⟩,⟨kh P (sO "size"),vs (sO "size") 375,(vr 130)⟩,⟨kh P (sO "__static_attributes__"),vs (sO "__static_attributes__") 376,(vr 132)⟩]) 2),#[]⟩
noncomputable def u_135:kK:=⟨(vt "type"),none,(Data.cls ⟨(sO "Match"),[(vt "tuple")],[(vr 135),(vt "tuple"),(vt "object")],134,(sO "Match"),false,[],[],false,none,false⟩),#[some (vr 65),none,some (vs (sO "Match") 253),some (vs (sO "Match") 261),some vn,some (Value.bool false)]⟩
noncomputable def u_136:kK:=⟨(vt "staticmethod"),none,(lG #[(vr 82)]),#[]⟩
noncomputable def u_137:kK:=⟨(vt "super"),none,(lG #[(vr 135),(vr 135),(vr 135)]),#[]⟩
noncomputable def u_138:kK:=⟨(vt "builtin_function_or_method"),none,(lG #[(Value.builtin "object.__init_subclass__"),(vr 135)]),#[]⟩
noncomputable def u_141:kK:=⟨(vt "tuple"),none,(lK #[(vs (sO "matches") 384),(vs (sO "length") 385)] 0),#[]⟩
noncomputable def u_143:kK:=⟨vn,none,(lD (fd (stAt q 4) (sO "_calculate_ratio") 0 [] vn vn vn vn none vn vn 0)),#[]⟩
noncomputable def u_144:kK:=⟨(vt "code"),none,(lG #[(vs (sO "_calculate_ratio") 381),(vs (sO "_calculate_ratio") 382),(vs (sO "/claim/cut.py") 383),(vi 66 0),(vi 2 0),(vi 0 0),(vi 0 0),(vi 3 0),(vr 139),(Value.bool true),(vi 181 0),(vr 140),vn,(vr 141),(vr 142),(vr 143),(vi 386 0),(vi 66 0),(vs (sO "/claim/cut.py") 387)]),#[]⟩
noncomputable def u_145:kK:=⟨(vt "function"),none,(lD (fd (stAt q 4) (sO "_calculate_ratio") 3 [] vn vn vn (vs (sO "cpy313.difflib") 194) none (vr 144) vn 0)),#[]⟩
noncomputable def u_148:kK:=⟨(vt "dict"),none,(mL (mE [⟨kh P (sO "__module__"),vs (sO "__module__") 396,(vs (sO "cpy313.difflib") 194)⟩,⟨kh P (sO "__qualname__"),vs (sO "__qualname__") 398,(vs (sO "SequenceMatcher") 397)⟩,⟨kh P (sO "__firstlineno__"),vs (sO "__firstlineno__") 400,(vi 70 399)⟩,⟨kh P (sO "__doc__"),vs (sO "__doc__") 402,(vs (sdoc (stAt q 5)) 401)⟩,⟨kh P (sO "__init__"),vs (sO "__init__") 417,(vr 160)⟩,⟨kh P (sO "set_seqs"),vs (sO "set_seqs") 427,(vr 167)⟩,⟨kh P (sO "set_seq1"),vs (sO "set_seq1") 436,(vr 174)⟩,⟨kh P (sO "set_seq2"),vs (sO "set_seq2") 445,(vr 181)⟩,⟨kh P (sO "_SequenceMatcher__chain_b"),vs (sO "_SequenceMatcher__chain_b") 463,(vr 188)⟩,⟨kh P (sO "find_longest_match"),vs (sO "find_longest_match") 491,(vr 196)⟩,⟨kh P (sO "get_matching_blocks"),vs (sO "get_matching_blocks") 518,(vr 203)⟩,⟨kh P (sO "get_opcodes"),vs (sO "get_opcodes") 533,(vr 210)⟩,⟨kh P (sO "get_grouped_opcodes"),vs (sO "get_grouped_opcodes") 542,(vr 218)⟩,⟨kh P (sO "ratio"),vs (sO "ratio") 551,(vr 225)⟩,⟨kh P (sO "quick_ratio"),vs (sO "quick_ratio") 558,(vr 232)⟩,⟨kh P (sO "real_quick_ratio"),vs (sO "real_quick_ratio") 565,(vr 239)⟩,⟨kh P (sO "__static_attributes__"),vs (sO "__static_attributes__") 576,(vr 240)⟩]) 17),#[]⟩
noncomputable def u_150:kK:=⟨vn,none,(lG #[(vi 145 0),(vi 4 0),(vr 159),(vi 173 0),(vi 4 0),(vr 166),(vi 184 0),(vi 4 0),(vr 173),(vi 209 0),(vi 4 0),(vr 180),(vi 236 0),(vi 4 0),(vr 187),(vi 260 0),(vi 4 0),(vr 195),(vi 335 0),(vi 4 0),(vr 202),(vi 383 0),(vi 4 0),(vr 209),(vi 430 0),(vi 4 0),(vr 217),(vi 433 0),(vi 4 0),(vr 224),(vi 457 0),(vi 4 0),(vr 231),(vi 460 0),(vi 4 0),(vr 238)]),#[]⟩
noncomputable def u_151:kK:=⟨(vt "code"),none,(lG #[(vs (sO "SequenceMatcher") 391),(vs (sO "SequenceMatcher") 392),(vs (sO "/claim/cut.py") 393),(vi 70 0),(vi 0 0),(vi 0 0),(vi 0 0),(vi 0 0),(vr 149),(Value.bool false),(vi 181 0),(vr 150),vn,vn,vn,vn,(vi 394 0),(vi 70 0),(vs (sO "/claim/cut.py") 395)]),#[]⟩
noncomputable def u_152:kK:=⟨(vt "frame"),none,oC,#[some (vr 151),some (vr 3),some (vr 148),none,some (vs (sO "cpy313.difflib") 194),none,some (vr 0)]⟩
noncomputable def u_153:kK:=⟨(vt "tuple"),none,(lK #[vn,(vs (sO "") 404),(vs (sO "") 405),(Value.bool true)] 0),#[]⟩
noncomputable def u_156:kK:=⟨(vt "tuple"),none,(lK #[(vs (sO "self") 409),(vs (sO "isjunk") 410),(vs (sO "a") 411),(vs (sO "b") 412),(vs (sO "autojunk") 413)] 0),#[]⟩
noncomputable def u_158:kK:=⟨vn,none,(lD (fd (aT q 5 1) (sO "SequenceMatcher.__init__") 0 [] vn vn vn vn none vn vn 0)),#[]⟩
noncomputable def u_159:kK:=⟨(vt "code"),none,(lG #[(vs (sO "__init__") 406),(vs (sO "SequenceMatcher.__init__") 407),(vs (sO "/claim/cut.py") 408),(vi 145 0),(vi 5 0),(vi 0 0),(vi 0 0),(vi 3 0),(vr 154),(Value.bool true),(vi 181 0),(vr 155),vn,(vr 156),(vr 157),(vr 158),(vi 414 0),(vi 145 0),(vs (sO "/claim/cut.py") 415)]),#[]⟩
noncomputable def u_160:kK:=⟨(vt "function"),none,(lD (fd (aT q 5 1) (sO "SequenceMatcher.__init__") 3 [] (vr 153) vn (vs (sdoc (aT q 5 1)) 416) (vs (sO "cpy313.difflib") 194) none (vr 159) vn 0)),#[]⟩
noncomputable def u_163:kK:=⟨(vt "tuple"),none,(lK #[(vs (sO "self") 421),(vs (sO "a") 422),(vs (sO "b") 423)] 0),#[]⟩
noncomputable def u_165:kK:=⟨vn,none,(lD (fd (aT q 5 2) (sO "SequenceMatcher.set_seqs") 0 [] vn vn vn vn none vn vn 0)),#[]⟩
noncomputable def u_166:kK:=⟨(vt "code"),none,(lG #[(vs (sO "set_seqs") 418),(vs (sO "SequenceMatcher.set_seqs") 419),(vs (sO "/claim/cut.py") 420),(vi 173 0),(vi 3 0),(vi 0 0),(vi 0 0),(vi 3 0),(vr 161),(Value.bool true),(vi 181 0),(vr 162),vn,(vr 163),(vr 164),(vr 165),(vi 424 0),(vi 173 0),(vs (sO "/claim/cut.py") 425)]),#[]⟩
noncomputable def u_167:kK:=⟨(vt "function"),none,(lD (fd (aT q 5 2) (sO "SequenceMatcher.set_seqs") 3 [] vn vn (vs (sdoc (aT q 5 2)) 426) (vs (sO "cpy313.difflib") 194) none (vr 166) vn 0)),#[]⟩
noncomputable def u_170:kK:=⟨(vt "tuple"),none,(lK #[(vs (sO "self") 431),(vs (sO "a") 432)] 0),#[]⟩
noncomputable def u_172:kK:=⟨vn,none,(lD (fd (aT q 5 3) (sO "SequenceMatcher.set_seq1") 0 [] vn vn vn vn none vn vn 0)),#[]⟩
noncomputable def u_173:kK:=⟨(vt "code"),none,(lG #[(vs (sO "set_seq1") 428),(vs (sO "SequenceMatcher.set_seq1") 429),(vs (sO "/claim/cut.py") 430),(vi 184 0),(vi 2 0),(vi 0 0),(vi 0 0),(vi 3 0),(vr 168),(Value.bool true),(vi 181 0),(vr 169),vn,(vr 170),(vr 171),(vr 172),(vi 433 0),(vi 184 0),(vs (sO "/claim/cut.py") 434)]),#[]⟩
noncomputable def u_174:kK:=⟨(vt "function"),none,(lD (fd (aT q 5 3) (sO "SequenceMatcher.set_seq1") 3 [] vn vn (vs (sdoc (aT q 5 3)) 435) (vs (sO "cpy313.difflib") 194) none (vr 173) vn 0)),#[]⟩
noncomputable def u_177:kK:=⟨(vt "tuple"),none,(lK #[(vs (sO "self") 440),(vs (sO "b") 441)] 0),#[]⟩
noncomputable def u_179:kK:=⟨vn,none,(lD (fd (aT q 5 4) (sO "SequenceMatcher.set_seq2") 0 [] vn vn vn vn none vn vn 0)),#[]⟩
noncomputable def u_180:kK:=⟨(vt "code"),none,(lG #[(vs (sO "set_seq2") 437),(vs (sO "SequenceMatcher.set_seq2") 438),(vs (sO "/claim/cut.py") 439),(vi 209 0),(vi 2 0),(vi 0 0),(vi 0 0),(vi 3 0),(vr 175),(Value.bool true),(vi 181 0),(vr 176),vn,(vr 177),(vr 178),(vr 179),(vi 442 0),(vi 209 0),(vs (sO "/claim/cut.py") 443)]),#[]⟩
noncomputable def u_181:kK:=⟨(vt "function"),none,(lD (fd (aT q 5 4) (sO "SequenceMatcher.set_seq2") 3 [] vn vn (vs (sdoc (aT q 5 4)) 444) (vs (sO "cpy313.difflib") 194) none (vr 180) vn 0)),#[]⟩
noncomputable def u_184:kK:=⟨(vt "tuple"),none,(lK #[(vs (sO "self") 449),(vs (sO "b") 450),(vs (sO "b2j") 451),(vs (sO "i") 452),(vs (sO "elt") 453),(vs (sO "indices") 454),(vs (sO "junk") 455),(vs (sO "isjunk") 456),(vs (sO "popular") 457),(vs (sO "n") 458),(vs (sO "ntest") 459),(vs (sO "idxs") 460)] 0),#[]⟩
noncomputable def u_186:kK:=⟨vn,none,(lD (fd (aT q 5 5) (sO "SequenceMatcher.__chain_b") 0 [] vn vn vn vn none vn vn 0)),#[]⟩
noncomputable def u_187:kK:=⟨(vt "code"),none,(lG #[(vs (sO "__chain_b") 446),(vs (sO "SequenceMatcher.__chain_b") 447),(vs (sO "/claim/cut.py") 448),(vi 236 0),(vi 1 0),(vi 0 0),(vi 0 0),(vi 3 0),(vr 182),(Value.bool true),(vi 181 0),(vr 183),vn,(vr 184),(vr 185),(vr 186),(vi 461 0),(vi 236 0),(vs (sO "/claim/cut.py") 462)]),#[]⟩
noncomputable def u_188:kK:=⟨(vt "function"),none,(lD (fd (aT q 5 5) (sO "SequenceMatcher.__chain_b") 3 [] vn vn vn (vs (sO "cpy313.difflib") 194) none (vr 187) vn 0)),#[]⟩
noncomputable def u_189:kK:=⟨(vt "tuple"),none,(lK #[(vi 0 464),vn,(vi 0 465),vn] 0),#[]⟩
noncomputable def u_192:kK:=⟨(vt "tuple"),none,(lK #[(vs (sO "self") 469),(vs (sO "alo") 470),(vs (sO "ahi") 471),(vs (sO "blo") 472),(vs (sO "bhi") 473),(vs (sO "a") 474),(vs (sO "b") 475),(vs (sO "b2j") 476),(vs (sO "isbjunk") 477),(vs (sO "besti") 478),(vs (sO "bestj") 479),(vs (sO "bestsize") 480),(vs (sO "j2len") 481),(vs (sO "nothing") 482),(vs (sO "i") 483),(vs (sO "j2lenget") 484),(vs (sO "newj2len") 485),(vs (sO "j") 486),(vs (sO "k") 487)] 0),#[]⟩
noncomputable def u_194:kK:=⟨vn,none,(lD (fd (aT q 5 6) (sO "SequenceMatcher.find_longest_match") 0 [] vn vn vn vn none vn vn 0)),#[]⟩
noncomputable def u_195:kK:=⟨(vt "code"),none,(lG #[(vs (sO "find_longest_match") 466),(vs (sO "SequenceMatcher.find_longest_match") 467),(vs (sO "/claim/cut.py") 468),(vi 260 0),(vi 5 0),(vi 0 0),(vi 0 0),(vi 3 0),(vr 190),(Value.bool true),(vi 181 0),(vr 191),vn,(vr 192),(vr 193),(vr 194),(vi 488 0),(vi 260 0),(vs (sO "/claim/cut.py") 489)]),#[]⟩
noncomputable def u_196:kK:=⟨(vt "function"),none,(lD (fd (aT q 5 6) (sO "SequenceMatcher.find_longest_match") 3 [] (vr 189) vn (vs (sdoc (aT q 5 6)) 490) (vs (sO "cpy313.difflib") 194) none (vr 195) vn 0)),#[]⟩
noncomputable def u_199:kK:=⟨(vt "tuple"),none,(lK #[(vs (sO "self") 495),(vs (sO "la") 496),(vs (sO "lb") 497),(vs (sO "queue") 498),(vs (sO "matching_blocks") 499),(vs (sO "alo") 500),(vs (sO "ahi") 501),(vs (sO "blo") 502),(vs (sO "bhi") 503),(vs (sO "i") 504),(vs (sO "j") 505),(vs (sO "k") 506),(vs (sO "x") 507),(vs (sO "i1") 508),(vs (sO "j1") 509),(vs (sO "k1") 510),(vs (sO "non_adjacent") 511),(vs (sO "i2") 512),(vs (sO "j2") 513),(vs (sO "k2") 514)] 0),#[]⟩
noncomputable def u_201:kK:=⟨vn,none,(lD (fd (aT q 5 7) (sO "SequenceMatcher.get_matching_blocks") 0 [] vn vn vn vn none vn vn 0)),#[]⟩
noncomputable def u_202:kK:=⟨(vt "code"),none,(lG #[(vs (sO "get_matching_blocks") 492),(vs (sO "SequenceMatcher.get_matching_blocks") 493),(vs (sO "/claim/cut.py") 494),(vi 335 0),(vi 1 0),(vi 0 0),(vi 0 0),(vi 3 0),(vr 197),(Value.bool true),(vi 181 0),(vr 198),vn,(vr 199),(vr 200),(vr 201),(vi 515 0),(vi 335 0),(vs (sO "/claim/cut.py") 516)]),#[]⟩
noncomputable def u_203:kK:=⟨(vt "function"),none,(lD (fd (aT q 5 7) (sO "SequenceMatcher.get_matching_blocks") 3 [] vn vn (vs (sdoc (aT q 5 7)) 517) (vs (sO "cpy313.difflib") 194) none (vr 202) vn 0)),#[]⟩
noncomputable def u_206:kK:=⟨(vt "tuple"),none,(lK #[(vs (sO "self") 522),(vs (sO "i") 523),(vs (sO "j") 524),(vs (sO "answer") 525),(vs (sO "ai") 526),(vs (sO "bj") 527),(vs (sO "size") 528),(vs (sO "tag") 529)] 0),#[]⟩
noncomputable def u_208:kK:=⟨vn,none,(lD (fd (aT q 5 8) (sO "SequenceMatcher.get_opcodes") 0 [] vn vn vn vn none vn vn 0)),#[]⟩
noncomputable def u_209:kK:=⟨(vt "code"),none,(lG #[(vs (sO "get_opcodes") 519),(vs (sO "SequenceMatcher.get_opcodes") 520),(vs (sO "/claim/cut.py") 521),(vi 383 0),(vi 1 0),(vi 0 0),(vi 0 0),(vi 3 0),(vr 204),(Value.bool true),(vi 181 0),(vr 205),vn,(vr 206),(vr 207),(vr 208),(vi 530 0),(vi 383 0),(vs (sO "/claim/cut.py") 531)]),#[]⟩
noncomputable def u_210:kK:=⟨(vt "function"),none,(lD (fd (aT q 5 8) (sO "SequenceMatcher.get_opcodes") 3 [] vn vn (vs (sdoc (aT q 5 8)) 532) (vs (sO "cpy313.difflib") 194) none (vr 209) vn 0)),#[]⟩
noncomputable def u_211:kK:=⟨(vt "tuple"),none,(lK #[(vi 3 534)] 0),#[]⟩
noncomputable def u_214:kK:=⟨(vt "tuple"),none,(lK #[(vs (sO "self") 538),(vs (sO "n") 539)] 0),#[]⟩
noncomputable def u_216:kK:=⟨vn,none,(lD (fd (aT q 5 9) (sO "SequenceMatcher.get_grouped_opcodes") 0 [] vn vn vn vn none vn vn 0)),#[]⟩
noncomputable def u_217:kK:=⟨(vt "code"),none,(lG #[(vs (sO "get_grouped_opcodes") 535),(vs (sO "SequenceMatcher.get_grouped_opcodes") 536),(vs (sO "/claim/cut.py") 537),(vi 430 0),(vi 2 0),(vi 0 0),(vi 0 0),(vi 3 0),(vr 212),(Value.bool true),(vi 181 0),(vr 213),vn,(vr 214),(vr 215),(vr 216),(vi 540 0),(vi 430 0),(vs (sO "/claim/cut.py") 541)]),#[]⟩
noncomputable def u_218:kK:=⟨(vt "function"),none,(lD (fd (aT q 5 9) (sO "SequenceMatcher.get_grouped_opcodes") 3 [] (vr 211) vn vn (vs (sO "cpy313.difflib") 194) none (vr 217) vn 0)),#[]⟩
noncomputable def u_221:kK:=⟨(vt "tuple"),none,(lK #[(vs (sO "self") 546),(vs (sO "matches") 547)] 0),#[]⟩
noncomputable def u_223:kK:=⟨vn,none,(lD (fd (aT q 5 10) (sO "SequenceMatcher.ratio") 0 [] vn vn vn vn none vn vn 0)),#[]⟩
noncomputable def u_224:kK:=⟨(vt "code"),none,(lG #[(vs (sO "ratio") 543),(vs (sO "SequenceMatcher.ratio") 544),(vs (sO "/claim/cut.py") 545),(vi 433 0),(vi 1 0),(vi 0 0),(vi 0 0),(vi 3 0),(vr 219),(Value.bool true),(vi 181 0),(vr 220),vn,(vr 221),(vr 222),(vr 223),(vi 548 0),(vi 433 0),(vs (sO "/claim/cut.py") 549)]),#[]⟩
noncomputable def u_225:kK:=⟨(vt "function"),none,(lD (fd (aT q 5 10) (sO "SequenceMatcher.ratio") 3 [] vn vn (vs (sdoc (aT q 5 10)) 550) (vs (sO "cpy313.difflib") 194) none (vr 224) vn 0)),#[]⟩
noncomputable def u_228:kK:=⟨(vt "tuple"),none,(lK #[(vs (sO "self") 555)] 0),#[]⟩
noncomputable def u_230:kK:=⟨vn,none,(lD (fd (aT q 5 11) (sO "SequenceMatcher.quick_ratio") 0 [] vn vn vn vn none vn vn 0)),#[]⟩
noncomputable def u_231:kK:=⟨(vt "code"),none,(lG #[(vs (sO "quick_ratio") 552),(vs (sO "SequenceMatcher.quick_ratio") 553),(vs (sO "/claim/cut.py") 554),(vi 457 0),(vi 1 0),(vi 0 0),(vi 0 0),(vi 3 0),(vr 226),(Value.bool true),(vi 181 0),(vr 227),vn,(vr 228),(vr 229),(vr 230),(vi 556 0),(vi 457 0),(vs (sO "/claim/cut.py") 557)]),#[]⟩
noncomputable def u_232:kK:=⟨(vt "function"),none,(lD (fd (aT q 5 11) (sO "SequenceMatcher.quick_ratio") 3 [] vn vn vn (vs (sO "cpy313.difflib") 194) none (vr 231) vn 0)),#[]⟩
noncomputable def u_235:kK:=⟨(vt "tuple"),none,(lK #[(vs (sO "self") 562)] 0),#[]⟩
noncomputable def u_237:kK:=⟨vn,none,(lD (fd (aT q 5 12) (sO "SequenceMatcher.real_quick_ratio") 0 [] vn vn vn vn none vn vn 0)),#[]⟩
noncomputable def u_238:kK:=⟨(vt "code"),none,(lG #[(vs (sO "real_quick_ratio") 559),(vs (sO "SequenceMatcher.real_quick_ratio") 560),(vs (sO "/claim/cut.py") 561),(vi 460 0),(vi 1 0),(vi 0 0),(vi 0 0),(vi 3 0),(vr 233),(Value.bool true),(vi 181 0),(vr 234),vn,(vr 235),(vr 236),(vr 237),(vi 563 0),(vi 460 0),(vs (sO "/claim/cut.py") 564)]),#[]⟩
noncomputable def u_239:kK:=⟨(vt "function"),none,(lD (fd (aT q 5 12) (sO "SequenceMatcher.real_quick_ratio") 3 [] vn vn vn (vs (sO "cpy313.difflib") 194) none (vr 238) vn 0)),#[]⟩
noncomputable def u_240:kK:=⟨(vt "tuple"),none,(lK #[(vs (sO "a") 566),(vs (sO "autojunk") 567),(vs (sO "b") 568),(vs (sO "b2j") 569),(vs (sO "bjunk") 570),(vs (sO "bpopular") 571),(vs (sO "fullbcount") 572),(vs (sO "isjunk") 573),(vs (sO "matching_blocks") 574),(vs (sO "opcodes") 575)] 0),#[]⟩
noncomputable def u_241:kK:=⟨(vt "dict"),none,(mL (mE [⟨kh P (sO "__module__"),vs (sO "__module__") 396,(vs (sO "cpy313.difflib") 194)⟩,⟨kh P (sO "__firstlineno__"),vs (sO "__firstlineno__") 400,(vi 70 399)⟩,⟨kh P (sO "__doc__"),vs (sO "__doc__") 402,(vs (sdoc (stAt q 5)) 401)⟩,⟨kh P (sO "__init__"),vs (sO "__init__") 417,(vr 160)⟩,⟨kh P (sO "set_seqs"),vs (sO "set_seqs") 427,(vr 167)⟩,⟨kh P (sO "set_seq1"),vs (sO "set_seq1") 436,(vr 174)⟩,⟨kh P (sO "set_seq2"),vs (sO "set_seq2") 445,(vr 181)⟩,⟨kh P (sO "_SequenceMatcher__chain_b"),vs (sO "_SequenceMatcher__chain_b") 463,(vr 188)⟩,⟨kh P (sO "find_longest_match"),vs (sO "find_longest_match") 491,(vr 196)⟩,⟨kh P (sO "get_matching_blocks"),vs (sO "get_matching_blocks") 518,(vr 203)⟩,⟨kh P (sO "get_opcodes"),vs (sO "get_opcodes") 533,(vr 210)⟩,⟨kh P (sO "get_grouped_opcodes"),vs (sO "get_grouped_opcodes") 542,(vr 218)⟩,⟨kh P (sO "ratio"),vs (sO "ratio") 551,(vr 225)⟩,⟨kh P (sO "quick_ratio"),vs (sO "quick_ratio") 558,(vr 232)⟩,⟨kh P (sO "real_quick_ratio"),vs (sO "real_quick_ratio") 565,(vr 239)⟩,⟨kh P (sO "__static_attributes__"),vs (sO "__static_attributes__") 576,(vr 240)⟩,⟨kh P (sO "__dict__"),vs (sO "__dict__") 578,(vr 243)⟩,⟨kh P (sO "__weakref__"),vs (sO "__weakref__") 580,(vr 244)⟩]) 3),#[]⟩
noncomputable def u_242:kK:=⟨(vt "type"),none,(Data.cls ⟨(sO "SequenceMatcher"),[(vt "object")],[(vr 242),(vt "object")],241,(sO "SequenceMatcher"),true,[],[],false,none,false⟩),#[none,none,some (vs (sO "SequenceMatcher") 389),some (vs (sO "SequenceMatcher") 397),some (Value.builtin "object.__new__"),some (Value.bool true)]⟩
noncomputable def u_243:kK:=⟨(vt "getset_descriptor"),none,(lG #[(vs (sO "__dict__") 577),(vr 242),(Value.builtin "function.__dict__"),(Value.builtin "function.__dict__#set")]),#[]⟩
noncomputable def u_244:kK:=⟨(vt "getset_descriptor"),none,(lG #[(vs (sO "__weakref__") 579),(vr 242),(Value.builtin "ExceptionGroup.__weakref__"),vn]),#[]⟩
noncomputable def u_245:kK:=⟨(vt "super"),none,(lG #[(vr 242),(vr 242),(vr 242)]),#[]⟩
noncomputable def u_246:kK:=⟨(vt "builtin_function_or_method"),none,(lG #[(Value.builtin "object.__init_subclass__"),(vr 242)]),#[]⟩
noncomputable def u_249:kK:=⟨(vt "tuple"),none,(lK #[(vs (sO "data") 588),(vs (sO "t") 589)] 0),#[]⟩
noncomputable def u_251:kK:=⟨vn,none,(lD (fd (stAt q 7) (sO "_buffer") 0 [] vn vn vn vn none vn vn 0)),#[]⟩
noncomputable def u_252:kK:=⟨(vt "code"),none,(lG #[(vs (sO "_buffer") 585),(vs (sO "_buffer") 586),(vs (sO "/claim/cut.py") 587),(vi 463 0),(vi 1 0),(vi 0 0),(vi 0 0),(vi 3 0),(vr 247),(Value.bool true),(vi 181 0),(vr 248),vn,(vr 249),(vr 250),(vr 251),(vi 590 0),(vi 463 0),(vs (sO "/claim/cut.py") 591)]),#[]⟩
noncomputable def u_253:kK:=⟨(vt "function"),none,(lD (fd (stAt q 7) (sO "_buffer") 3 [] vn vn vn (vs (sO "binascii") 583) none (vr 252) vn 0)),#[]⟩
noncomputable def u_256:kK:=⟨(vt "tuple"),none,(lK #[(vs (sO "x") 596),(vs (sO "t") 597)] 0),#[]⟩
noncomputable def u_258:kK:=⟨vn,none,(lD (fd (stAt q 8) (sO "_truth") 0 [] vn vn vn vn none vn vn 0)),#[]⟩
noncomputable def u_259:kK:=⟨(vt "code"),none,(lG #[(vs (sO "_truth") 593),(vs (sO "_truth") 594),(vs (sO "/claim/cut.py") 595),(vi 470 0),(vi 1 0),(vi 0 0),(vi 0 0),(vi 3 0),(vr 254),(Value.bool true),(vi 181 0),(vr 255),vn,(vr 256),(vr 257),(vr 258),(vi 598 0),(vi 470 0),(vs (sO "/claim/cut.py") 599)]),#[]⟩
noncomputable def u_260:kK:=⟨(vt "function"),none,(lD (fd (stAt q 8) (sO "_truth") 3 [] vn vn vn (vs (sO "binascii") 583) none (vr 259) vn 0)),#[]⟩
noncomputable def u_261:kK:=⟨(vt "dict"),none,(mL (mE [⟨kh P (sO "newline"),vs (sO "newline") 603,(Value.bool true)⟩]) 1),#[]⟩
noncomputable def u_264:kK:=⟨(vt "tuple"),none,(lK #[(vs (sO "data") 607),(vs (sO "newline") 608),(vs (sO "bin_data") 609),(vs (sO "out") 610),(vs (sO "leftbits") 611),(vs (sO "leftchar") 612),(vs (sO "b") 613)] 0),#[]⟩
noncomputable def u_266:kK:=⟨vn,none,(lD (fd (stAt q 10) (sO "b2a_base64") 0 [] vn vn vn vn none vn vn 0)),#[]⟩
noncomputable def u_267:kK:=⟨(vt "code"),none,(lG #[(vs (sO "b2a_base64") 604),(vs (sO "b2a_base64") 605),(vs (sO "/claim/cut.py") 606),(vi 476 0),(vi 1 0),(vi 1 0),(vi 1 0),(vi 3 0),(vr 262),(Value.bool true),(vi 181 0),(vr 263),vn,(vr 264),(vr 265),(vr 266),(vi 614 0),(vi 476 0),(vs (sO "/claim/cut.py") 615)]),#[]⟩
noncomputable def u_268:kK:=⟨(vt "function"),none,(lD (fd (stAt q 10) (sO "b2a_base64") 3 [] vn (vr 261) vn (vs (sO "binascii") 583) none (vr 267) vn 0)),#[]⟩
noncomputable def u_269:kK:=⟨(vt "object"),none,oC,#[]⟩
noncomputable def u_270:kK:=⟨(vt "tuple"),none,(lK #[(vr 269),(vi 1 618)] 0),#[]⟩
noncomputable def u_273:kK:=⟨(vt "tuple"),none,(lK #[(vs (sO "data") 622),(vs (sO "sep") 623),(vs (sO "bytes_per_sep") 624),(vs (sO "t") 625)] 0),#[]⟩
noncomputable def u_275:kK:=⟨vn,none,(lD (fd (stAt q 12) (sO "b2a_hex") 0 [] vn vn vn vn none vn vn 0)),#[]⟩
noncomputable def u_276:kK:=⟨(vt "code"),none,(lG #[(vs (sO "b2a_hex") 619),(vs (sO "b2a_hex") 620),(vs (sO "/claim/cut.py") 621),(vi 499 0),(vi 3 0),(vi 0 0),(vi 0 0),(vi 3 0),(vr 271),(Value.bool true),(vi 181 0),(vr 272),vn,(vr 273),(vr 274),(vr 275),(vi 626 0),(vi 499 0),(vs (sO "/claim/cut.py") 627)]),#[]⟩
noncomputable def u_277:kK:=⟨(vt "function"),none,(lD (fd (stAt q 12) (sO "b2a_hex") 3 [] (vr 270) vn vn (vs (sO "binascii") 583) none (vr 276) vn 0)),#[]⟩
noncomputable def u_278:kK:=⟨(vt "tuple"),none,(lK #[vn] 0),#[]⟩
noncomputable def u_281:kK:=⟨(vt "tuple"),none,(lK #[(vs (sO "s") 635),(vs (sO "altchars") 636),(vs (sO "encoded") 637)] 0),#[]⟩
noncomputable def u_283:kK:=⟨vn,none,(lD (fd (stAt q 15) (sO "b64encode") 0 [] vn vn vn vn none vn vn 0)),#[]⟩
noncomputable def u_284:kK:=⟨(vt "code"),none,(lG #[(vs (sO "b64encode") 632),(vs (sO "b64encode") 633),(vs (sO "/claim/cut.py") 634),(vi 517 0),(vi 2 0),(vi 0 0),(vi 0 0),(vi 3 0),(vr 279),(Value.bool true),(vi 181 0),(vr 280),vn,(vr 281),(vr 282),(vr 283),(vi 638 0),(vi 517 0),(vs (sO "/claim/cut.py") 639)]),#[]⟩
noncomputable def u_285:kK:=⟨(vt "function"),none,(lD (fd (stAt q 15) (sO "b64encode") 3 [] (vr 278) vn (vs (sdoc (stAt q 15)) 640) (vs (sO "cpy313.base64") 630) none (vr 284) vn 0)),#[]⟩
noncomputable def u_288:kK:=⟨(vt "tuple"),none,(lK #[(vs (sO "s") 645)] 0),#[]⟩
noncomputable def u_290:kK:=⟨vn,none,(lD (fd (stAt q 16) (sO "b16encode") 0 [] vn vn vn vn none vn vn 0)),#[]⟩
noncomputable def u_291:kK:=⟨(vt "code"),none,(lG #[(vs (sO "b16encode") 642),(vs (sO "b16encode") 643),(vs (sO "/claim/cut.py") 644),(vi 529 0),(vi 1 0),(vi 0 0),(vi 0 0),(vi 3 0),(vr 286),(Value.bool true),(vi 181 0),(vr 287),vn,(vr 288),(vr 289),(vr 290),(vi 646 0),(vi 529 0),(vs (sO "/claim/cut.py") 647)]),#[]⟩
noncomputable def u_292:kK:=⟨(vt "function"),none,(lD (fd (stAt q 16) (sO "b16encode") 3 [] vn vn (vs (sdoc (stAt q 16)) 648) (vs (sO "cpy313.base64") 630) none (vr 291) vn 0)),#[]⟩
noncomputable def u_295:kK:=⟨(vt "tuple"),none,(lK #[(vs (sO "letter") 655),(vs (sO "bits") 656)] 0),#[]⟩
noncomputable def u_297:kK:=⟨vn,none,(lD (fd (stAt q 18) (sO "_law_octets") 0 [] vn vn vn vn none vn vn 0)),#[]⟩
noncomputable def u_298:kK:=⟨(vt "code"),none,(lG #[(vs (sO "_law_octets") 652),(vs (sO "_law_octets") 653),(vs (sO "/claim/cut.py") 654),(vi 534 0),(vi 1 0),(vi 0 0),(vi 0 0),(vi 3 0),(vr 293),(Value.bool true),(vi 181 0),(vr 294),vn,(vr 295),(vr 296),(vr 297),(vi 657 0),(vi 534 0),(vs (sO "/claim/cut.py") 658)]),#[]⟩
noncomputable def u_299:kK:=⟨(vt "function"),none,(lD (fd (stAt q 18) (sO "_law_octets") 3 [] vn vn vn (vs (sO "law_pd0123_01") 650) none (vr 298) vn 0)),#[]⟩
noncomputable def u_301:kK:=⟨vn,none,(lG #[]),#[]⟩
noncomputable def u_302:kK:=⟨vn,none,(lD (fd (stAt q 19) (sO "_law_written") 0 [] vn vn vn vn none vn vn 0)),#[]⟩
noncomputable def u_303:kK:=⟨(vt "code"),none,(lG #[(vs (sO "_law_written") 660),(vs (sO "_law_written") 661),(vs (sO "/claim/cut.py") 662),(vi 537 0),(vi 1 0),(vi 0 0),(vi 0 0),(vi 3 0),(vr 300),(Value.bool true),(vi 181 0),(vr 301),vn,vn,vn,(vr 302),(vi 663 0),(vi 537 0),(vs (sO "/claim/cut.py") 664)]),#[]⟩
noncomputable def u_304:kK:=⟨(vt "function"),none,(lD (fd (stAt q 19) (sO "_law_written") 3 [] vn vn vn (vs (sO "law_pd0123_01") 650) none (vr 303) vn 0)),#[]⟩
noncomputable def u_307:kK:=⟨(vt "tuple"),none,(lK #[(vs (sO "one") 669),(vs (sO "other") 670),(vs (sO "low") 671),(vs (sO "high") 672),(vs (sO "left") 673),(vs (sO "right") 674),(vs (sO "junk") 675),(vs (sO "best") 676),(vs (sO "i") 677),(vs (sO "j") 678),(vs (sO "size") 679)] 0),#[]⟩
noncomputable def u_309:kK:=⟨vn,none,(lD (fd (stAt q 20) (sO "_law_block") 0 [] vn vn vn vn none vn vn 0)),#[]⟩
noncomputable def u_310:kK:=⟨(vt "code"),none,(lG #[(vs (sO "_law_block") 666),(vs (sO "_law_block") 667),(vs (sO "/claim/cut.py") 668),(vi 543 0),(vi 7 0),(vi 0 0),(vi 0 0),(vi 3 0),(vr 305),(Value.bool true),(vi 181 0),(vr 306),vn,(vr 307),(vr 308),(vr 309),(vi 680 0),(vi 543 0),(vs (sO "/claim/cut.py") 681)]),#[]⟩
noncomputable def u_311:kK:=⟨(vt "function"),none,(lD (fd (stAt q 20) (sO "_law_block") 3 [] vn vn vn (vs (sO "law_pd0123_01") 650) none (vr 310) vn 0)),#[]⟩
noncomputable def u_313:kK:=⟨vn,none,(lG #[]),#[]⟩
noncomputable def u_314:kK:=⟨vn,none,(lD (fd (stAt q 21) (sO "_law_places") 0 [] vn vn vn vn none vn vn 0)),#[]⟩
noncomputable def u_315:kK:=⟨(vt "code"),none,(lG #[(vs (sO "_law_places") 683),(vs (sO "_law_places") 684),(vs (sO "/claim/cut.py") 685),(vi 560 0),(vi 7 0),(vi 0 0),(vi 0 0),(vi 3 0),(vr 312),(Value.bool true),(vi 181 0),(vr 313),vn,vn,vn,(vr 314),(vi 686 0),(vi 560 0),(vs (sO "/claim/cut.py") 687)]),#[]⟩
noncomputable def u_316:kK:=⟨(vt "function"),none,(lD (fd (stAt q 21) (sO "_law_places") 3 [] vn vn vn (vs (sO "law_pd0123_01") 650) none (vr 315) vn 0)),#[]⟩
noncomputable def u_319:kK:=⟨(vt "tuple"),none,(lK #[(vs (sO "one") 692),(vs (sO "other") 693),(vs (sO "junk") 694),(vs (sO "blocks") 695),(vs (sO "codes") 696),(vs (sO "here") 697),(vs (sO "i") 698),(vs (sO "j") 699),(vs (sO "tag") 700),(vs (sO "start") 701),(vs (sO "second") 702),(vs (sO "size") 703)] 0),#[]⟩
noncomputable def u_321:kK:=⟨vn,none,(lD (fd (stAt q 22) (sO "_law_due") 0 [] vn vn vn vn none vn vn 0)),#[]⟩
noncomputable def u_322:kK:=⟨(vt "code"),none,(lG #[(vs (sO "_law_due") 689),(vs (sO "_law_due") 690),(vs (sO "/claim/cut.py") 691),(vi 566 0),(vi 3 0),(vi 0 0),(vi 0 0),(vi 3 0),(vr 317),(Value.bool true),(vi 181 0),(vr 318),vn,(vr 319),(vr 320),(vr 321),(vi 704 0),(vi 566 0),(vs (sO "/claim/cut.py") 705)]),#[]⟩
noncomputable def u_323:kK:=⟨(vt "function"),none,(lD (fd (stAt q 22) (sO "_law_due") 3 [] vn vn vn (vs (sO "law_pd0123_01") 650) none (vr 322) vn 0)),#[]⟩
noncomputable def u_325:kK:=⟨vn,none,(lG #[]),#[]⟩
noncomputable def u_326:kK:=⟨vn,none,(lD (fd (stAt q 23) (sO "_law_told") 0 [] vn vn vn vn none vn vn 0)),#[]⟩
noncomputable def u_327:kK:=⟨(vt "code"),none,(lG #[(vs (sO "_law_told") 707),(vs (sO "_law_told") 708),(vs (sO "/claim/cut.py") 709),(vi 584 0),(vi 3 0),(vi 0 0),(vi 0 0),(vi 3 0),(vr 324),(Value.bool true),(vi 181 0),(vr 325),vn,vn,vn,(vr 326),(vi 710 0),(vi 584 0),(vs (sO "/claim/cut.py") 711)]),#[]⟩
noncomputable def u_328:kK:=⟨(vt "function"),none,(lD (fd (stAt q 23) (sO "_law_told") 3 [] vn vn vn (vs (sO "law_pd0123_01") 650) none (vr 327) vn 0)),#[]⟩
noncomputable def u_330:kK:=⟨vn,none,(lG #[]),#[]⟩
noncomputable def u_331:kK:=⟨vn,none,(lD (fd (stAt q 24) (sO "_law_times") 0 [] vn vn vn vn none vn vn 0)),#[]⟩
noncomputable def u_332:kK:=⟨(vt "code"),none,(lG #[(vs (sO "_law_times") 713),(vs (sO "_law_times") 714),(vs (sO "/claim/cut.py") 715),(vi 587 0),(vi 2 0),(vi 0 0),(vi 0 0),(vi 3 0),(vr 329),(Value.bool true),(vi 181 0),(vr 330),vn,vn,vn,(vr 331),(vi 716 0),(vi 587 0),(vs (sO "/claim/cut.py") 717)]),#[]⟩
noncomputable def u_333:kK:=⟨(vt "function"),none,(lD (fd (stAt q 24) (sO "_law_times") 3 [] vn vn vn (vs (sO "law_pd0123_01") 650) none (vr 332) vn 0)),#[]⟩
noncomputable def u_336:kK:=⟨(vt "tuple"),none,(lK #[(vs (sO "script") 722),(vs (sO "one") 723),(vs (sO "other") 724),(vs (sO "number") 725),(vs (sO "letter") 726),(vs (sO "second") 727),(vs (sO "first") 728),(vs (sO "first_due") 729),(vs (sO "second_texts") 730),(vs (sO "second_due") 731),(vs (sO "junk") 732),(vs (sO "due") 733),(vs (sO "k") 734)] 0),#[]⟩
noncomputable def u_338:kK:=⟨vn,none,(lD (fd (stAt q 25) (sO "law") 0 [] vn vn vn vn none vn vn 0)),#[]⟩
noncomputable def u_339:kK:=⟨(vt "code"),none,(lG #[(vs (sO "law") 719),(vs (sO "law") 720),(vs (sO "/claim/cut.py") 721),(vi 591 0),(vi 1 0),(vi 0 0),(vi 0 0),(vi 3 0),(vr 334),(Value.bool true),(vi 181 0),(vr 335),vn,(vr 336),(vr 337),(vr 338),(vi 735 0),(vi 591 0),(vs (sO "/claim/cut.py") 736)]),#[]⟩
noncomputable def u_340:kK:=⟨(vt "function"),none,(lD (fd (stAt q 25) (sO "law") 3 [] vn vn vn (vs (sO "law_pd0123_01") 650) none (vr 339) vn 0)),#[]⟩
noncomputable def treeBp0:BT:=(bn (boot_o_0 P) (bn (boot_o_1 P) (bn (boot_o_3 P) (bn (boot_o_7 P) b0 b0) (bn aH b0 b0)) (bn (boot_o_5 P) (bn (boot_o_9 P) b0 b0) (bn i_13 b0 b0))) (bn (boot_o_2 P) (bn (boot_o_4 P) (bn (boot_o_8 P) b0 b0) (bn bC b0 b0)) (bn (boot_o_6 P) (bn (boot_o_10 P) b0 b0) (bn i_14 b0 b0))))
noncomputable def treeB:BT:=(treeBp0 P)
noncomputable def treeFp0:BT:=(bn aH (bn u_31 (bn u_63 (bn u_127 (bn bC b0 b0) b0) (bn bC (bn u_319 b0 b0) b0)) (bn bC (bn u_159 (bn bC b0 b0) b0) (bn (u_223 q) b0 b0))) (bn aH (bn aH (bn (u_143 q) (bn aH b0 b0) b0) (bn aH (bn bC b0 b0) b0)) (bn aH (bn aH (bn u_303 b0 b0) b0) (bn (u_239 q) b0 b0))))
noncomputable def treeFp1:BT:=(bn u_23 (bn u_39 (bn u_71 (bn u_135 (bn bC b0 b0) b0) (bn u_199 (bn u_327 b0 b0) b0)) (bn u_103 (bn (u_167 q) (bn u_295 b0 b0) b0) (bn u_231 b0 b0))) (bn (u_55 q) (bn (u_87 q) (bn u_151 (bn aH b0 b0) b0) (bn aH b0 b0)) (bn (u_119 q) (bn bC (bn (u_311 q) b0 b0) b0) (bn aH b0 b0))))
noncomputable def treeFp2:BT:=(bn (u_19 q) (bn (u_35 q) (bn (u_67 q P) (bn (u_131 P) (bn u_259 b0 b0) b0) (bn u_195 (bn (u_323 q) b0 b0) b0)) (bn u_99 (bn u_163 (bn u_291 b0 b0) b0) (bn bC b0 b0))) (bn aH (bn aH (bn u_23 (bn (u_275 q) b0 b0) b0) (bn u_211 (bn u_339 b0 b0) b0)) (bn aH (bn (u_179 q) (bn u_307 b0 b0) b0) (bn u_243 b0 b0))))
noncomputable def treeFp3:BT:=(bn u_27 (bn (u_43 q) (bn u_75 (bn aH (bn u_267 b0 b0) b0) (bn (u_203 q) (bn (u_331 q) b0 b0) b0)) (bn (u_107 q) (bn aH (bn (u_299 q) b0 b0) b0) (bn u_235 b0 b0))) (bn (u_59 P) (bn u_91 (bn bC (bn (u_283 q) b0 b0) b0) (bn aH b0 b0)) (bn (u_123 P) (bn u_187 (bn u_315 b0 b0) b0) (bn (u_251 q) b0 b0))))
noncomputable def treeFp4:BT:=(bn u_17 (bn (u_33 q) (bn u_65 (bn (u_129 P) (bn aH b0 b0) b0) (bn aH (bn (u_321 q) b0 b0) b0)) (bn aH (bn aH (bn aH b0 b0) b0) (bn (u_225 q) b0 b0))) (bn u_49 (bn u_81 (bn (u_145 q) (bn u_273 b0 b0) b0) (bn u_209 (bn aH b0 b0) b0)) (bn u_113 (bn u_177 (bn aH b0 b0) b0) (bn (u_241 q P) b0 b0))))
noncomputable def treeFp5:BT:=(bn aH (bn (u_41 q) (bn aH (bn u_137 (bn aH b0 b0) b0) (bn (u_201 q) (bn aH b0 b0) b0)) (bn (u_105 q) (bn bC (bn (u_297 q) b0 b0) b0) (bn aH b0 b0))) (bn (u_57 q) (bn (u_89 q) (bn u_153 (bn u_281 b0 b0) b0) (bn u_217 b0 b0)) (bn (u_121 q) (bn aH (bn u_313 b0 b0) b0) (bn u_249 b0 b0))))
noncomputable def treeFp6:BT:=(bn (u_21 q) (bn aH (bn aH (bn u_133 (bn (u_261 P) b0 b0) b0) (bn aH (bn u_325 b0 b0) b0)) (bn aH (bn (u_165 q) (bn aH b0 b0) b0) (bn aH b0 b0))) (bn u_53 (bn u_85 (bn aH (bn (u_277 q) b0 b0) b0) (bn bC b0 b0)) (bn u_117 (bn (u_181 q) (bn (u_309 q) b0 b0) b0) (bn u_245 b0 b0))))
noncomputable def treeFp7:BT:=(bn aH (bn bC (bn bC (bn u_141 (bn u_269 b0 b0) b0) (bn bC (bn (u_333 q) b0 b0) b0)) (bn bC (bn u_173 (bn u_301 b0 b0) b0) (bn (u_237 q) b0 b0))) (bn u_61 (bn u_93 (bn aH (bn (u_285 q) b0 b0) b0) (bn u_221 b0 b0)) (bn (u_125 P) (bn u_189 (bn aH b0 b0) b0) (bn (u_253 q) b0 b0))))
noncomputable def treeFp8:BT:=(bn (boot_o_1 P) (bn (u_3 P) (bn (boot_o_7 P) (treeFp0 q) (treeFp1 q)) (bn aH (treeFp2 q P) (treeFp3 q P))) (bn (boot_o_5 P) (bn (boot_o_9 P) (treeFp4 q P) (treeFp5 q)) (bn i_13 (treeFp6 q P) (treeFp7 q P))))
noncomputable def treeFp9:BT:=(bn bC (bn aH (bn u_64 (bn (u_128 P) (bn u_256 b0 b0) b0) (bn u_192 (bn aH b0 b0) b0)) (bn u_96 (bn (u_160 q) (bn u_288 b0 b0) b0) (bn u_224 b0 b0))) (bn (u_48 q) (bn (u_80 q) (bn u_144 (bn bC b0 b0) b0) (bn (u_208 q) (bn u_336 b0 b0) b0)) (bn (u_112 q) (bn bC (bn (u_304 q) b0 b0) b0) (bn u_240 b0 b0))))
noncomputable def treeFp10:BT:=(bn (u_24 P) (bn aH (bn u_72 (bn u_136 (bn u_264 b0 b0) b0) (bn aH (bn (u_328 q) b0 b0) b0)) (bn aH (bn aH (bn aH b0 b0) b0) (bn (u_232 q) b0 b0))) (bn u_56 (bn u_88 (bn u_152 (bn bC b0 b0) b0) (bn (u_216 q) b0 b0)) (bn u_120 (bn u_184 (bn aH b0 b0) b0) (bn bC b0 b0))))
noncomputable def treeFp11:BT:=(bn u_20 (bn u_36 (bn u_68 (bn aH (bn (u_260 q) b0 b0) b0) (bn (u_196 q) (bn aH b0 b0) b0)) (bn (u_100 q) (bn aH (bn (u_292 q) b0 b0) b0) (bn u_228 b0 b0))) (bn bC (bn bC (bn (u_148 q P) (bn u_276 b0 b0) b0) (bn aH (bn (u_340 q) b0 b0) b0)) (bn bC (bn u_180 (bn aH b0 b0) b0) (bn u_244 b0 b0))))
noncomputable def treeFp12:BT:=(bn u_28 (bn aH (bn aH (bn bC (bn (u_268 q) b0 b0) b0) (bn aH (bn u_332 b0 b0) b0)) (bn aH (bn (u_172 q) (bn aH b0 b0) b0) (bn aH b0 b0))) (bn u_60 (bn u_92 (bn u_156 (bn u_284 b0 b0) b0) (bn bC b0 b0)) (bn u_124 (bn (u_188 q) (bn (u_316 q) b0 b0) b0) (bn u_252 b0 b0))))
noncomputable def treeFp13:BT:=(bn aH (bn u_34 (bn u_23 (bn u_130 (bn (u_258 q) b0 b0) b0) (bn (u_194 q) (bn u_322 b0 b0) b0)) (bn (u_98 q) (bn bC (bn (u_290 q) b0 b0) b0) (bn aH b0 b0))) (bn (u_50 q) (bn (u_82 q) (bn aH (bn aH b0 b0) b0) (bn (u_210 q) (bn (u_338 q) b0 b0) b0)) (bn (u_114 q) (bn aH (bn bC b0 b0) b0) (bn u_242 b0 b0))))
noncomputable def treeFp14:BT:=(bn u_26 (bn u_42 (bn u_74 (bn u_138 (bn (u_266 q) b0 b0) b0) (bn u_202 (bn u_330 b0 b0) b0)) (bn u_106 (bn u_170 (bn u_298 b0 b0) b0) (bn bC b0 b0))) (bn u_58 (bn (u_90 q P) (bn aH (bn aH b0 b0) b0) (bn (u_218 q) b0 b0)) (bn u_122 (bn (u_186 q) (bn (u_314 q) b0 b0) b0) (bn aH b0 b0))))
noncomputable def treeFp15:BT:=(bn aH (bn bC (bn u_70 (bn (u_134 q P) (bn aH b0 b0) b0) (bn bC (bn (u_326 q) b0 b0) b0)) (bn bC (bn u_166 (bn bC b0 b0) b0) (bn (u_230 q) b0 b0))) (bn aH (bn aH (bn u_150 (bn u_278 b0 b0) b0) (bn u_214 b0 b0)) (bn aH (bn aH (bn u_310 b0 b0) b0) (bn u_246 b0 b0))))
noncomputable def treeFp16:BT:=(bn bC (bn u_46 (bn u_78 (bn aH (bn u_270 b0 b0) b0) (bn u_206 (bn aH b0 b0) b0)) (bn u_110 (bn (u_174 q) (bn (u_302 q) b0 b0) b0) (bn u_238 b0 b0))) (bn u_62 (bn u_94 (bn (u_158 q) (bn aH b0 b0) b0) (bn aH b0 b0)) (bn (u_126 P) (bn aH (bn bC b0 b0) b0) (bn aH b0 b0))))
noncomputable def treeFp17:BT:=(bn (boot_o_2 P) (bn (boot_o_4 P) (bn (boot_o_8 P) (treeFp9 q P) (treeFp10 q P)) (bn u_12 (treeFp11 q P) (treeFp12 q))) (bn (boot_o_6 P) (bn (boot_o_10 P) (treeFp13 q) (treeFp14 q P)) (bn i_14 (treeFp15 q P) (treeFp16 q P))))
noncomputable def treeF:BT:=(bn (boot_o_0 P) (treeFp8 q P) (treeFp17 q P))
noncomputable def heapAp1:List kK:=bC::i_13::i_14::[]
noncomputable def heapAp0:List kK:=(boot_o_0 P)::(boot_o_1 P)::(boot_o_2 P)::(boot_o_3 P)::(boot_o_4 P)::(boot_o_5 P)::(boot_o_6 P)::(boot_o_7 P)::(boot_o_8 P)::(boot_o_9 P)::(boot_o_10 P)::aH::heapAp1
noncomputable def heapA:kI:=⟨⟨heapAp0 P⟩,{}⟩
noncomputable def heapFp28:List kK:=u_336::aH::(u_338 q)::u_339::(u_340 q)::[]
noncomputable def heapFp27:List kK:=aH::u_325::(u_326 q)::u_327::(u_328 q)::aH::u_330::(u_331 q)::u_332::(u_333 q)::aH::bC::heapFp28 q
noncomputable def heapFp26:List kK:=aH::u_313::(u_314 q)::u_315::(u_316 q)::aH::bC::u_319::aH::(u_321 q)::u_322::(u_323 q)::heapFp27 q
noncomputable def heapFp25:List kK:=aH::u_301::(u_302 q)::u_303::(u_304 q)::aH::bC::u_307::aH::(u_309 q)::u_310::(u_311 q)::heapFp26 q
noncomputable def heapFp24:List kK:=u_288::aH::(u_290 q)::u_291::(u_292 q)::aH::bC::u_295::aH::(u_297 q)::u_298::(u_299 q)::heapFp25 q
noncomputable def heapFp23:List kK:=u_276::(u_277 q)::u_278::aH::bC::u_281::aH::(u_283 q)::u_284::(u_285 q)::aH::bC::heapFp24 q
noncomputable def heapFp22:List kK:=u_264::aH::(u_266 q)::u_267::(u_268 q)::u_269::u_270::aH::bC::u_273::aH::(u_275 q)::heapFp23 q
noncomputable def heapFp21:List kK:=u_252::(u_253 q)::aH::bC::u_256::aH::(u_258 q)::u_259::(u_260 q)::(u_261 P)::aH::bC::heapFp22 q
noncomputable def heapFp20:List kK:=u_240::(u_241 q P)::u_242::u_243::u_244::u_245::u_246::aH::bC::u_249::aH::(u_251 q)::heapFp21 q P
noncomputable def heapFp19:List kK:=u_228::aH::(u_230 q)::u_231::(u_232 q)::aH::bC::u_235::aH::(u_237 q)::u_238::(u_239 q)::heapFp20 q P
noncomputable def heapFp18:List kK:=(u_216 q)::u_217::(u_218 q)::aH::bC::u_221::aH::(u_223 q)::u_224::(u_225 q)::aH::bC::heapFp19 q P
noncomputable def heapFp17:List kK:=aH::bC::u_206::aH::(u_208 q)::u_209::(u_210 q)::u_211::aH::bC::u_214::aH::heapFp18 q P
noncomputable def heapFp16:List kK:=u_192::aH::(u_194 q)::u_195::(u_196 q)::aH::bC::u_199::aH::(u_201 q)::u_202::(u_203 q)::heapFp17 q P
noncomputable def heapFp15:List kK:=u_180::(u_181 q)::aH::bC::u_184::aH::(u_186 q)::u_187::(u_188 q)::u_189::aH::bC::heapFp16 q P
noncomputable def heapFp14:List kK:=aH::bC::u_170::aH::(u_172 q)::u_173::(u_174 q)::aH::bC::u_177::aH::(u_179 q)::heapFp15 q P
noncomputable def heapFp13:List kK:=u_156::aH::(u_158 q)::u_159::(u_160 q)::aH::bC::u_163::aH::(u_165 q)::u_166::(u_167 q)::heapFp14 q P
noncomputable def heapFp12:List kK:=u_144::(u_145 q)::aH::u_23::(u_148 q P)::aH::u_150::u_151::u_152::u_153::aH::bC::heapFp13 q P
noncomputable def heapFp11:List kK:=aH::u_133::(u_134 q P)::u_135::u_136::u_137::u_138::aH::bC::u_141::aH::(u_143 q)::heapFp12 q P
noncomputable def heapFp10:List kK:=u_120::(u_121 q)::u_122::(u_123 P)::u_124::(u_125 P)::(u_126 P)::u_127::(u_128 P)::(u_129 P)::u_130::(u_131 P)::heapFp11 q P
noncomputable def heapFp9:List kK:=aH::bC::u_110::aH::(u_112 q)::u_113::(u_114 q)::aH::bC::u_117::aH::(u_119 q)::heapFp10 q P
noncomputable def heapFp8:List kK:=u_96::aH::(u_98 q)::u_99::(u_100 q)::aH::bC::u_103::aH::(u_105 q)::u_106::(u_107 q)::heapFp9 q P
noncomputable def heapFp7:List kK:=bC::u_85::aH::(u_87 q)::u_88::(u_89 q)::(u_90 q P)::u_91::u_92::u_93::u_94::bC::heapFp8 q P
noncomputable def heapFp6:List kK:=u_72::aH::u_74::u_75::aH::bC::u_78::aH::(u_80 q)::u_81::(u_82 q)::aH::heapFp7 q P
noncomputable def heapFp5:List kK:=u_60::u_61::u_62::u_63::u_64::u_65::u_23::(u_67 q P)::u_68::aH::u_70::u_71::heapFp6 q P
noncomputable def heapFp4:List kK:=(u_48 q)::u_49::(u_50 q)::aH::bC::u_53::aH::(u_55 q)::u_56::(u_57 q)::u_58::(u_59 P)::heapFp5 q P
noncomputable def heapFp3:List kK:=u_36::aH::bC::u_39::aH::(u_41 q)::u_42::(u_43 q)::aH::bC::u_46::aH::heapFp4 q P
noncomputable def heapFp2:List kK:=(u_24 P)::aH::u_26::u_27::u_28::aH::bC::u_31::aH::(u_33 q)::u_34::(u_35 q)::heapFp3 q P
noncomputable def heapFp1:List kK:=u_12::i_13::i_14::aH::bC::u_17::aH::(u_19 q)::u_20::(u_21 q)::aH::u_23::heapFp2 q P
noncomputable def heapFp0:List kK:=(boot_o_0 P)::(boot_o_1 P)::(boot_o_2 P)::(u_3 P)::(boot_o_4 P)::(boot_o_5 P)::(boot_o_6 P)::(boot_o_7 P)::(boot_o_8 P)::(boot_o_9 P)::(boot_o_10 P)::aH::heapFp1 q P
noncomputable def aN:kI:=⟨⟨heapFp0 q P⟩,{}⟩
end
noncomputable def o_3 (P:jT):kK:=u_3 P
noncomputable def o_59 (P:jT):kK:=u_59 P
noncomputable def o_60 (P:jT):kK:=u_60
noncomputable def o_61 (P:jT):kK:=u_61
noncomputable def o_62 (P:jT):kK:=u_62
noncomputable def o_81 (P:jT):kK:=u_81
noncomputable def o_82 (P:jT):kK:=u_82 kX
noncomputable def o_88 (P:jT):kK:=u_88
noncomputable def o_89 (P:jT):kK:=u_89 kX
noncomputable def o_90 (P:jT):kK:=u_90 kX P
noncomputable def o_91 (P:jT):kK:=u_91
noncomputable def o_92 (P:jT):kK:=u_92
noncomputable def o_134 (P:jT):kK:=u_134 kX P
noncomputable def o_135 (P:jT):kK:=u_135
noncomputable def o_136 (P:jT):kK:=u_136
noncomputable def o_153 (P:jT):kK:=u_153
noncomputable def o_159 (P:jT):kK:=u_159
noncomputable def o_160 (P:jT):kK:=u_160 kX
noncomputable def o_166 (P:jT):kK:=u_166
noncomputable def o_167 (P:jT):kK:=u_167 kX
noncomputable def o_173 (P:jT):kK:=u_173
noncomputable def o_174 (P:jT):kK:=u_174 kX
noncomputable def o_180 (P:jT):kK:=u_180
noncomputable def o_181 (P:jT):kK:=u_181 kX
noncomputable def o_187 (P:jT):kK:=u_187
noncomputable def o_188 (P:jT):kK:=u_188 kX
noncomputable def o_189 (P:jT):kK:=u_189
noncomputable def o_195 (P:jT):kK:=u_195
noncomputable def o_196 (P:jT):kK:=u_196 kX
noncomputable def o_202 (P:jT):kK:=u_202
noncomputable def o_203 (P:jT):kK:=u_203 kX
noncomputable def o_209 (P:jT):kK:=u_209
noncomputable def o_210 (P:jT):kK:=u_210 kX
noncomputable def o_241 (P:jT):kK:=u_241 kX P
noncomputable def o_242 (P:jT):kK:=u_242
noncomputable def o_243 (P:jT):kK:=u_243
noncomputable def o_244 (P:jT):kK:=u_244
noncomputable def o_252 (P:jT):kK:=u_252
noncomputable def o_253 (P:jT):kK:=u_253 kX
noncomputable def o_259 (P:jT):kK:=u_259
noncomputable def o_260 (P:jT):kK:=u_260 kX
noncomputable def o_261 (P:jT):kK:=u_261 P
noncomputable def o_267 (P:jT):kK:=u_267
noncomputable def o_268 (P:jT):kK:=u_268 kX
noncomputable def o_269 (P:jT):kK:=u_269
noncomputable def o_270 (P:jT):kK:=u_270
noncomputable def o_276 (P:jT):kK:=u_276
noncomputable def o_277 (P:jT):kK:=u_277 kX
noncomputable def o_278 (P:jT):kK:=u_278
noncomputable def o_284 (P:jT):kK:=u_284
noncomputable def o_285 (P:jT):kK:=u_285 kX
noncomputable def o_291 (P:jT):kK:=u_291
noncomputable def o_292 (P:jT):kK:=u_292 kX
noncomputable def o_298 (P:jT):kK:=u_298
noncomputable def o_299 (P:jT):kK:=u_299 kX
noncomputable def o_301 (P:jT):kK:=u_301
noncomputable def o_303 (P:jT):kK:=u_303
noncomputable def o_304 (P:jT):kK:=u_304 kX
noncomputable def o_310 (P:jT):kK:=u_310
noncomputable def o_311 (P:jT):kK:=u_311 kX
noncomputable def o_313 (P:jT):kK:=u_313
noncomputable def o_315 (P:jT):kK:=u_315
noncomputable def o_316 (P:jT):kK:=u_316 kX
noncomputable def o_322 (P:jT):kK:=u_322
noncomputable def o_323 (P:jT):kK:=u_323 kX
noncomputable def o_325 (P:jT):kK:=u_325
noncomputable def o_327 (P:jT):kK:=u_327
noncomputable def o_328 (P:jT):kK:=u_328 kX
noncomputable def o_330 (P:jT):kK:=u_330
noncomputable def o_332 (P:jT):kK:=u_332
noncomputable def o_333 (P:jT):kK:=u_333 kX
noncomputable def o_339 (P:jT):kK:=u_339
noncomputable def o_340 (P:jT):kK:=u_340 kX
noncomputable def pos0:kW:=⟨0,0,0,0⟩
noncomputable def posF:kW:=⟨591,0,612,15⟩
noncomputable def annT:Option jL:=some (vr 6)
noncomputable def stB (q:kQ)(w:jS)(os:jU):SharedT:=⟨treeB w.params,15,{},⟨[]⟩,boot_drawn,187,os⟩
noncomputable def stF (q:kQ)(w:jS)(os:jU):SharedT:=⟨treeF q w.params,341,{},⟨[]⟩,boot_drawn,738,os⟩
noncomputable def shA (q:kQ)(w:jS)(os:jU):jP:=⟨heapA w.params,⟨[]⟩,boot_drawn,187,os⟩
noncomputable def shF (q:kQ)(w:jS)(os:jU):jP:=⟨aN q w.params,⟨[]⟩,boot_drawn,738,os⟩
noncomputable def sh0 (w:jS)(os:jU):jP:=⟨boot_heap w.params,⟨[]⟩,boot_drawn,boot_toks,os⟩
noncomputable def envQ (q:kQ):Env:={scope:=q.main.scope,locals:=mainNs,globals:=mainNs,cells:=[],code:=vr 13,frame:=some 14}
noncomputable def jE (q:kQ):Code:=.body (behindTheImports q) (envQ q)
noncomputable def mainL (q:kQ)(tb:String→Option Builtin)(w:jS)(s:SharedT):=segRunT tb q w 11 annT 1 2619 s (piecesOf (behindTheImports q) (envQ q) (jE q) pos0 [topFrame pos0])
noncomputable def mainR (q:kQ)(s:SharedT):=some (Flow.next,s,jE q,posF)
noncomputable def preL (q:kQ)(tb:String→Option Builtin)(w:jS)(s:jP):=topGo tb q w 11 annT 12 s (topStub q)
noncomputable def preR (q:kQ)(tb:String→Option Builtin)(s:jP):Option (jP×Thread):=some (s,⟨denote tb (jE q),jE q,pos0,[topFrame pos0]⟩)
noncomputable def blockL (q:kQ)(tb:String→Option Builtin)(w:jS)(s:jP):=segRun tb q w 11 annT 1 1 s (blockOf (behindTheImports q) (envQ q) (jE q) pos0 [topFrame pos0])
noncomputable def blockR (q:kQ)(s:jP):=some (Flow.next,s,jE q,pos0)
noncomputable def finL (q:kQ)(tb:String→Option Builtin)(w:jS)(s:jP):=topRun tb q w 11 annT 2 s ⟨doneF .next,jE q,posF,[topFrame pos0]⟩
end
end Mine
lay_quick Mine.myTable Mine.mainL Mine.mainR Mine.preL Mine.preR Mine.blockL Mine.blockR Mine.finL
namespace Mine
theorem pre_eq (w:jS)(os:jU):preL pg myTable w (sh0 w os)=preR pg myTable (shA pg w os):=by
 rw[PySem.W.Fast.te1435067368052203930,PySem.W.Fast.te17653279219239862775,PySem.W.Fast.te6115438115797827591]
 kernel_rfl!
theorem block_eq (w:jS)(os:jU):blockL pg myTable w (shA pg w os)=blockR pg (stB pg w os).abs:=by
 rw[PySem.W.Fast.te6387906635232828921,PySem.W.Fast.te6115438115797827591]
 kernel_rfl!
theorem main_eq (w:jS)(os:jU):mainL pg myTable w (stB pg w os)=mainR pg (stF pg w os):=by
 rw[PySem.W.Fast.te5463418051407836675,PySem.W.Fast.te6115438115797827591]
 kernel_rfl!
theorem fin_eq (w:jS)(os:jU):finL pg myTable w (stF pg w os).abs=some (shF pg w os):=by
 rw[PySem.W.Fast.te8888714992180598707,PySem.W.Fast.te6115438115797827591]
 kernel_rfl!
theorem run_my (w:jS)(os:jU):topRun treeTable kX w 11 annT (12+(1+(2619+2))) (sh0 w os) (topStub kX)=some (shF kX w os):=by
 rw[table_my,fA]
 have h:=piece_app (rest:=[]) (segRun_of (main_eq w os)) (piece_nil (fin_eq w os))
 rw[nD] at h
 exact go_top (pre_eq w os) (piece_block (block_eq w os) h)
noncomputable section
noncomputable def keepL:List Nat:=[0,2,3,4,5,7,8,9,11,13,16,18,19,20,21,22,23,24,25]
noncomputable def qv:kQ:=view pg keepL
noncomputable def looseL:List kJ:=[kY "_tuplegetter",kY "Match",kY "SequenceMatcher",kY "b2a_base64",kY "_NO_SEP",kY "b2a_hex",kY "hexlify",kY "b64encode"]
noncomputable def xt (s:jP):Bool:=xlAt qv [] s&&recOk (RowW.records PySem.Challenge.rw_pd0123_01.row.toRowW) s
noncomputable def sizeL (w:jS):=((boot_heap w.params).isNs mainGlobals&&(⟨[]⟩:Array jX).size==0,(boot_heap w.params).objs.size,(boot_heap w.params).nsMap mainGlobals "__annotations__")
noncomputable def sizeR (w:jS):Bool×Nat×Option jL:=(true,11,annT)
noncomputable def lookLQ (q:kQ)(a b:kI)(s:jP):=(staticsOk (importedModules q.main.body) a b&&namesBound q b&&gensDone s&&laidKept a b)
noncomputable def lookAQ (q v:kQ)(l:List kJ)(k:List Nat)(r:PySem.W.WRecords)(s:jP):=openSeen (view v k) l (importedModules q.main.body) (fun s=>xlAt (view v k) [] s&&recOk r s) true s
noncomputable def goodQ (q:kQ)(k:List Nat)(l:List kJ):=openGood (view q k) l
end
end Mine
lay_quick Mine.lookLQ Mine.lookAQ Mine.goodQ
namespace Mine
theorem size_eq:sizeL=sizeR:=by
 funext w
 kernel_rfl!
theorem look1_eq (w:jS)(os:jU):lookLQ kX (boot_heap w.params) (aN kX w.params) (shF kX w os)=true:=by
 rw[PySem.W.Fast.te10073819896263712814,fA]
 kernel_rfl!
noncomputable def cV (w:jS)(os:jU):=lookAQ kX pg looseL keepL (RowW.records PySem.Challenge.rw_pd0123_01.row.toRowW) (shF kX w os)
noncomputable def cU:=goodQ pg keepL looseL
theorem look2_0 (w:jS)(os:jU):(cV w os).1=cU.1:=by
 unfold cV cU
 rw[PySem.W.Fast.te11399771388471589532,PySem.W.Fast.te5454335931988440715,fA]
 kernel_rfl!
theorem look2_1 (w:jS)(os:jU):(cV w os).2.1=cU.2.1:=by
 unfold cV cU
 rw[PySem.W.Fast.te11399771388471589532,PySem.W.Fast.te5454335931988440715,fA]
 kernel_rfl!
theorem look2_2 (w:jS)(os:jU):(cV w os).2.2.1=cU.2.2.1:=by
 unfold cV cU
 rw[PySem.W.Fast.te11399771388471589532,PySem.W.Fast.te5454335931988440715,fA]
 kernel_rfl!
theorem look2_3 (w:jS)(os:jU):(cV w os).2.2.2.1=cU.2.2.2.1:=by
 unfold cV cU
 rw[PySem.W.Fast.te11399771388471589532,PySem.W.Fast.te5454335931988440715,fA]
 kernel_rfl!
theorem look2_4 (w:jS)(os:jU):(cV w os).2.2.2.2.1=cU.2.2.2.2.1:=by
 unfold cV cU
 rw[PySem.W.Fast.te11399771388471589532,PySem.W.Fast.te5454335931988440715,fA]
 kernel_rfl!
theorem look2_5 (w:jS)(os:jU):(cV w os).2.2.2.2.2.1=cU.2.2.2.2.2.1:=by
 unfold cV cU
 rw[PySem.W.Fast.te11399771388471589532,PySem.W.Fast.te5454335931988440715,fA]
 kernel_rfl!
theorem look2_6 (w:jS)(os:jU):(cV w os).2.2.2.2.2.2.1=cU.2.2.2.2.2.2.1:=by
 unfold cV cU
 rw[PySem.W.Fast.te11399771388471589532,PySem.W.Fast.te5454335931988440715,fA]
 kernel_rfl!
theorem look2_7 (w:jS)(os:jU):(cV w os).2.2.2.2.2.2.2.1=cU.2.2.2.2.2.2.2.1:=by
 unfold cV cU
 rw[PySem.W.Fast.te11399771388471589532,PySem.W.Fast.te5454335931988440715,fA]
 kernel_rfl!
theorem look2_8 (w:jS)(os:jU):(cV w os).2.2.2.2.2.2.2.2=cU.2.2.2.2.2.2.2.2:=by
 unfold cV cU
 rw[PySem.W.Fast.te11399771388471589532,PySem.W.Fast.te5454335931988440715,fA]
 kernel_rfl!
theorem look2_eq (w:jS)(os:jU):cV w os=cU:=Prod.ext (look2_0 w os) (Prod.ext (look2_1 w os) (Prod.ext (look2_2 w os) (Prod.ext (look2_3 w os) (Prod.ext (look2_4 w os) (Prod.ext (look2_5 w os) (Prod.ext (look2_6 w os) (Prod.ext (look2_7 w os) (look2_8 w os))))))))
theorem heap_tree (w:jS):aN kX w.params=absHeap (treeF kX w.params) 341 {}:=by
 rw[fA]
 have h:=fin_eq w default
 rw[show finL pg myTable w (stF pg w default).abs=some (stF pg w default).abs from rfl] at h
 exact(congrArg Shared.heap (Option.some.inj h)).symm
theorem aO {a:jQ}{o:kK}(w:jS)(h:Nat.blt a 341=true)(g:(treeF kX w.params).get a=some o)(al:alive o=some o):(aN kX w.params).get? a=some o:=by
 rw[heap_tree]
 exact(abs_get (lF h) g).trans al
theorem In_nil {h:kI}:Frag.In [] h:=fun _ _ e=>by cases e
theorem aE {h:kI}{a:jQ}{o:kK}{K:Frag}(x:h.get? a=some o)(y:K.In h):Frag.In ((a,o)::K) h:=fun b ob e=>by
 rw[nJ] at e
 split at e
 ·rename_i q
  rw[eq_of_beq q,x];exact e
 ·exact y b ob e
noncomputable def KF (P:jT):Frag:=[(2,boot_o_2 P),(3,o_3 P),(59,o_59 P),(60,o_60 P),(61,o_61 P),(62,o_62 P),(81,o_81 P),(82,o_82 P),(88,o_88 P),(89,o_89 P),(90,o_90 P),(91,o_91 P),(92,o_92 P),(134,o_134 P),(135,o_135 P),(136,o_136 P),(153,o_153 P),(159,o_159 P),(160,o_160 P),(166,o_166 P),(167,o_167 P),(173,o_173 P),(174,o_174 P),(180,o_180 P),(181,o_181 P),(187,o_187 P),(188,o_188 P),(189,o_189 P),(195,o_195 P),(196,o_196 P),(202,o_202 P),(203,o_203 P),(209,o_209 P),(210,o_210 P),(241,o_241 P),(242,o_242 P),(243,o_243 P),(244,o_244 P),(252,o_252 P),(253,o_253 P),(259,o_259 P),(260,o_260 P),(261,o_261 P),(267,o_267 P),(268,o_268 P),(269,o_269 P),(270,o_270 P),(276,o_276 P),(277,o_277 P),(278,o_278 P),(284,o_284 P),(285,o_285 P),(291,o_291 P),(292,o_292 P),(298,o_298 P),(299,o_299 P),(301,o_301 P),(303,o_303 P),(304,o_304 P),(310,o_310 P),(311,o_311 P),(313,o_313 P),(315,o_315 P),(316,o_316 P),(322,o_322 P),(323,o_323 P),(327,o_327 P),(328,o_328 P),(330,o_330 P),(332,o_332 P),(333,o_333 P),(339,o_339 P),(340,o_340 P)]
theorem k_2 (w:jS):(aN kX w.params).get? 2=some (boot_o_2 w.params):=aO w rfl (by kernel_rfl!) rfl
theorem k_3 (w:jS):(aN kX w.params).get? 3=some (o_3 w.params):=aO w rfl (by kernel_rfl!) rfl
theorem k_59 (w:jS):(aN kX w.params).get? 59=some (o_59 w.params):=aO w rfl (by kernel_rfl!) rfl
theorem k_60 (w:jS):(aN kX w.params).get? 60=some (o_60 w.params):=aO w rfl (by kernel_rfl!) rfl
theorem k_61 (w:jS):(aN kX w.params).get? 61=some (o_61 w.params):=aO w rfl (by kernel_rfl!) rfl
theorem k_62 (w:jS):(aN kX w.params).get? 62=some (o_62 w.params):=aO w rfl (by kernel_rfl!) rfl
theorem k_81 (w:jS):(aN kX w.params).get? 81=some (o_81 w.params):=aO w rfl (by kernel_rfl!) rfl
theorem k_82 (w:jS):(aN kX w.params).get? 82=some (o_82 w.params):=aO w rfl (by kernel_rfl!) rfl
theorem k_88 (w:jS):(aN kX w.params).get? 88=some (o_88 w.params):=aO w rfl (by kernel_rfl!) rfl
theorem k_89 (w:jS):(aN kX w.params).get? 89=some (o_89 w.params):=aO w rfl (by kernel_rfl!) rfl
theorem k_90 (w:jS):(aN kX w.params).get? 90=some (o_90 w.params):=aO w rfl (by kernel_rfl!) rfl
theorem k_91 (w:jS):(aN kX w.params).get? 91=some (o_91 w.params):=aO w rfl (by kernel_rfl!) rfl
theorem k_92 (w:jS):(aN kX w.params).get? 92=some (o_92 w.params):=aO w rfl (by kernel_rfl!) rfl
theorem k_134 (w:jS):(aN kX w.params).get? 134=some (o_134 w.params):=aO w rfl (by kernel_rfl!) rfl
theorem k_135 (w:jS):(aN kX w.params).get? 135=some (o_135 w.params):=aO w rfl (by kernel_rfl!) rfl
theorem k_136 (w:jS):(aN kX w.params).get? 136=some (o_136 w.params):=aO w rfl (by kernel_rfl!) rfl
theorem k_153 (w:jS):(aN kX w.params).get? 153=some (o_153 w.params):=aO w rfl (by kernel_rfl!) rfl
theorem k_159 (w:jS):(aN kX w.params).get? 159=some (o_159 w.params):=aO w rfl (by kernel_rfl!) rfl
theorem k_160 (w:jS):(aN kX w.params).get? 160=some (o_160 w.params):=aO w rfl (by kernel_rfl!) rfl
theorem k_166 (w:jS):(aN kX w.params).get? 166=some (o_166 w.params):=aO w rfl (by kernel_rfl!) rfl
theorem k_167 (w:jS):(aN kX w.params).get? 167=some (o_167 w.params):=aO w rfl (by kernel_rfl!) rfl
theorem k_173 (w:jS):(aN kX w.params).get? 173=some (o_173 w.params):=aO w rfl (by kernel_rfl!) rfl
theorem k_174 (w:jS):(aN kX w.params).get? 174=some (o_174 w.params):=aO w rfl (by kernel_rfl!) rfl
theorem k_180 (w:jS):(aN kX w.params).get? 180=some (o_180 w.params):=aO w rfl (by kernel_rfl!) rfl
theorem k_181 (w:jS):(aN kX w.params).get? 181=some (o_181 w.params):=aO w rfl (by kernel_rfl!) rfl
theorem k_187 (w:jS):(aN kX w.params).get? 187=some (o_187 w.params):=aO w rfl (by kernel_rfl!) rfl
theorem k_188 (w:jS):(aN kX w.params).get? 188=some (o_188 w.params):=aO w rfl (by kernel_rfl!) rfl
theorem k_189 (w:jS):(aN kX w.params).get? 189=some (o_189 w.params):=aO w rfl (by kernel_rfl!) rfl
theorem k_195 (w:jS):(aN kX w.params).get? 195=some (o_195 w.params):=aO w rfl (by kernel_rfl!) rfl
theorem k_196 (w:jS):(aN kX w.params).get? 196=some (o_196 w.params):=aO w rfl (by kernel_rfl!) rfl
theorem k_202 (w:jS):(aN kX w.params).get? 202=some (o_202 w.params):=aO w rfl (by kernel_rfl!) rfl
theorem k_203 (w:jS):(aN kX w.params).get? 203=some (o_203 w.params):=aO w rfl (by kernel_rfl!) rfl
theorem k_209 (w:jS):(aN kX w.params).get? 209=some (o_209 w.params):=aO w rfl (by kernel_rfl!) rfl
theorem k_210 (w:jS):(aN kX w.params).get? 210=some (o_210 w.params):=aO w rfl (by kernel_rfl!) rfl
theorem k_241 (w:jS):(aN kX w.params).get? 241=some (o_241 w.params):=aO w rfl (by kernel_rfl!) rfl
theorem k_242 (w:jS):(aN kX w.params).get? 242=some (o_242 w.params):=aO w rfl (by kernel_rfl!) rfl
theorem k_243 (w:jS):(aN kX w.params).get? 243=some (o_243 w.params):=aO w rfl (by kernel_rfl!) rfl
theorem k_244 (w:jS):(aN kX w.params).get? 244=some (o_244 w.params):=aO w rfl (by kernel_rfl!) rfl
theorem k_252 (w:jS):(aN kX w.params).get? 252=some (o_252 w.params):=aO w rfl (by kernel_rfl!) rfl
theorem k_253 (w:jS):(aN kX w.params).get? 253=some (o_253 w.params):=aO w rfl (by kernel_rfl!) rfl
theorem k_259 (w:jS):(aN kX w.params).get? 259=some (o_259 w.params):=aO w rfl (by kernel_rfl!) rfl
theorem k_260 (w:jS):(aN kX w.params).get? 260=some (o_260 w.params):=aO w rfl (by kernel_rfl!) rfl
theorem k_261 (w:jS):(aN kX w.params).get? 261=some (o_261 w.params):=aO w rfl (by kernel_rfl!) rfl
theorem k_267 (w:jS):(aN kX w.params).get? 267=some (o_267 w.params):=aO w rfl (by kernel_rfl!) rfl
theorem k_268 (w:jS):(aN kX w.params).get? 268=some (o_268 w.params):=aO w rfl (by kernel_rfl!) rfl
theorem k_269 (w:jS):(aN kX w.params).get? 269=some (o_269 w.params):=aO w rfl (by kernel_rfl!) rfl
theorem k_270 (w:jS):(aN kX w.params).get? 270=some (o_270 w.params):=aO w rfl (by kernel_rfl!) rfl
theorem k_276 (w:jS):(aN kX w.params).get? 276=some (o_276 w.params):=aO w rfl (by kernel_rfl!) rfl
theorem k_277 (w:jS):(aN kX w.params).get? 277=some (o_277 w.params):=aO w rfl (by kernel_rfl!) rfl
theorem k_278 (w:jS):(aN kX w.params).get? 278=some (o_278 w.params):=aO w rfl (by kernel_rfl!) rfl
theorem k_284 (w:jS):(aN kX w.params).get? 284=some (o_284 w.params):=aO w rfl (by kernel_rfl!) rfl
theorem k_285 (w:jS):(aN kX w.params).get? 285=some (o_285 w.params):=aO w rfl (by kernel_rfl!) rfl
theorem k_291 (w:jS):(aN kX w.params).get? 291=some (o_291 w.params):=aO w rfl (by kernel_rfl!) rfl
theorem k_292 (w:jS):(aN kX w.params).get? 292=some (o_292 w.params):=aO w rfl (by kernel_rfl!) rfl
theorem k_298 (w:jS):(aN kX w.params).get? 298=some (o_298 w.params):=aO w rfl (by kernel_rfl!) rfl
theorem k_299 (w:jS):(aN kX w.params).get? 299=some (o_299 w.params):=aO w rfl (by kernel_rfl!) rfl
theorem k_301 (w:jS):(aN kX w.params).get? 301=some (o_301 w.params):=aO w rfl (by kernel_rfl!) rfl
theorem k_303 (w:jS):(aN kX w.params).get? 303=some (o_303 w.params):=aO w rfl (by kernel_rfl!) rfl
theorem k_304 (w:jS):(aN kX w.params).get? 304=some (o_304 w.params):=aO w rfl (by kernel_rfl!) rfl
theorem k_310 (w:jS):(aN kX w.params).get? 310=some (o_310 w.params):=aO w rfl (by kernel_rfl!) rfl
theorem k_311 (w:jS):(aN kX w.params).get? 311=some (o_311 w.params):=aO w rfl (by kernel_rfl!) rfl
theorem k_313 (w:jS):(aN kX w.params).get? 313=some (o_313 w.params):=aO w rfl (by kernel_rfl!) rfl
theorem k_315 (w:jS):(aN kX w.params).get? 315=some (o_315 w.params):=aO w rfl (by kernel_rfl!) rfl
theorem k_316 (w:jS):(aN kX w.params).get? 316=some (o_316 w.params):=aO w rfl (by kernel_rfl!) rfl
theorem k_322 (w:jS):(aN kX w.params).get? 322=some (o_322 w.params):=aO w rfl (by kernel_rfl!) rfl
theorem k_323 (w:jS):(aN kX w.params).get? 323=some (o_323 w.params):=aO w rfl (by kernel_rfl!) rfl
theorem k_325 (w:jS):(aN kX w.params).get? 325=some (o_325 w.params):=aO w rfl (by kernel_rfl!) rfl
theorem k_327 (w:jS):(aN kX w.params).get? 327=some (o_327 w.params):=aO w rfl (by kernel_rfl!) rfl
theorem k_328 (w:jS):(aN kX w.params).get? 328=some (o_328 w.params):=aO w rfl (by kernel_rfl!) rfl
theorem k_330 (w:jS):(aN kX w.params).get? 330=some (o_330 w.params):=aO w rfl (by kernel_rfl!) rfl
theorem k_332 (w:jS):(aN kX w.params).get? 332=some (o_332 w.params):=aO w rfl (by kernel_rfl!) rfl
theorem k_333 (w:jS):(aN kX w.params).get? 333=some (o_333 w.params):=aO w rfl (by kernel_rfl!) rfl
theorem k_339 (w:jS):(aN kX w.params).get? 339=some (o_339 w.params):=aO w rfl (by kernel_rfl!) rfl
theorem k_340 (w:jS):(aN kX w.params).get? 340=some (o_340 w.params):=aO w rfl (by kernel_rfl!) rfl
theorem frag_in (w:jS):(KF w.params).In (aN kX w.params):=
 aE (k_2 w) (aE (k_3 w) (aE (k_59 w) (aE (k_60 w) (aE (k_61 w) (aE (k_62 w) (aE (k_81 w) (aE (k_82 w) (aE (k_88 w) (aE (k_89 w) (aE (k_90 w) (aE (k_91 w) (aE (k_92 w) (aE (k_134 w) (aE (k_135 w) (aE (k_136 w) (aE (k_153 w) (aE (k_159 w) (aE (k_160 w) (aE (k_166 w) (aE (k_167 w) (aE (k_173 w) (aE (k_174 w) (aE (k_180 w) (aE (k_181 w) (aE (k_187 w) (aE (k_188 w) (aE (k_189 w) (aE (k_195 w) (aE (k_196 w) (aE (k_202 w) (aE (k_203 w) (aE (k_209 w) (aE (k_210 w) (aE (k_241 w) (aE (k_242 w) (aE (k_243 w) (aE (k_244 w) (aE (k_252 w) (aE (k_253 w) (aE (k_259 w) (aE (k_260 w) (aE (k_261 w) (aE (k_267 w) (aE (k_268 w) (aE (k_269 w) (aE (k_270 w) (aE (k_276 w) (aE (k_277 w) (aE (k_278 w) (aE (k_284 w) (aE (k_285 w) (aE (k_291 w) (aE (k_292 w) (aE (k_298 w) (aE (k_299 w) (aE (k_301 w) (aE (k_303 w) (aE (k_304 w) (aE (k_310 w) (aE (k_311 w) (aE (k_313 w) (aE (k_315 w) (aE (k_316 w) (aE (k_322 w) (aE (k_323 w) (aE (k_327 w) (aE (k_328 w) (aE (k_330 w) (aE (k_332 w) (aE (k_333 w) (aE (k_339 w) (aE (k_340 w) In_nil))))))))))))))))))))))))))))))))))))))))))))))))))))))))))))))))))))))))
noncomputable def hk:Hook:=⟨kI,fun s=>s.heap,fun w=>aN kX w.params,fun w h=>(KF w.params).In h∧h.get? 325=some (o_325 w.params),fun w s e=>by rw[show s.heap=aN kX w.params from e];exact⟨frag_in w,k_325 w⟩,fun _ _ _ x k=>⟨x.1.keeps k,k _ _ x.2⟩⟩
theorem opening_eq:opening kX=plainProg kX.main.scope.names:=by kernel_rfl!
theorem fence_eq (s:jP):fenceModules? kX s=some s:=by kernel_rfl!
theorem left:LeftO kX qv looseL xt hk.obs hk.val 5362:=by
 refine LeftO.of_pieces (H₀:=boot_heap) (H₁:=aN kX) (gs₀:=⟨[]⟩) (gs₁:=⟨[]⟩) (d₀:=boot_drawn) (d₁:=boot_drawn) (k₀:=boot_toks) (k₁:=738) (m₀:=11) (ann:=annT) (M:=12+(1+(2619+2)))
  (boot_open opening_eq (by decide) fence_eq) (fun w=>congrFun size_eq w) run_my (by decide) (fun w=>?_)
 funext os
 exact Prod.ext (look1_eq w os) (Prod.ext (look2_eq w os) rfl)
noncomputable abbrev PW:kQ:=kX
abbrev Base:=jQ→Option kK
noncomputable def Le (B B':Base):Prop:=∀a o,B a=some o→B' a=some o
theorem Le.refl (B:Base):Le B B:=fun _ _ e=>e
theorem Le.trans {a b c:Base}(x:Le a b)(y:Le b c):Le a c:=fun q o e=>y q o (x q o e)
noncomputable abbrev Heap.ba (h:kI):Base:=fun a=>h.get? a
noncomputable def Base.put (B:Base)(a:jQ)(o:kK):Base:=fun b=>if b=a then some o else B b
theorem aM (B:Base)(a:jQ)(o:kK):Base.put B a o a=some o:=if_pos rfl
theorem cG (B:Base){a b:jQ}(o:kK)(n:b≠a):Base.put B a o b=B b:=if_neg n
theorem aV {B:Base}{a:jQ}(o:kK)(n:B a=none):Le B (Base.put B a o):=fun b o' e=>by
 by_cases q:b=a
 ·rw[q,n] at e;cases e
 ·rw[cG _ _ q];exact e
structure Kp (h h':kI):Prop where
 get:∀b o,h.get? b=some o→h'.get? b=some o
theorem Kp.refl (h:kI):Kp h h:=⟨fun _ _ e=>e⟩
theorem Kp.trans {a b c:kI}(x:Kp a b)(y:Kp b c):Kp a c:=⟨fun q o e=>y.get q o (x.get q o e)⟩
theorem Kp.push (h:kI)(o:kK):Kp h (h.push o):=⟨fun _ _ e=>lS _ e⟩
theorem Kp.ext {h h':kI}(x:Heap.ExtBut h.objs.size h h'):Kp h h':=⟨fun b o e=>x b o (lN (lM e)) e⟩
structure Cx where
 L:jQ
 D:jQ→Prop
 H:Base
 V:jQ→Prop
 n₀:Nat
 B₀:Base
 top:jQ
 W:jQ→Prop
noncomputable def Nm (h:kI)(L:jQ)(m:kJ→Option jL):Prop:=∃m',h.Ns L m'∧∀x v,m x=some v→m' x=some v
theorem Nm.of {h:kI}{L:jQ}{m:kJ→Option jL}(n:h.Ns L m):Nm h L m:=⟨m,n,fun _ _ e=>e⟩
theorem Nm.lt {h:kI}{L:jQ}{m:kJ→Option jL}(n:Nm h L m):L<h.objs.size:=n.elim fun _ x=>x.1.lt
theorem Nm.at' {h h':kI}{L:jQ}{m:kJ→Option jL}(n:Nm h L m)(e:∀o,h.get? L=some o→h'.get? L=some o):Nm h' L m:=jI1 (fun m'=>jG2 fun x y=>⟨m',x.at' e,y⟩) n
theorem Nm.keeps {h h':kI}{L:jQ}{m:kJ→Option jL}(n:Nm h L m)(e:∀b o,h.get? b=some o→h'.get? b=some o):Nm h' L m:=n.at' fun o=>e L o
theorem Nm.sameBut {h h':kI}{L b:jQ}{m:kJ→Option jL}(n:Nm h L m)(hs:Heap.SameBut b h h')(hab:L≠b):Nm h' L m:=jI1 (fun m'=>jG2 fun x y=>⟨m',x.sameBut hs hab,y⟩) n
structure St (C:Cx)(B:Base)(h:kI)(m:kJ→Option jL)(M:List (jQ×kK)):Prop where
 ns:Nm h C.L m
 ld:¬C.D C.L
 lv:C.V C.L
 fr:∀a o,C.D a→C.H a=some o→h.get? a=some o
 b:∀a o,B a=some o→h.get? a=some o
 v:∀a,C.V a→B a=none∧a≤C.top
 d:∀a,C.D a→a≤C.top
 tp:C.top=C.L∨(C.D C.top∧∃o,C.H C.top=some o)
 m:∀p∈M,h.get? p.1=some p.2∧¬C.D p.1∧¬C.V p.1∧B p.1=none
 nd:(M.map Prod.fst).Nodup
 nl:C.n₀≤C.L
 ow:∀p∈M,C.n₀≤p.1∨C.W p.1
 new:∀a o,B a=some o→a<C.n₀→C.B₀ a=some o
 up:Le C.B₀ B
section
variable {C:Cx}{B B':Base}{h h':kI}{m m':kJ→Option jL}{M M':List (jQ×kK)}
theorem St.tlt (S:St C B h m M):C.top<h.objs.size:=by
 rcases S.tp with e | ⟨e,o,x⟩
 ·rw[e];exact S.ns.lt
 ·exact lM (S.fr _ o e x)
theorem St.dlt (S:St C B h m M){a:jQ}(x:C.D a):a<h.objs.size:=mM (S.d a x) S.tlt
theorem St.vlt (S:St C B h m M){a:jQ}(x:C.V a):a<h.objs.size:=mM (S.v a x).2 S.tlt
theorem St.lt (S:St C B h m M):C.L<h.objs.size:=S.ns.lt
theorem St.blt (S:St C B h m M){a:jQ}{o:kK}(e:B a=some o):a<h.objs.size:=lM (S.b a o e)
theorem St.freshB (S:St C B h m M):B h.objs.size=none:=by
 cases q:B h.objs.size with
 | none=>rfl
 | some o=>exact absurd (S.blt q) (lO _)
theorem St.freshM (S:St C B h m M)(p:jQ×kK)(hp:p∈M):p.1≠h.objs.size:=fun q=>absurd (lM (S.m p hp).1) (by rw[q];exact lO _)
theorem St.set (S:St C B h m M)(hn:Nm h' C.L m')(hs:Heap.SameBut C.L h h'):St C B h' m' M where
 ns:=hn
 ld:=S.ld
 lv:=S.lv
 fr a o hd e:=(hs.2 a fun q=>S.ld (q▸hd)).trans (S.fr a o hd e)
 b a o e:=(hs.2 a fun q=>by rw[q,(S.v _ S.lv).1] at e;cases e).trans (S.b a o e)
 v:=S.v
 d:=S.d
 tp:=S.tp
 m p hp:=⟨(hs.2 p.1 fun q=>(S.m p hp).2.2.1 (q▸S.lv)).trans (S.m p hp).1,(S.m p hp).2⟩
 nd:=S.nd
 nl:=S.nl
 ow:=S.ow
 new:=S.new
 up:=S.up
theorem St.weak (S:St C B h m M)(l:∀x v,m' x=some v→m x=some v):St C B h m' M:={S with ns:=jI1 (fun m₁=>jG2 fun x y=>⟨m₁,x,fun a v e=>y a v (l a v e)⟩) S.ns}
theorem St.kp (S:St C B h m M)(k:Kp h h'):St C B h' m M where
 ns:=S.ns.keeps k.get
 ld:=S.ld
 lv:=S.lv
 fr a o hd e:=k.get _ _ (S.fr a o hd e)
 b a o e:=k.get _ _ (S.b a o e)
 v:=S.v
 d:=S.d
 tp:=S.tp
 m p hp:=⟨k.get _ _ (S.m p hp).1,(S.m p hp).2⟩
 nd:=S.nd
 nl:=S.nl
 ow:=S.ow
 new:=S.new
 up:=S.up
theorem St.base (S:St C B h m M)(k:Kp h h')(l:Le B B')(l':∀a o,B' a=some o→h'.get? a=some o)(f:∀a o,B' a=some o→a<h.objs.size→B a=some o):St C B' h' m M where
 ns:=S.ns.keeps k.get
 ld:=S.ld
 lv:=S.lv
 fr a o hd e:=k.get _ _ (S.fr a o hd e)
 b:=l'
 v a hv:=⟨by
  cases q:B' a with
  | none=>rfl
  | some o=>have:=f a o q (S.vlt hv);rw[(S.v a hv).1] at this;exact(nomatch this),(S.v a hv).2⟩
 d:=S.d
 tp:=S.tp
 m p hp:=jH4 (k.get _ _ (S.m p hp).1) ((S.m p hp).2.1) ((S.m p hp).2.2.1) (by
  cases q:B' p.1 with
  | none=>rfl
  | some o=>have:=f _ o q (lM (S.m p hp).1);rw[(S.m p hp).2.2.2] at this;cases this)
 nd:=S.nd
 nl:=S.nl
 ow:=S.ow
 new a o e hl:=S.new a o (f a o e (lP hl (lB S.nl (lL S.lt)))) hl
 up:=S.up.trans l
theorem St.froz (S:St C B h m M)(o:kK)(hf:o.isFreed=false):St C (Base.put B h.objs.size o) (h.push o) m M:=by
 refine S.base (Kp.push h o) (aV o S.freshB) (fun a o' e=>?_) fun a o' e hl=>?_
 ·by_cases q:a=h.objs.size
  ·rw[q,aM] at e;cases e;rw[q];exact lT _ hf
  ·rw[cG _ _ q] at e;exact lS _ (S.b a o' e)
 ·rw[cG _ _ (lN hl)] at e;exact e
theorem St.own (S:St C B h m M)(o:kK)(hf:o.isFreed=false):St C B (h.push o) m ((h.objs.size,o)::M):=by
 have T:=S.kp (Kp.push h o)
 exact {T with
  m:=fun p hp=>by
   rcases lH.1 hp with rfl | hp
   ·exact jH4 (lT _ hf) (fun q=>absurd (S.dlt q) (lO _)) (fun q=>absurd (S.vlt q) (lO _)) S.freshB
   ·exact T.m p hp
  ow:=fun p hp=>by
   rcases lH.1 hp with rfl | hp
   ·exact .inl (lB S.nl (lL S.lt))
   ·exact S.ow p hp
  nd:=by
   rw[mD,nW]
   refine⟨fun q=>?_,S.nd⟩
   refine jI1 ?_ (mC.1 q);intro p;refine jG2 ?_;intro hp e
   exact S.freshM p hp e}
theorem St.apart {M₁ M₂:List (jQ×kK)}{a:jQ}{o:kK}(S:St C B h m (M₁++(a,o)::M₂))(p:jQ×kK)(hp:p∈M₁++M₂):p.1≠a:=by
 intro q
 have:=S.nd
 rw[mP,mD,oD] at this
 refine jG3 ?_ this;try clear this;intro n1 n2 n3
 rcases lQ.1 hp with hp | hp
 ·exact n3 p.1 (mF hp) a (kZ ..) q
 ·refine(nW.1 n2).1 ?_
  rw[show(a,o).1=p.1 from q.symm]
  exact mF hp
theorem St.chg {M₁ M₂:List (jQ×kK)}{a:jQ}{o o':kK}(S:St C B h m (M₁++(a,o)::M₂))(hs:Heap.SameBut a h h')(e:h'.get? a=some o'):St C B h' m (M₁++(a,o')::M₂):=by
 have A:h.get? a=some o∧¬C.D a∧¬C.V a∧B a=none:=S.m (a,o) (lJ _ (kZ ..))
 have hL:a≠C.L:=fun q=>A.2.2.1 (q▸S.lv)
 have nd':=S.apart
 exact {
  ns:=S.ns.sameBut hs (Ne.symm hL)
  ld:=S.ld
  lv:=S.lv
  fr:=fun b x hd e=>(hs.2 b fun q=>A.2.1 (q▸hd)).trans (S.fr b x hd e)
  b:=fun b x e=>(hs.2 b fun q=>by rw[q,A.2.2.2] at e;cases e).trans (S.b b x e)
  v:=S.v
  d:=S.d
  tp:=S.tp
  m:=fun p hp=>by
   have go:∀p∈M₁++M₂,h'.get? p.1=some p.2∧¬C.D p.1∧¬C.V p.1∧B p.1=none:=fun p hp=>by
    have hm:p∈M₁++(a,o)::M₂:=by
     rcases lQ.1 hp with hp | hp
     ·exact mJ _ hp
     ·exact lJ _ (lX _ hp)
    exact⟨(hs.2 _ (nd' p hp)).trans (S.m p hm).1,(S.m p hm).2⟩
   rcases lQ.1 hp with hp | hp
   ·exact go p (mJ _ hp)
   ·rcases lH.1 hp with rfl | hp
    ·exact⟨e,A.2⟩
    ·exact go p (lJ _ hp)
  nd:=by have:=S.nd;rwa [mP,mD] at this⊢
  nl:=S.nl
  ow:=fun p hp=>by
   rcases lQ.1 hp with hp | hp
   ·exact S.ow p (mJ _ hp)
   ·rcases lH.1 hp with rfl | hp
    ·exact S.ow (a,o) (lJ _ (kZ ..))
    ·exact S.ow p (lJ _ (lX _ hp))
  new:=S.new
  up:=S.up}
theorem St.keep {M₁ M₂:List (jQ×kK)}{a:jQ}{o:kK}(S:St C B h m (M₁++(a,o)::M₂))(hw:¬C.W a):St C (Base.put B a o) h m (M₁++M₂):=by
 have hna:C.n₀≤a:=(S.ow (a,o) (lJ _ (kZ ..))).resolve_right hw
 have A:h.get? a=some o∧¬C.D a∧¬C.V a∧B a=none:=S.m (a,o) (lJ _ (kZ ..))
 have nd':=S.apart
 exact {S with
  b:=fun b x e=>by
   by_cases q:b=a
   ·rw[q,aM] at e;cases e;rw[q];exact A.1
   ·rw[cG _ _ q] at e;exact S.b b x e
  v:=fun b hv=>⟨by rw[cG _ _ (fun q:b=a=>A.2.2.1 (q▸hv))];exact(S.v b hv).1,(S.v b hv).2⟩
  m:=fun p hp=>by
   have hm:p∈M₁++(a,o)::M₂:=by
    rcases lQ.1 hp with hp | hp
    ·exact mJ _ hp
    ·exact lJ _ (lX _ hp)
   exact jH4 ((S.m p hm).1) ((S.m p hm).2.1) ((S.m p hm).2.2.1) (by rw[cG _ _ (nd' p hp)];exact(S.m p hm).2.2.2)
  ow:=fun p hp=>by
   rcases lQ.1 hp with hp | hp
   ·exact S.ow p (mJ _ hp)
   ·exact S.ow p (lJ _ (lX _ hp))
  nd:=by
   have:=S.nd
   rw[mP,mD,oD] at this
   rw[mP,oD]
   exact jH3 this.1 ((nW.1 this.2.1).2) (fun x hx y hy=>this.2.2 x hx y (lX _ hy))
  new:=fun b x e hl=>by
   by_cases q:b=a
   ·exact absurd hl (lU.2 (q▸hna))
   ·rw[cG _ _ q] at e;exact S.new b x e hl
  up:=S.up.trans (aV o A.2.2.2)}
end
structure Gr (w:jS)(mg mb:kJ→Option jL)(B:Base):Prop where
 K:∀a o,(KF w.params).lookup a=some o→B a=some o
 g:∃o,B mainGlobals=some o∧∀h:kI,h.get? mainGlobals=some o→h.Ns mainGlobals mg
 b:∃o,B builtinsNs=some o∧∀h:kI,h.get? builtinsNs=some o→h.Ns builtinsNs mb
 lim:∀h:kI,(∀a o,B a=some o→h.get? a=some o)→h.NoLimit
 bl:∀x:kJ,x≠"__name__"→mb x=bootBuiltins x
theorem Gr.le {w:jS}{mg mb:kJ→Option jL}{B B':Base}(G:Gr w mg mb B)(l:Le B B'):Gr w mg mb B':=
 ⟨fun a o e=>l a o (G.K a o e),jI1 (fun o=>jG2 fun e k=>⟨o,l _ _ e,k⟩) G.g,jI1 (fun o=>jG2 fun e k=>⟨o,l _ _ e,k⟩) G.b,fun h k=>G.lim h fun a o e=>k a o (l a o e),G.bl⟩
noncomputable def Ends (B:Base)(s:jP)(R:jL→Base→Prop)(v:jL)(s':jP):Prop:=
 ∃h' t d B',s'=⟨h',s.gens,d,t,s.os⟩∧Kp s.heap h'∧Le B B'∧(∀a o,B' a=some o→h'.get? a=some o)∧(∀a o,B' a=some o→a<s.heap.objs.size→B a=some o)∧R v B'
abbrev no:jL→jP→Prop:=fun _ _=>False
section
variable {w:jS}{A:jV}{s:jP}{mg mb:kJ→Option jL}{B:Base}
theorem Gr.at {h:kI}(G:Gr w mg mb B)(l:∀a o,B a=some o→h.get? a=some o):(KF w.params).In h:=fun a o e=>l a o (G.K a o e)
theorem eP {f:jQ}{o:kK}{nm qual:kJ}{params:Arguments}{body:List jW}{scope:Scope}{dV kV doc pm cdv ct:jL}{an:Option jQ}{args:List jL}{kw:List (kJ×jL)}{binds:List (kJ×jL)}{Q:jL→Base→Prop}
  (G:Gr w mg mb B) (hB:∀a o,B a=some o→s.heap.get? a=some o) (hroom:A.depth<recursionLimit) (ho:(KF w.params).lookup f=some o) (hdata:o.data=.func (fnOf nm qual params body scope dV kV doc pm an cdv ct))
  (hcd:codeIn (KF w.params) cdv qual=true) (hbind:BindsTo s (fnOf nm qual params body scope dV kV doc pm an cdv ct) ⟨args,kw⟩ binds)
  (hcell:∀x∈scope.names,x.2≠.cell) (hloc:∀x∈binds,scope.names.lookup x.1=some .local)
  (hco:scope.isCoroutine=false) (hgen:scope.isGenerator=false) (hk:scope.kind=.function)
  (h:∀C h₁ t,C.B₀=B→C.n₀=s.heap.objs.size→St C B h₁ (fun x=>binds.reverse.lookup x) []→C.H=(fun a=>s.heap.get? a)→((∀a,a<C.n₀→C.D a)∧∀a,¬C.W a)→
   jN (jM PW w) (A.deeper (envX qual scope C.L f cdv [])) (kO body (envX qual scope C.L f cdv []))
    (fun fl s'=>Ends B s Q (match fl with | .ret v=>v | _=>.none) s') no ⟨h₁,s.gens,s.drawn,t,s.os⟩):
  jN (jM PW w) A (call (.ref f) args kw) (Ends B s Q) no s:=by
 refine wpAny_call (codeAny_call_def hroom (hB _ _ (G.K _ _ ho)) hdata (G.lim _ hB) (codeRec_of (G.at hB) hcd) rfl hbind hcell hloc (fun h₁ hn hk₁=>?_) hco hgen hk)
 have S:St ⟨s.heap.objs.size,fun a=>a<s.heap.objs.size,fun a=>s.heap.get? a,fun a=>a=s.heap.objs.size,s.heap.objs.size,B,s.heap.objs.size,fun _=>False⟩ B h₁ (fun x=>binds.reverse.lookup x) []:={
  ns:=.of hn
  ld:=lO _
  lv:=rfl
  fr:=fun a o _ e=>hk₁ a o e
  b:=fun a o e=>hk₁ a o (hB a o e)
  v:=fun a e=>⟨by
   subst e
   cases q:B s.heap.objs.size with
   | none=>rfl
   | some o=>exact absurd (lM (hB _ _ q)) (lO _),mB e⟩
  d:=fun a hl=>lL hl
  tp:=.inl rfl
  m:=fun p hp=>nomatch hp
  nd:=oO
  nl:=lE _
  ow:=fun p hp=>nomatch hp
  new:=fun a o e _=>e
  up:=Le.refl _}
 exact jR (h ⟨s.heap.objs.size,fun a=>a<s.heap.objs.size,fun a=>s.heap.get? a,fun a=>a=s.heap.objs.size,s.heap.objs.size,B,s.heap.objs.size,fun _=>False⟩ h₁ _ rfl rfl S rfl ⟨fun _ x=>x,fun _ x=>x⟩) (fun _ _ x=>x) fun _ _ x=>x.elim
theorem St.ends {C:Cx}{B':Base}{h:kI}{m:kJ→Option jL}{M:List (jQ×kK)}{d:kU}{t:Nat}{R:jL→Base→Prop}{v:jL}(S:St C B' h m M)(e1:C.B₀=B)(e2:C.n₀=s.heap.objs.size)(e3:C.H=fun a=>s.heap.get? a)(e4:(∀a,a<C.n₀→C.D a)∧∀a,¬C.W a)(r:R v B'):
  Ends B s R v ⟨h,s.gens,d,t,s.os⟩:=
 jJ4 h t d B' (jH6 rfl ⟨fun a o e=>S.fr a o (e4.1 a (e2▸lM e)) (by rw[e3];exact e)⟩ (e1▸S.up) S.b (fun a o e hl=>e1▸S.new a o e (e2▸hl)) r)
end
noncomputable def hkc {α:Type}(ne:Nonempty α)(P:α→Prop):α:=@Classical.epsilon α ne (fun x=>¬P x)
theorem neP:Nonempty jT:=⟨{strHash:=fun _=>0,shareClass:=fun _=>0,mergeTok:=id,idOf:=fun _=>0,idOfShared:=fun _ _=>0,followText:=fun _=>false,idOfImm:=fun _=>0}⟩
theorem neW:Nonempty jS:=neP.elim fun p=>⟨⟨fun _ _=>0,p⟩⟩
theorem neA:Nonempty jV:=⟨{}⟩
theorem neD:Nonempty kU:=⟨boot_drawn⟩
theorem neH:Nonempty kI:=⟨default⟩
theorem neO:Nonempty jU:=⟨default⟩
theorem neS:Nonempty jP:=neD.elim fun d=>⟨⟨default,⟨[]⟩,d,0,default⟩⟩
theorem neC:Nonempty Cx:=⟨⟨0,fun _=>False,fun _=>none,fun _=>False,0,fun _=>none,0,fun _=>False⟩⟩
theorem neN:Nonempty Nat:=⟨0⟩
theorem neI:Nonempty Int:=⟨0⟩
theorem neV:Nonempty jL:=⟨.none⟩
theorem neB:Nonempty Base:=⟨fun _=>none⟩
theorem neL {α:Type}:Nonempty (List α):=⟨[]⟩
theorem neM:Nonempty (kJ→Option jL):=⟨fun _=>none⟩
theorem neG {α:Type}[Inhabited α]:Nonempty α:=⟨default⟩
theorem neF {α:Type}:Nonempty (α→Prop):=⟨fun _=>True⟩
theorem neQ {α β:Type}(a:Nonempty α)(b:Nonempty β):Nonempty (α×β):=a.elim fun a=>b.elim fun b=>⟨(a,b)⟩
theorem neU:Nonempty Unit:=⟨()⟩
theorem hkE {α:Type}{P:α→Prop}(ne:Nonempty α)(q:P (hkc ne P))(x:α):P x:=Classical.byContradiction fun hx=>@Classical.epsilon_spec α (fun x=>¬P x) ⟨x,hx⟩ q
section
variable {A B C D E F G H I J K L M N O Q S T U V W X Y Z α β γ δ ε R:Type}
noncomputable def pj0(z:A×R):A:=z.1
noncomputable def pj1(z:A×B×R):B:=z.2.1
noncomputable def pj2(z:A×B×C×R):C:=z.2.2.1
noncomputable def pj3(z:A×B×C×D×R):D:=z.2.2.2.1
noncomputable def pj4(z:A×B×C×D×E×R):E:=z.2.2.2.2.1
noncomputable def pj5(z:A×B×C×D×E×F×R):F:=z.2.2.2.2.2.1
noncomputable def pj6(z:A×B×C×D×E×F×G×R):G:=z.2.2.2.2.2.2.1
noncomputable def pj7(z:A×B×C×D×E×F×G×H×R):H:=z.2.2.2.2.2.2.2.1
noncomputable def pj8(z:A×B×C×D×E×F×G×H×I×R):I:=z.2.2.2.2.2.2.2.2.1
noncomputable def pj9(z:A×B×C×D×E×F×G×H×I×J×R):J:=z.2.2.2.2.2.2.2.2.2.1
noncomputable def pj10(z:A×B×C×D×E×F×G×H×I×J×K×R):K:=z.2.2.2.2.2.2.2.2.2.2.1
noncomputable def pj11(z:A×B×C×D×E×F×G×H×I×J×K×L×R):L:=z.2.2.2.2.2.2.2.2.2.2.2.1
noncomputable def pj12(z:A×B×C×D×E×F×G×H×I×J×K×L×M×R):M:=z.2.2.2.2.2.2.2.2.2.2.2.2.1
noncomputable def pj13(z:A×B×C×D×E×F×G×H×I×J×K×L×M×N×R):N:=z.2.2.2.2.2.2.2.2.2.2.2.2.2.1
noncomputable def pj14(z:A×B×C×D×E×F×G×H×I×J×K×L×M×N×O×R):O:=z.2.2.2.2.2.2.2.2.2.2.2.2.2.2.1
noncomputable def pj15(z:A×B×C×D×E×F×G×H×I×J×K×L×M×N×O×Q×R):Q:=z.2.2.2.2.2.2.2.2.2.2.2.2.2.2.2.1
noncomputable def pj16(z:A×B×C×D×E×F×G×H×I×J×K×L×M×N×O×Q×S×R):S:=z.2.2.2.2.2.2.2.2.2.2.2.2.2.2.2.2.1
noncomputable def pj17(z:A×B×C×D×E×F×G×H×I×J×K×L×M×N×O×Q×S×T×R):T:=z.2.2.2.2.2.2.2.2.2.2.2.2.2.2.2.2.2.1
noncomputable def pj18(z:A×B×C×D×E×F×G×H×I×J×K×L×M×N×O×Q×S×T×U×R):U:=z.2.2.2.2.2.2.2.2.2.2.2.2.2.2.2.2.2.2.1
noncomputable def pj19(z:A×B×C×D×E×F×G×H×I×J×K×L×M×N×O×Q×S×T×U×V×R):V:=z.2.2.2.2.2.2.2.2.2.2.2.2.2.2.2.2.2.2.2.1
noncomputable def pj20(z:A×B×C×D×E×F×G×H×I×J×K×L×M×N×O×Q×S×T×U×V×W×R):W:=z.2.2.2.2.2.2.2.2.2.2.2.2.2.2.2.2.2.2.2.2.1
noncomputable def pj21(z:A×B×C×D×E×F×G×H×I×J×K×L×M×N×O×Q×S×T×U×V×W×X×R):X:=z.2.2.2.2.2.2.2.2.2.2.2.2.2.2.2.2.2.2.2.2.2.1
noncomputable def pj22(z:A×B×C×D×E×F×G×H×I×J×K×L×M×N×O×Q×S×T×U×V×W×X×Y×R):Y:=z.2.2.2.2.2.2.2.2.2.2.2.2.2.2.2.2.2.2.2.2.2.2.1
noncomputable def pj23(z:A×B×C×D×E×F×G×H×I×J×K×L×M×N×O×Q×S×T×U×V×W×X×Y×Z×R):Z:=z.2.2.2.2.2.2.2.2.2.2.2.2.2.2.2.2.2.2.2.2.2.2.2.1
noncomputable def pj24(z:A×B×C×D×E×F×G×H×I×J×K×L×M×N×O×Q×S×T×U×V×W×X×Y×Z×α×R):α:=z.2.2.2.2.2.2.2.2.2.2.2.2.2.2.2.2.2.2.2.2.2.2.2.2.1
noncomputable def pj25(z:A×B×C×D×E×F×G×H×I×J×K×L×M×N×O×Q×S×T×U×V×W×X×Y×Z×α×β×R):β:=z.2.2.2.2.2.2.2.2.2.2.2.2.2.2.2.2.2.2.2.2.2.2.2.2.2.1
noncomputable def pj26(z:A×B×C×D×E×F×G×H×I×J×K×L×M×N×O×Q×S×T×U×V×W×X×Y×Z×α×β×γ×R):γ:=z.2.2.2.2.2.2.2.2.2.2.2.2.2.2.2.2.2.2.2.2.2.2.2.2.2.2.1
noncomputable def pj27(z:A×B×C×D×E×F×G×H×I×J×K×L×M×N×O×Q×S×T×U×V×W×X×Y×Z×α×β×γ×δ×R):δ:=z.2.2.2.2.2.2.2.2.2.2.2.2.2.2.2.2.2.2.2.2.2.2.2.2.2.2.2.1
noncomputable def pj28(z:A×B×C×D×E×F×G×H×I×J×K×L×M×N×O×Q×S×T×U×V×W×X×Y×Z×α×β×γ×δ×ε×R):ε:=z.2.2.2.2.2.2.2.2.2.2.2.2.2.2.2.2.2.2.2.2.2.2.2.2.2.2.2.2.1
noncomputable def hU2(P:A->B->Prop)(z:A×B×Unit):Prop:=P (pj0 z) (pj1 z)
theorem hkI2{P:A->B->Prop}(ne)(k:hU2 P (hkc ne (hU2 P))):∀a b,P a b:=fun a b=>hkE ne k (a,b,())
noncomputable def hU3(P:A->B->C->Prop)(z:A×B×C×Unit):Prop:=P (pj0 z) (pj1 z) (pj2 z)
theorem hkI3{P:A->B->C->Prop}(ne)(k:hU3 P (hkc ne (hU3 P))):∀a b c,P a b c:=fun a b c=>hkE ne k (a,b,c,())
noncomputable def hU4(P:A->B->C->D->Prop)(z:A×B×C×D×Unit):Prop:=P (pj0 z) (pj1 z) (pj2 z) (pj3 z)
theorem hkI4{P:A->B->C->D->Prop}(ne)(k:hU4 P (hkc ne (hU4 P))):∀a b c d,P a b c d:=fun a b c d=>hkE ne k (a,b,c,d,())
noncomputable def hU5(P:A->B->C->D->E->Prop)(z:A×B×C×D×E×Unit):Prop:=P (pj0 z) (pj1 z) (pj2 z) (pj3 z) (pj4 z)
theorem hkI5{P:A->B->C->D->E->Prop}(ne)(k:hU5 P (hkc ne (hU5 P))):∀a b c d e,P a b c d e:=fun a b c d e=>hkE ne k (a,b,c,d,e,())
noncomputable def hU6(P:A->B->C->D->E->F->Prop)(z:A×B×C×D×E×F×Unit):Prop:=P (pj0 z) (pj1 z) (pj2 z) (pj3 z) (pj4 z) (pj5 z)
theorem hkI6{P:A->B->C->D->E->F->Prop}(ne)(k:hU6 P (hkc ne (hU6 P))):∀a b c d e f,P a b c d e f:=fun a b c d e f=>hkE ne k (a,b,c,d,e,f,())
noncomputable def hU7(P:A->B->C->D->E->F->G->Prop)(z:A×B×C×D×E×F×G×Unit):Prop:=P (pj0 z) (pj1 z) (pj2 z) (pj3 z) (pj4 z) (pj5 z) (pj6 z)
theorem hkI7{P:A->B->C->D->E->F->G->Prop}(ne)(k:hU7 P (hkc ne (hU7 P))):∀a b c d e f g,P a b c d e f g:=fun a b c d e f g=>hkE ne k (a,b,c,d,e,f,g,())
noncomputable def hU8(P:A->B->C->D->E->F->G->H->Prop)(z:A×B×C×D×E×F×G×H×Unit):Prop:=P (pj0 z) (pj1 z) (pj2 z) (pj3 z) (pj4 z) (pj5 z) (pj6 z) (pj7 z)
theorem hkI8{P:A->B->C->D->E->F->G->H->Prop}(ne)(k:hU8 P (hkc ne (hU8 P))):∀a b c d e f g i,P a b c d e f g i:=fun a b c d e f g i=>hkE ne k (a,b,c,d,e,f,g,i,())
noncomputable def hU9(P:A->B->C->D->E->F->G->H->I->Prop)(z:A×B×C×D×E×F×G×H×I×Unit):Prop:=P (pj0 z) (pj1 z) (pj2 z) (pj3 z) (pj4 z) (pj5 z) (pj6 z) (pj7 z) (pj8 z)
theorem hkI9{P:A->B->C->D->E->F->G->H->I->Prop}(ne)(k:hU9 P (hkc ne (hU9 P))):∀a b c d e f g i j,P a b c d e f g i j:=fun a b c d e f g i j=>hkE ne k (a,b,c,d,e,f,g,i,j,())
noncomputable def hU10(P:A->B->C->D->E->F->G->H->I->J->Prop)(z:A×B×C×D×E×F×G×H×I×J×Unit):Prop:=P (pj0 z) (pj1 z) (pj2 z) (pj3 z) (pj4 z) (pj5 z) (pj6 z) (pj7 z) (pj8 z) (pj9 z)
theorem hkI10{P:A->B->C->D->E->F->G->H->I->J->Prop}(ne)(k:hU10 P (hkc ne (hU10 P))):∀a b c d e f g i j l,P a b c d e f g i j l:=fun a b c d e f g i j l=>hkE ne k (a,b,c,d,e,f,g,i,j,l,())
noncomputable def hU11(P:A->B->C->D->E->F->G->H->I->J->K->Prop)(z:A×B×C×D×E×F×G×H×I×J×K×Unit):Prop:=P (pj0 z) (pj1 z) (pj2 z) (pj3 z) (pj4 z) (pj5 z) (pj6 z) (pj7 z) (pj8 z) (pj9 z) (pj10 z)
theorem hkI11{P:A->B->C->D->E->F->G->H->I->J->K->Prop}(ne)(k:hU11 P (hkc ne (hU11 P))):∀a b c d e f g i j l m,P a b c d e f g i j l m:=fun a b c d e f g i j l m=>hkE ne k (a,b,c,d,e,f,g,i,j,l,m,())
noncomputable def hU12(P:A->B->C->D->E->F->G->H->I->J->K->L->Prop)(z:A×B×C×D×E×F×G×H×I×J×K×L×Unit):Prop:=P (pj0 z) (pj1 z) (pj2 z) (pj3 z) (pj4 z) (pj5 z) (pj6 z) (pj7 z) (pj8 z) (pj9 z) (pj10 z) (pj11 z)
theorem hkI12{P:A->B->C->D->E->F->G->H->I->J->K->L->Prop}(ne)(k:hU12 P (hkc ne (hU12 P))):∀a b c d e f g i j l m n,P a b c d e f g i j l m n:=fun a b c d e f g i j l m n=>hkE ne k (a,b,c,d,e,f,g,i,j,l,m,n,())
noncomputable def hU13(P:A->B->C->D->E->F->G->H->I->J->K->L->M->Prop)(z:A×B×C×D×E×F×G×H×I×J×K×L×M×Unit):Prop:=P (pj0 z) (pj1 z) (pj2 z) (pj3 z) (pj4 z) (pj5 z) (pj6 z) (pj7 z) (pj8 z) (pj9 z) (pj10 z) (pj11 z) (pj12 z)
theorem hkI13{P:A->B->C->D->E->F->G->H->I->J->K->L->M->Prop}(ne)(k:hU13 P (hkc ne (hU13 P))):∀a b c d e f g i j l m n o,P a b c d e f g i j l m n o:=fun a b c d e f g i j l m n o=>hkE ne k (a,b,c,d,e,f,g,i,j,l,m,n,o,())
noncomputable def hU14(P:A->B->C->D->E->F->G->H->I->J->K->L->M->N->Prop)(z:A×B×C×D×E×F×G×H×I×J×K×L×M×N×Unit):Prop:=P (pj0 z) (pj1 z) (pj2 z) (pj3 z) (pj4 z) (pj5 z) (pj6 z) (pj7 z) (pj8 z) (pj9 z) (pj10 z) (pj11 z) (pj12 z) (pj13 z)
theorem hkI14{P:A->B->C->D->E->F->G->H->I->J->K->L->M->N->Prop}(ne)(k:hU14 P (hkc ne (hU14 P))):∀a b c d e f g i j l m n o p,P a b c d e f g i j l m n o p:=fun a b c d e f g i j l m n o p=>hkE ne k (a,b,c,d,e,f,g,i,j,l,m,n,o,p,())
noncomputable def hU15(P:A->B->C->D->E->F->G->H->I->J->K->L->M->N->O->Prop)(z:A×B×C×D×E×F×G×H×I×J×K×L×M×N×O×Unit):Prop:=P (pj0 z) (pj1 z) (pj2 z) (pj3 z) (pj4 z) (pj5 z) (pj6 z) (pj7 z) (pj8 z) (pj9 z) (pj10 z) (pj11 z) (pj12 z) (pj13 z) (pj14 z)
theorem hkI15{P:A->B->C->D->E->F->G->H->I->J->K->L->M->N->O->Prop}(ne)(k:hU15 P (hkc ne (hU15 P))):∀a b c d e f g i j l m n o p q,P a b c d e f g i j l m n o p q:=fun a b c d e f g i j l m n o p q=>hkE ne k (a,b,c,d,e,f,g,i,j,l,m,n,o,p,q,())
noncomputable def hU16(P:A->B->C->D->E->F->G->H->I->J->K->L->M->N->O->Q->Prop)(z:A×B×C×D×E×F×G×H×I×J×K×L×M×N×O×Q×Unit):Prop:=P (pj0 z) (pj1 z) (pj2 z) (pj3 z) (pj4 z) (pj5 z) (pj6 z) (pj7 z) (pj8 z) (pj9 z) (pj10 z) (pj11 z) (pj12 z) (pj13 z) (pj14 z) (pj15 z)
theorem hkI16{P:A->B->C->D->E->F->G->H->I->J->K->L->M->N->O->Q->Prop}(ne)(k:hU16 P (hkc ne (hU16 P))):∀a b c d e f g i j l m n o p q r,P a b c d e f g i j l m n o p q r:=fun a b c d e f g i j l m n o p q r=>hkE ne k (a,b,c,d,e,f,g,i,j,l,m,n,o,p,q,r,())
noncomputable def hU17(P:A->B->C->D->E->F->G->H->I->J->K->L->M->N->O->Q->S->Prop)(z:A×B×C×D×E×F×G×H×I×J×K×L×M×N×O×Q×S×Unit):Prop:=P (pj0 z) (pj1 z) (pj2 z) (pj3 z) (pj4 z) (pj5 z) (pj6 z) (pj7 z) (pj8 z) (pj9 z) (pj10 z) (pj11 z) (pj12 z) (pj13 z) (pj14 z) (pj15 z) (pj16 z)
theorem hkI17{P:A->B->C->D->E->F->G->H->I->J->K->L->M->N->O->Q->S->Prop}(ne)(k:hU17 P (hkc ne (hU17 P))):∀a b c d e f g i j l m n o p q r s,P a b c d e f g i j l m n o p q r s:=fun a b c d e f g i j l m n o p q r s=>hkE ne k (a,b,c,d,e,f,g,i,j,l,m,n,o,p,q,r,s,())
noncomputable def hU18(P:A->B->C->D->E->F->G->H->I->J->K->L->M->N->O->Q->S->T->Prop)(z:A×B×C×D×E×F×G×H×I×J×K×L×M×N×O×Q×S×T×Unit):Prop:=P (pj0 z) (pj1 z) (pj2 z) (pj3 z) (pj4 z) (pj5 z) (pj6 z) (pj7 z) (pj8 z) (pj9 z) (pj10 z) (pj11 z) (pj12 z) (pj13 z) (pj14 z) (pj15 z) (pj16 z) (pj17 z)
theorem hkI18{P:A->B->C->D->E->F->G->H->I->J->K->L->M->N->O->Q->S->T->Prop}(ne)(k:hU18 P (hkc ne (hU18 P))):∀a b c d e f g i j l m n o p q r s t,P a b c d e f g i j l m n o p q r s t:=fun a b c d e f g i j l m n o p q r s t=>hkE ne k (a,b,c,d,e,f,g,i,j,l,m,n,o,p,q,r,s,t,())
noncomputable def hU19(P:A->B->C->D->E->F->G->H->I->J->K->L->M->N->O->Q->S->T->U->Prop)(z:A×B×C×D×E×F×G×H×I×J×K×L×M×N×O×Q×S×T×U×Unit):Prop:=P (pj0 z) (pj1 z) (pj2 z) (pj3 z) (pj4 z) (pj5 z) (pj6 z) (pj7 z) (pj8 z) (pj9 z) (pj10 z) (pj11 z) (pj12 z) (pj13 z) (pj14 z) (pj15 z) (pj16 z) (pj17 z) (pj18 z)
theorem hkI19{P:A->B->C->D->E->F->G->H->I->J->K->L->M->N->O->Q->S->T->U->Prop}(ne)(k:hU19 P (hkc ne (hU19 P))):∀a b c d e f g i j l m n o p q r s t u,P a b c d e f g i j l m n o p q r s t u:=fun a b c d e f g i j l m n o p q r s t u=>hkE ne k (a,b,c,d,e,f,g,i,j,l,m,n,o,p,q,r,s,t,u,())
noncomputable def hU20(P:A->B->C->D->E->F->G->H->I->J->K->L->M->N->O->Q->S->T->U->V->Prop)(z:A×B×C×D×E×F×G×H×I×J×K×L×M×N×O×Q×S×T×U×V×Unit):Prop:=P (pj0 z) (pj1 z) (pj2 z) (pj3 z) (pj4 z) (pj5 z) (pj6 z) (pj7 z) (pj8 z) (pj9 z) (pj10 z) (pj11 z) (pj12 z) (pj13 z) (pj14 z) (pj15 z) (pj16 z) (pj17 z) (pj18 z) (pj19 z)
theorem hkI20{P:A->B->C->D->E->F->G->H->I->J->K->L->M->N->O->Q->S->T->U->V->Prop}(ne)(k:hU20 P (hkc ne (hU20 P))):∀a b c d e f g i j l m n o p q r s t u v,P a b c d e f g i j l m n o p q r s t u v:=fun a b c d e f g i j l m n o p q r s t u v=>hkE ne k (a,b,c,d,e,f,g,i,j,l,m,n,o,p,q,r,s,t,u,v,())
noncomputable def hU21(P:A->B->C->D->E->F->G->H->I->J->K->L->M->N->O->Q->S->T->U->V->W->Prop)(z:A×B×C×D×E×F×G×H×I×J×K×L×M×N×O×Q×S×T×U×V×W×Unit):Prop:=P (pj0 z) (pj1 z) (pj2 z) (pj3 z) (pj4 z) (pj5 z) (pj6 z) (pj7 z) (pj8 z) (pj9 z) (pj10 z) (pj11 z) (pj12 z) (pj13 z) (pj14 z) (pj15 z) (pj16 z) (pj17 z) (pj18 z) (pj19 z) (pj20 z)
theorem hkI21{P:A->B->C->D->E->F->G->H->I->J->K->L->M->N->O->Q->S->T->U->V->W->Prop}(ne)(k:hU21 P (hkc ne (hU21 P))):∀a b c d e f g i j l m n o p q r s t u v w,P a b c d e f g i j l m n o p q r s t u v w:=fun a b c d e f g i j l m n o p q r s t u v w=>hkE ne k (a,b,c,d,e,f,g,i,j,l,m,n,o,p,q,r,s,t,u,v,w,())
noncomputable def hU22(P:A->B->C->D->E->F->G->H->I->J->K->L->M->N->O->Q->S->T->U->V->W->X->Prop)(z:A×B×C×D×E×F×G×H×I×J×K×L×M×N×O×Q×S×T×U×V×W×X×Unit):Prop:=P (pj0 z) (pj1 z) (pj2 z) (pj3 z) (pj4 z) (pj5 z) (pj6 z) (pj7 z) (pj8 z) (pj9 z) (pj10 z) (pj11 z) (pj12 z) (pj13 z) (pj14 z) (pj15 z) (pj16 z) (pj17 z) (pj18 z) (pj19 z) (pj20 z) (pj21 z)
theorem hkI22{P:A->B->C->D->E->F->G->H->I->J->K->L->M->N->O->Q->S->T->U->V->W->X->Prop}(ne)(k:hU22 P (hkc ne (hU22 P))):∀a b c d e f g i j l m n o p q r s t u v w x,P a b c d e f g i j l m n o p q r s t u v w x:=fun a b c d e f g i j l m n o p q r s t u v w x=>hkE ne k (a,b,c,d,e,f,g,i,j,l,m,n,o,p,q,r,s,t,u,v,w,x,())
noncomputable def hU23(P:A->B->C->D->E->F->G->H->I->J->K->L->M->N->O->Q->S->T->U->V->W->X->Y->Prop)(z:A×B×C×D×E×F×G×H×I×J×K×L×M×N×O×Q×S×T×U×V×W×X×Y×Unit):Prop:=P (pj0 z) (pj1 z) (pj2 z) (pj3 z) (pj4 z) (pj5 z) (pj6 z) (pj7 z) (pj8 z) (pj9 z) (pj10 z) (pj11 z) (pj12 z) (pj13 z) (pj14 z) (pj15 z) (pj16 z) (pj17 z) (pj18 z) (pj19 z) (pj20 z) (pj21 z) (pj22 z)
theorem hkI23{P:A->B->C->D->E->F->G->H->I->J->K->L->M->N->O->Q->S->T->U->V->W->X->Y->Prop}(ne)(k:hU23 P (hkc ne (hU23 P))):∀a b c d e f g i j l m n o p q r s t u v w x y,P a b c d e f g i j l m n o p q r s t u v w x y:=fun a b c d e f g i j l m n o p q r s t u v w x y=>hkE ne k (a,b,c,d,e,f,g,i,j,l,m,n,o,p,q,r,s,t,u,v,w,x,y,())
noncomputable def hU24(P:A->B->C->D->E->F->G->H->I->J->K->L->M->N->O->Q->S->T->U->V->W->X->Y->Z->Prop)(z:A×B×C×D×E×F×G×H×I×J×K×L×M×N×O×Q×S×T×U×V×W×X×Y×Z×Unit):Prop:=P (pj0 z) (pj1 z) (pj2 z) (pj3 z) (pj4 z) (pj5 z) (pj6 z) (pj7 z) (pj8 z) (pj9 z) (pj10 z) (pj11 z) (pj12 z) (pj13 z) (pj14 z) (pj15 z) (pj16 z) (pj17 z) (pj18 z) (pj19 z) (pj20 z) (pj21 z) (pj22 z) (pj23 z)
theorem hkI24{P:A->B->C->D->E->F->G->H->I->J->K->L->M->N->O->Q->S->T->U->V->W->X->Y->Z->Prop}(ne)(k:hU24 P (hkc ne (hU24 P))):∀a b c d e f g i j l m n o p q r s t u v w x y z,P a b c d e f g i j l m n o p q r s t u v w x y z:=fun a b c d e f g i j l m n o p q r s t u v w x y z=>hkE ne k (a,b,c,d,e,f,g,i,j,l,m,n,o,p,q,r,s,t,u,v,w,x,y,z,())
noncomputable def hU26(P:A->B->C->D->E->F->G->H->I->J->K->L->M->N->O->Q->S->T->U->V->W->X->Y->Z->α->β->Prop)(z:A×B×C×D×E×F×G×H×I×J×K×L×M×N×O×Q×S×T×U×V×W×X×Y×Z×α×β×Unit):Prop:=P (pj0 z) (pj1 z) (pj2 z) (pj3 z) (pj4 z) (pj5 z) (pj6 z) (pj7 z) (pj8 z) (pj9 z) (pj10 z) (pj11 z) (pj12 z) (pj13 z) (pj14 z) (pj15 z) (pj16 z) (pj17 z) (pj18 z) (pj19 z) (pj20 z) (pj21 z) (pj22 z) (pj23 z) (pj24 z) (pj25 z)
theorem hkI26{P:A->B->C->D->E->F->G->H->I->J->K->L->M->N->O->Q->S->T->U->V->W->X->Y->Z->α->β->Prop}(ne)(k:hU26 P (hkc ne (hU26 P))):∀a b c d e f g i j l m n o p q r s t u v w x y z αa βb,P a b c d e f g i j l m n o p q r s t u v w x y z αa βb:=fun a b c d e f g i j l m n o p q r s t u v w x y z αa βb=>hkE ne k (a,b,c,d,e,f,g,i,j,l,m,n,o,p,q,r,s,t,u,v,w,x,y,z,αa,βb,())
noncomputable def hU27(P:A->B->C->D->E->F->G->H->I->J->K->L->M->N->O->Q->S->T->U->V->W->X->Y->Z->α->β->γ->Prop)(z:A×B×C×D×E×F×G×H×I×J×K×L×M×N×O×Q×S×T×U×V×W×X×Y×Z×α×β×γ×Unit):Prop:=P (pj0 z) (pj1 z) (pj2 z) (pj3 z) (pj4 z) (pj5 z) (pj6 z) (pj7 z) (pj8 z) (pj9 z) (pj10 z) (pj11 z) (pj12 z) (pj13 z) (pj14 z) (pj15 z) (pj16 z) (pj17 z) (pj18 z) (pj19 z) (pj20 z) (pj21 z) (pj22 z) (pj23 z) (pj24 z) (pj25 z) (pj26 z)
theorem hkI27{P:A->B->C->D->E->F->G->H->I->J->K->L->M->N->O->Q->S->T->U->V->W->X->Y->Z->α->β->γ->Prop}(ne)(k:hU27 P (hkc ne (hU27 P))):∀a b c d e f g i j l m n o p q r s t u v w x y z αa βb γc,P a b c d e f g i j l m n o p q r s t u v w x y z αa βb γc:=fun a b c d e f g i j l m n o p q r s t u v w x y z αa βb γc=>hkE ne k (a,b,c,d,e,f,g,i,j,l,m,n,o,p,q,r,s,t,u,v,w,x,y,z,αa,βb,γc,())
noncomputable def hU28(P:A->B->C->D->E->F->G->H->I->J->K->L->M->N->O->Q->S->T->U->V->W->X->Y->Z->α->β->γ->δ->Prop)(z:A×B×C×D×E×F×G×H×I×J×K×L×M×N×O×Q×S×T×U×V×W×X×Y×Z×α×β×γ×δ×Unit):Prop:=P (pj0 z) (pj1 z) (pj2 z) (pj3 z) (pj4 z) (pj5 z) (pj6 z) (pj7 z) (pj8 z) (pj9 z) (pj10 z) (pj11 z) (pj12 z) (pj13 z) (pj14 z) (pj15 z) (pj16 z) (pj17 z) (pj18 z) (pj19 z) (pj20 z) (pj21 z) (pj22 z) (pj23 z) (pj24 z) (pj25 z) (pj26 z) (pj27 z)
theorem hkI28{P:A->B->C->D->E->F->G->H->I->J->K->L->M->N->O->Q->S->T->U->V->W->X->Y->Z->α->β->γ->δ->Prop}(ne)(k:hU28 P (hkc ne (hU28 P))):∀a b c d e f g i j l m n o p q r s t u v w x y z αa βb γc δd,P a b c d e f g i j l m n o p q r s t u v w x y z αa βb γc δd:=fun a b c d e f g i j l m n o p q r s t u v w x y z αa βb γc δd=>hkE ne k (a,b,c,d,e,f,g,i,j,l,m,n,o,p,q,r,s,t,u,v,w,x,y,z,αa,βb,γc,δd,())
noncomputable def hU29(P:A->B->C->D->E->F->G->H->I->J->K->L->M->N->O->Q->S->T->U->V->W->X->Y->Z->α->β->γ->δ->ε->Prop)(z:A×B×C×D×E×F×G×H×I×J×K×L×M×N×O×Q×S×T×U×V×W×X×Y×Z×α×β×γ×δ×ε×Unit):Prop:=P (pj0 z) (pj1 z) (pj2 z) (pj3 z) (pj4 z) (pj5 z) (pj6 z) (pj7 z) (pj8 z) (pj9 z) (pj10 z) (pj11 z) (pj12 z) (pj13 z) (pj14 z) (pj15 z) (pj16 z) (pj17 z) (pj18 z) (pj19 z) (pj20 z) (pj21 z) (pj22 z) (pj23 z) (pj24 z) (pj25 z) (pj26 z) (pj27 z) (pj28 z)
theorem hkI29{P:A->B->C->D->E->F->G->H->I->J->K->L->M->N->O->Q->S->T->U->V->W->X->Y->Z->α->β->γ->δ->ε->Prop}(ne)(k:hU29 P (hkc ne (hU29 P))):∀a b c d e f g i j l m n o p q r s t u v w x y z αa βb γc δd εe,P a b c d e f g i j l m n o p q r s t u v w x y z αa βb γc δd εe:=fun a b c d e f g i j l m n o p q r s t u v w x y z αa βb γc δd εe=>hkE ne k (a,b,c,d,e,f,g,i,j,l,m,n,o,p,q,r,s,t,u,v,w,x,y,z,αa,βb,γc,δd,εe,())
end
def tx (k:Lean.Name)(l:Array Lean.Syntax):Lean.Syntax:=.node .none k l
def ta (s:String):Lean.Syntax:=.atom .none s
def tq (l:Array Lean.Syntax):Lean.Syntax:=tx `Lean.Parser.Tactic.tacticSeq #[tx `Lean.Parser.Tactic.tacticSeq1Indented #[tx `null l]]
def tr:Lean.Syntax:=tx `Lean.Parser.Tactic.tacticRfl #[ta "rfl"]
def ti:Lean.Syntax:=tx `Lean.Parser.Tactic.intros #[ta "intros",tx `null #[]]
def tR:Lean.Syntax:=tq #[ti,ta ";",tr]
def tW:Lean.Syntax:=tq #[ti,ta ";",tx `Lean.Parser.Tactic.withUnfoldingAll #[ta "with_unfolding_all",tq #[tr]]]
def tD:Lean.Syntax:=tq #[tx `Lean.Parser.Tactic.decide #[ta "decide",tx `Lean.Parser.Tactic.optConfig #[tx `null #[]]]]
section
variable {a b c d e f h i j k l m n r s t x y z:Nat}{A B C D E F Q:Prop}
theorem ar_1 (g:b<a):a-(b+1)<a-b:=Nat.sub_lt_sub_left g (nE b)
theorem ar_2 (g:c+b<a):b<a:=mM (nX b c) g
theorem ar_3 (g:c+b<a):a-(b+1)<a-b:=ar_1 (ar_2 g)
theorem ar_4 (g:b<a):a-b=a-(b+1)+1:=(pE (oP g)).symm
theorem ar_5 (g:c+b<a):a-b=a-(b+1)+1:=ar_4 (ar_2 g)
theorem ar_6 (g:c≤f)(q:d+f<a):a-(f-c)=a-(f+1-c)+1:=(Nat.succ_sub g).symm▸ar_4 (mM (mN f c) (ar_2 q))
theorem ar_7 (g:k≤b):(b:Int)-k+f=((b-k+f:Nat):Int):=congrArg (· +(f:Int)) (nN g).symm
theorem ar_8 (g:k≤b):(b:Int)-k+f<a↔b-k+f<a:=(ar_7 g).symm▸mS
theorem ar_9 (g:k<b):(b:Int)-k-1=((b-k-1:Nat):Int):=(congrArg (· -(1:Int)) (nN (lL g)).symm).trans (nN (oP g)).symm
theorem ar_10 (g:c+k≤a+1):((a+1-k:Nat):Int)=a-k+1:=(nN (lB (nX k c) g)).trans (Int.add_right_comm a 1 (-k))
theorem ar_11:(A∨B∧l≤x∧x<l+(j+1))↔(A∨B∧l≤x∧x<l+j)∨B∧x=l+j:=
 ⟨fun h=>h.elim (fun a=>.inl (.inl a)) fun h=>(Nat.lt_succ_iff_lt_or_eq.1 h.2.2).elim (fun e=>.inl (.inr ⟨h.1,h.2.1,e⟩)) fun e=>.inr ⟨h.1,e⟩,
  fun h=>h.elim (fun h=>h.imp_right fun h=>⟨h.1,h.2.1,mZ h.2.2⟩) fun h=>.inr ⟨h.1,h.2▸mQ l j,h.2▸nE _⟩⟩
theorem ar_12:(A∨B∧l≤x∧x<l+0)↔A:=or_iff_left fun h=>pS h.2.1 h.2.2
theorem ar_13 (g:l≤j):j<r↔j<l+(r-l):=⟨fun h=>Nat.lt_of_lt_of_eq h (nK (lB g (lL h))).symm,fun h=>(Nat.le_total l r).elim (fun q=>Nat.lt_of_lt_of_eq h (nK q)) fun q=>absurd h (pS ((Nat.sub_eq_zero_of_le q).symm▸g))⟩
theorem ar_14 (hd:l≤j→(j<r↔j<l+d)):(a≤i∧i<a+(n+1)∧l≤j∧j<r)↔(a≤i∧i<a+n∧l≤j∧j<r)∨i=a+n∧l≤j∧j<l+d:=
 ⟨fun h=>(Nat.lt_succ_iff_lt_or_eq.1 h.2.1).imp (fun e=>⟨h.1,e,h.2.2⟩) fun e=>⟨e,h.2.2.1,(hd h.2.2.1).1 h.2.2.2⟩,
  fun h=>h.elim (fun h=>⟨h.1,mZ h.2.1,h.2.2⟩) fun h=>⟨h.1▸mQ a n,h.1▸nE _,h.2.1,(hd h.2.1).2 h.2.2⟩⟩
theorem ar_15:(a≤i∧i<h∧Q)↔(a≤i∧i<a+(h-a)∧Q):=⟨fun x=>⟨x.1,(ar_13 x.1).1 x.2.1,x.2.2⟩,fun x=>⟨x.1,(ar_13 x.1).2 x.2.1,x.2.2⟩⟩
theorem ar_16:(a≤i∧i<h∧Q)↔(a≤i∧i<a+((h:Int)-a).toNat∧Q):=(Int.toNat_sub h a).symm▸ar_15
theorem ar_17 (g:A∧B∧C∨D∧E∧F):B∨D∧F:=g.imp (fun h=>h.2.1) fun h=>⟨h.1,h.2.2⟩
theorem eQ (g:c+k<a)(q:a≤l):a-k-1<l:=lP (lP (pF (oP (ar_2 g)) Nat.one_pos) (mN a k)) q
theorem ar_19 (g:0<r)(x:a≤i)(y:i+(r-1)<h):a≤i+r-1∧i+r-1<h:=(Nat.add_sub_assoc g i).symm▸⟨lB x (mQ _ _),y⟩
theorem ar_20 (g:t<r):i+(r-1-t)=i+r-1-t:=((congrArg (i+ ·) (pG r 1 t)).trans (Nat.add_sub_assoc (oQ 1 t▸g) i).symm).trans (pG (i+r) 1 t).symm
theorem ar_21 (q:c+k≤a+1)(g:t<k):a-(k-1-t)=a+1-k+t:=by
 refine(Nat.exists_eq_add_of_lt g).elim fun u e=>?_
 subst e
 rw[qH,Nat.add_sub_cancel_left,rA,oQ t u,←pG,qI (pT (Nat.le_of_succ_le_succ (lB (nX _ c) q)))]
theorem ar_22 (q:k≠0)(g:c+k≤b+1)(x:b<h):c≤b+1-k∧b+1-k<h:=⟨pT g,mM (rB (pH (pI q) b)) x⟩
theorem ar_23 (q:k≠0)(g:c+k≤a+1)(h:a<i+k-1∨a=i+k-1∧b≤j+k-1):a+1-k<i∨a+1-k=i∧b+1-k≤j:=by
 cases k with
 | zero=>exact absurd rfl q
 | succ k=>
  rw[rA,rA]
  exact h.imp (Nat.sub_lt_right_of_lt_add (Nat.le_of_succ_le_succ (lB (nX _ _) g))) fun h=>⟨Nat.sub_eq_of_eq_add h.1,rB h.2⟩
theorem ar_24 (x:a<b)(y:b<h):a≤b-1∧b-1<h:=⟨pJ x,mM (mN _ _) y⟩
theorem ar_25 (g:x+r=t)(q:r<s):x+s+z-t-1=z+(s-1-r):=by rw[←g,nA,Nat.add_sub_add_left,ar_20 q,oQ s z,Nat.sub_right_comm]
theorem ar_26 (g:6≤x-6*j):((x-6*j:Nat):Int)-6=((x-6*(j+1):Nat):Int):=(nN g).symm.trans (congrArg Nat.cast (pG x (6*j) 6))
theorem ar_27 (g:6≤x-6*j):x-6*(j+1)<x-6*j:=pG x (6*j) 6▸pF (lP (by decide) g) (by decide)
theorem ar_28 (g:r-l≤f+1)(q:l≤m):r-(m+1)≤f:=lB (Nat.sub_le_sub_left (pU q) r) (Nat.pred_le_pred g)
theorem ar_29 (g:r-l≤f+1)(q:l≤m)(p:m<r):m-l≤f:=pK (lP (rC q p) g)
theorem ar_30 (g:1≤j):k-1-(j-1)=k-j:=by rw[pG,nK g]
theorem ar_31 (g:b-a≤n+1)(q:c≠0)(p:k+c≤b):k-a≤n:=rB (pK (lP (lP (pV (pI q)) p) (Nat.succ_add n a▸Nat.le_add_of_sub_le g)))
theorem ar_32 (g:b-a≤n+1)(q:c≠0)(p:a≤k):b-(k+c)≤n:=lB (Nat.sub_le_sub_left (Nat.add_le_add p (pI q)) b) (Nat.pred_le_pred g)
theorem ar_33 (g:d≤b):b-d+(c+d)=b+c:=by rw[oQ c d,←nA,qI g]
theorem ar_34 (g:d≤b-a)(q:b+c≤h):b-d+(c+d)≤h:=ar_33 (lB g (mN b a))▸q
theorem ar_35 (g:k≤b)(q:b+c≤h):b-k+(c+k)≤h:=ar_33 g▸q
theorem ar_36 {n:Int}(m:Nat)(g:0≤n∧n<m):n=n.toNat∧n.toNat<m:=⟨(Int.toNat_of_nonneg g.1).symm,(Int.toNat_lt g.1).2 g.2⟩
theorem ar_37 (g:a≤b)(q:b+c≤h):a≤h:=lB g (mU q)
theorem ar_38 (g:i+s≤h)(q:e≤h-i):i+e≤h:=qJ (mU g) q
theorem ar_39 (g:a+k<b):k+1=0∨a+(k+1)≤b:=.inr g
theorem ar_40 (g:t<r)(q:r≤a):r-1-t<a:=lP (Nat.sub_one_sub_lt g) q
theorem ar_41 (g:l≤i)(q:0<r)(p:t<r):l+t≤i+r-1:=Nat.add_sub_assoc q i▸Nat.add_le_add g (pJ p)
theorem ar_42 (g:l+(n+1)≤i):l+n≤i-1:=pJ g
theorem ar_43 (g:l<i)(q:l+t≤i-1):l+(t+1)≤i:=lB (pU q) (mB (pE (oE g)))
theorem ar_44 (g:x+y<c*s)(q:c*s≤d):x+y<d:=lP g q
theorem ar_45 (g:k<b):(b:Int)-1=((b-1:Nat):Int):=(nN (oE g)).symm
theorem ar_46 (g:t<s):s-1-t<s:=ar_40 g (lE s)
theorem ar_49 (q:c+k≤a+1)(g:t<k)(u:a<x):a+1-k+t<x:=lP (Nat.add_lt_add_left g _) ((qI (lB (nX k c) q)).symm▸u)
theorem ar_50 (g:l≤a)(q:t≤a-l):l≤a-t:=pT (qJ g q)
theorem ar_51 (g:t<k)(q:k=0∨A):A:=q.resolve_left (pW (oE g))
theorem ar_52 {p q:Nat}(g:p≤x-l)(u:l≤x)(v:x+c≤h)(w:q≤h-(x+c)):p+c+q≤h-l:=pT (by
 rw[qK,qK p c l]
 exact lB (pL (pL (Nat.add_le_of_le_sub u g) c) q) (qJ v w))
theorem ar_53 {p q:Nat}(g:p≤x-l)(u:l≤x)(v:x+c≤h)(w:q≤h-(x+c))(o:c≠0):p+(q+1)≤h-l:=
 lB (lB (mB (by rw[oQ q,nA])) (pL (pH (pI o) p) q)) (ar_52 g u v w)
theorem ar_54 {p:Nat}(g:p≤x-l)(v:x+c≤h):p+c≤h:=lB (pL (lB g (mN x l)) c) v
theorem ar_57 (q:c≠0)(r:a≤k)(p:k+c≤b):a<b:=lP (mM r (pV (pI q))) p
theorem ar_55 (g:b-a<n+1)(q:c≠0)(r:a≤k)(p:k+c≤b):k-a<n:=lP (rC r (ar_57 q (lE k) p)) (pK g)
theorem ar_56 (g:b-a<n+1)(q:c≠0)(r:a≤k)(p:k+c≤b):b-(k+c)<n:=lP (Nat.sub_lt_sub_left (ar_57 q r p) (ar_57 q r (lE _))) (pK g)
theorem ar_58 (d:a≤x∧x<h∧b≤y∧y<r)(q:k=0∨x+k≤h∧y+k≤r):a≤x∧b≤y∧x+k≤h∧y+k≤r:=⟨d.1,d.2.2.1,q.elim (fun q=>q.symm▸⟨lL d.2.1,lL d.2.2.2⟩) id⟩
theorem ar_59 (g:a≤h)(u:b≤r)(q:k=0)(t:x=a∧y=b):a≤x∧b≤y∧x+k≤h∧y+k≤r:=t.1.symm▸t.2.symm▸q.symm▸⟨lE _,lE _,g,u⟩
theorem ar_60 (t:a≤x∧b≤y∧x+k≤h∧y+k≤r):a≤x∧x≤h∧b≤y∧y≤r∧x+k≤h∧y+k≤r:=⟨t.1,mU t.2.2.1,t.2.1,mU t.2.2.2,t.2.2⟩
theorem ar_61 (g:d≤b-a)(q:b+c≤h):c+d≤h-(b-d):=Nat.le_sub_of_add_le' (ar_34 g q)
theorem ar_62 (e:x=y)(q:x+a≤b)(m:b≤y):a=0:=Nat.eq_zero_of_le_zero (Nat.le_of_add_le_add_left (lB (lB q m) (mB e.symm):x+a≤x+0))
theorem ar_63 (e:x=y)(q:x+a≤b)(m:b≤y):b=y:=qM m (e▸mU q)
theorem ar_65 (g:i<j)(q:j<k+1):j-1<k:=lP (pF (oE g) Nat.one_pos) (pK q)
theorem ar_66 (g:i<j)(q:j<k+1)(e:¬i=m)(u:¬(m<i∧i≤k))(v:m<j):i<j-1:=lP (Nat.lt_of_le_of_ne (Nat.le_of_not_lt fun p=>u ⟨p,pK (Nat.lt_trans g q)⟩) e) (pJ v)
theorem ar_67 (e:a=b):(a<b∨a=b∧Q)↔Q:=⟨fun h=>h.elim (fun h=>absurd e (lN h)) And.right,fun h=>.inr ⟨e,h⟩⟩
theorem ar_68 (n:a≠b):a<b↔a<b∨a=b∧Q:=⟨.inl,fun h=>h.elim id fun h=>absurd h.1 n⟩
theorem ar_69 (h:a<b∨a=b∧A)(k:b<c∨b=c∧B)(f:A→B→C):a<c∨a=c∧C:=
 h.elim (fun h=>k.elim (fun k=>.inl (Nat.lt_trans h k)) fun k=>.inl (k.1▸h)) fun h=>k.elim (fun k=>.inl (h.1▸k)) fun k=>.inr ⟨h.1.trans k.1,f h.2 k.2⟩
theorem ar_70 (h:a<b∨a=b∧A)(f:A→B):a≤b∧(b=a→B):=h.elim (fun h=>⟨lL h,fun e=>absurd e.symm (lN h)⟩) fun h=>⟨mB h.1,fun _=>f h.2⟩
theorem ar_71 (f:a=b→A∨B):(a<b∨a=b∧A)∨b<a∨b=a∧B:=(pM a b).elim (fun h=>.inl (.inl h)) fun h=>h.elim (fun e=>(f e).imp (fun x=>.inr ⟨e,x⟩) fun y=>.inr ⟨e.symm,y⟩) fun h=>.inr (.inl h)
theorem ar_72 (g:6*j≤x)(q:¬6≤x-6*j):j=x/6:=(Nat.div_eq_of_lt_le (nO 6 j▸g) (Nat.lt_of_not_le fun p=>q (pT (by rw[oQ,nO,←Nat.succ_mul];exact p)))).symm
theorem ar_73:(x:Int)+y<z↔x+y<z:=mS
theorem ar_74 {p q L R D:Nat}(g:p+c+q≤D)(o:c≠0)(u:L≤2*p+1)(v:R≤2*q+1):x+L+R<x+(2*D+1):=by lia
theorem ar_75 (g:l<b):b+t=b-1+(t+1):=(congrArg (· +t) (pE (oE g)).symm).trans (Nat.succ_add_eq_add_succ (b-1) t)
theorem ar_76:(x:Int)+y+z<k↔x+y+z<k:=mS
theorem ar_77:(x:Int)<y-z↔x+z<y:=by omega
theorem ar_78 {v o m:Nat}(g:v=o+j)(u:o≤2*min n b)(p:b≤1000)(q:6*j≤m+8)(w:m<6):v≤16777216:=
 g▸lB (Nat.add_le_add (lB u (Nat.mul_le_mul_left 2 (lB (Nat.min_le_right n b) p))) (lB (Nat.le_mul_of_pos_left j (by decide)) (lB q (pL (lL w) 8)))) (by decide)
theorem ar_79 (h:b<c∨b=c∧A)(k:c<b∨c=b∧B):b=c∧A∧B:=h.elim (fun h=>k.elim (fun k=>absurd k (pN h)) fun k=>absurd k.1 (pW h)) fun h=>k.elim (fun k=>absurd h.1.symm (lN k)) fun k=>⟨h.1,h.2,k.2⟩
end
def kx (s:String):Lean.Syntax:=.ident .none s.toRawSubstring (.mkSimple s) []
def kT (s:String)(l:Array Lean.Syntax):Lean.Syntax:=tx (`Lean.Parser.Tactic++.mkSimple s) l
def kM (s:String)(l:Array Lean.Syntax):Lean.Syntax:=tx (`Lean.Parser.Term++.mkSimple s) l
def kL (s:String)(l:List Lean.Syntax):Lean.Syntax:=kT s #[ta s,tx `null l.toArray]
def kA (s:String)(l:List Lean.Syntax):Lean.Syntax:=kM "app" #[kx s,tx `null l.toArray]
def kR (s:String)(l:List Lean.Syntax):Lean.Syntax:=kT "refine" #[ta "refine",kM "noImplicitLambda" #[ta "no_implicit_lambda%",kA s l]]
def kG (l:List (Lean.Syntax×Lean.Syntax)):Lean.Syntax:=kT "generalize" #[ta "generalize",tx `null ((l.map fun p=>kT "generalizeArg" #[tx `null #[],p.1,ta "=",p.2]).intersperse (ta ",")).toArray,tx `null #[]]
def kc (f:Lean.Syntax)(xs:List Lean.Syntax):Lean.Syntax:=
 let F:=if f.isOfKind `Lean.Parser.Term.app then f[0]::f[1].getArgs.toList else [f]
 let o:=kM "hole" #[ta "_"]
 let q:=kM "syntheticHole" #[ta "?",ta "_"]
 let m:=toString F.length;let n:=toString xs.length;let z:=kx "z"
 let e:=fun s=>if F.length<2 then [] else [kR (s++m) [q]]
 let ne:=kT "repeat'" #[ta "repeat'",tq #[kT "refine" #[ta "refine",kA "neQ" [q,q]]]]::("WADHOSCNIVBLMFUGP".toList.map fun c=>kT "allGoals" #[ta "all_goals",tq #[kT "tacticTry_" #[ta "try",tq #[kT "exact" #[ta "exact",kx ("ne"++c.toString)]]]]])
 let l:=[kL "revert" F]++e "curry"++[kL "revert" xs,kR ("hkI"++n) [kM "byTactic" #[ta "by",tq (ne.intersperse (ta ";")).toArray],q],kG [(kA "hkc" [o,o],z)],kT "delta" #[ta "delta",tx `null #[kx ("hU"++n)],tx `null #[]],kG (xs.zipIdx.map fun p=>(kA ("pj"++toString p.2) [z],p.1)),kL "clear" [z]]++e "jG"++[kL "intro" F]
 tq (l.intersperse (ta ";")).toArray
local macro_rules | `(tactic| injection $f with $xs*)=>return kc f (xs.toList.map (·.raw))
noncomputable def up (m:kJ→Option jL)(x:kJ)(v:jL):kJ→Option jL:=fun y=>if y=x then some v else m y
noncomputable abbrev lstO (vs:List jL)(n:Nat:=0):kK:=⟨.type "list",none,.seq vs.toArray n,#[]⟩
noncomputable abbrev tupO (vs:List jL)(n:Nat:=0):kK:=⟨.type "tuple",none,.seq vs.toArray n,#[]⟩
structure aP (C:Cx)(env:Env):Prop where
 k:env.scope.kind=.function
 l:env.locals=C.L
 g:env.globals=mainGlobals
 b:env.builtins=builtinsNs
section
variable {w:jS}{A:jV}{C:Cx}{m mg mb:kJ→Option jL}{B:Base}{M:List (jQ×kK)}{E:jL→jP→Prop}
 {h:kI} {g:Array jX} {d:kU} {t:Nat} {os:jU} {env:Env} {Q:jL→jP→Prop} {QF:kS→jP→Prop} {QB:Bool→jP→Prop}
noncomputable def Then (w:jS)(A:jV)(env:Env)(rest:List jW)(QF:kS→jP→Prop)(E:jL→jP→Prop)(fl:kS)(s:jP):Prop:=match fl with
 | .next=>jN (jM PW w) A (kO rest env) QF E s
 | fl=>QF fl s
theorem aJ (k:QF .next ⟨h,g,d,t,os⟩):jN (jM PW w) A (kO [] env) QF E ⟨h,g,d,t,os⟩:=wpAny_execs_nil k
theorem aY {x:kJ}{p' pos:kW}{value:Expr}{rest:List jW}
  (k:jN (jM PW w) A (eval value env) (fun v s₁=>jN (jM PW w) A (storeName env x v) (fun _ s₂=>jN (jM PW w) A (kO rest env) QF E s₂) E s₁) E ⟨h,g,d,t,os⟩)
  (hs:autoParam (swapsWith value (some (.Name x p')) pos.line env=pure false) tR):
  jN (jM PW w) A (kO (.Assign [.Name x p'] value pos::rest) env) QF E ⟨h,g,d,t,os⟩:=wpAny_execs_cons (wpAny_Assign_Name k hs)
theorem cN {e:Expr}{pos:kW}{rest:List jW}(k:jN (jM PW w) A (eval e env) (fun v s₁=>QF (.ret v) s₁) E ⟨h,g,d,t,os⟩):
  jN (jM PW w) A (kO (.Return (some e) pos::rest) env) QF E ⟨h,g,d,t,os⟩:=wpAny_execs_cons (wpAny_Return_some k)
theorem x_aug {x:kJ}{p' pos:kW}{op:Operator}{value:Expr}{rest:List jW}
  (k:jN (jM PW w) A (loadName env x) (fun old s₁=>jN (jM PW w) A (eval value env) (fun v s₂=>jN (jM PW w) A (inplaceOp op old v)
   (fun r s₃=>jN (jM PW w) A (storeName env x r) (fun _ s₄=>jN (jM PW w) A (kO rest env) QF E s₄) E s₃) E s₂) E s₁) E ⟨h,g,d,t,os⟩):
  jN (jM PW w) A (kO (.AugAssign (.Name x p') op value pos::rest) env) QF E ⟨h,g,d,t,os⟩:=wpAny_execs_cons (wpAny_AugAssign_Name k)
theorem x_if {test:Expr}{body orelse rest:List jW}{pos:kW}
  (k:jN (jM PW w) A (isTrue test env (eval test env)) (fun b s₂=>jN (jM PW w) A (kO (if b then body else orelse) env)
   (Then w A env rest QF E) E s₂) E ⟨h,g,d,t,os⟩):
  jN (jM PW w) A (kO (.If test body orelse pos::rest) env) QF E ⟨h,g,d,t,os⟩:=
 wpAny_execs_cons (wpAny_If (jR k (fun b s₂ x=>by cases b<;>exact jR (x:jN _ _ _ _ _ _) (fun fl s y=>by cases fl<;>exact y) fun _ _ z=>z) fun _ _ x=>x))
theorem aG {l r:Expr}{op:Operator}{pos:kW}
  (k:jN (jM PW w) A (eval l env) (fun a s₁=>jN (jM PW w) A (eval r env) (fun b s₂=>jN (jM PW w) A (binaryOp op a b) Q E s₂) E s₁) E ⟨h,g,d,t,os⟩):
  jN (jM PW w) A (eval (.BinOp l op r pos) env) Q E ⟨h,g,d,t,os⟩:=wpAny_BinOp k
theorem aF {i:Int}{n:Nat}{pos:kW}(k:∀u t',Q (.int i u) ⟨h,g,d,t',os⟩):jN (jM PW w) A (eval (.Constant (.int i) n pos) env) Q E ⟨h,g,d,t,os⟩:=wpAny_Constant_int (k _ _)
theorem dJ {n:Nat}{pos:kW}(k:Q .none ⟨h,g,d,t,os⟩):jN (jM PW w) A (eval (.Constant .none n pos) env) Q E ⟨h,g,d,t,os⟩:=wpAny_Constant_none k
theorem e_bool {b:Bool}{n:Nat}{pos:kW}(k:Q (.bool b) ⟨h,g,d,t,os⟩):jN (jM PW w) A (eval (.Constant (.bool b) n pos) env) Q E ⟨h,g,d,t,os⟩:=wpAny_Constant_bool k
theorem bW {x:kJ}{n:Nat}{pos:kW}(k:∀u t',Q (.str x u) ⟨h,g,d,t',os⟩):jN (jM PW w) A (eval (.Constant (.str x) n pos) env) Q E ⟨h,g,d,t,os⟩:=wpAny_Constant_str (k _ _)
theorem gG {x:kJ}{pos:kW}{v:jL}(S:St C B h m M)(hE:aP C env)(hv:m x=some v)(k:Q v ⟨h,g,d,t,os⟩)
  (hx:autoParam (env.kindOf x=some .local) tR) (hd:autoParam ((x==("__debug__":kJ))=false) tD):
  jN (jM PW w) A (eval (.Name x pos) env) Q E ⟨h,g,d,t,os⟩:=jI1 (fun _=>jG2 fun n l=>wpAny_Name (wpAny_loadName_local hE.k hx (by rw[hE.l];exact n) (l _ _ hv) k) hd) S.ns
theorem l_loc {x:kJ}{v:jL}(S:St C B h m M)(hE:aP C env)(hv:m x=some v)(k:Q v ⟨h,g,d,t,os⟩)
  (hx:autoParam (env.kindOf x=some .local) tR):
  jN (jM PW w) A (loadName env x) Q E ⟨h,g,d,t,os⟩:=jI1 (fun _=>jG2 fun n l=>wpAny_loadName_local hE.k hx (by rw[hE.l];exact n) (l _ _ hv) k) S.ns
theorem St.gl (S:St C B h m M)(G:Gr w mg mb B)(hE:aP C env):h.Ns env.globals mg:=by
 refine jI1 ?_ G.g;intro o;refine jG2 ?_;intro e k
 rw[hE.g];exact k h (S.b _ _ e)
theorem St.bi (S:St C B h m M)(G:Gr w mg mb B)(hE:aP C env):h.Ns env.builtins mb:=by
 refine jI1 ?_ G.b;intro o;refine jG2 ?_;intro e k
 rw[hE.b];exact k h (S.b _ _ e)
theorem e_glob {x:kJ}{pos:kW}{v:jL}(S:St C B h m M)(hE:aP C env)(G:Gr w mg mb B)(hv:mg x=some v)(k:Q v ⟨h,g,d,t,os⟩)
  (hx:autoParam (env.kindOf x=some .globalImplicit) tR) (hd:autoParam ((x==("__debug__":kJ))=false) tD):
  jN (jM PW w) A (eval (.Name x pos) env) Q E ⟨h,g,d,t,os⟩:=Name_function_global hE.k hx (loadGlobal_global (S.gl G hE) hv k) hd
theorem e_blt {x:kJ}{pos:kW}{v:jL}(S:St C B h m M)(hE:aP C env)(G:Gr w mg mb B)(hm:mg x=none)(hv:mb x=some v)(k:Q v ⟨h,g,d,t,os⟩)
  (hx:autoParam (env.kindOf x=some .globalImplicit) tR) (hd:autoParam ((x==("__debug__":kJ))=false) tD):
  jN (jM PW w) A (eval (.Name x pos) env) Q E ⟨h,g,d,t,os⟩:=Name_function_global hE.k hx (loadGlobal_builtin (S.gl G hE) hm (S.bi G hE) hv k) hd
theorem aP.p (hE:aP C env):(env.scope.kind==.class||(env.scope.kind==.module&&env.locals != env.globals))=false:=by rw[hE.k];rfl
theorem dC {x:kJ}{v:jL}{Q:Unit→jP→Prop}(S:St C B h m M)(hE:aP C env)
  (k:∀h' t',St C B h' (up m x v) M→Q () ⟨h',g,d,t',os⟩) (hx:autoParam (env.kindOf x=some .local) tR):
  jN (jM PW w) A (storeName env x v) Q E ⟨h,g,d,t,os⟩:=
 let⟨_,n,l⟩:=S.ns
 wpAny_storeName_local hx (by rw[hE.l];exact n) (fun h' hn hs=>k h' _ (S.set ⟨_,by rw[hE.l] at hn;exact hn,fun y u e=>by
  unfold up at e
  by_cases q:y=x
  ·rw[if_pos q] at e⊢;exact e
  ·rw[if_neg q] at e⊢;exact l y u e⟩ (by rw[hE.l] at hs;exact hs))) hE.p
theorem aX {a b:Int}{u v:Tok}(k:∀u' t',Q (.int (a+b) u') ⟨h,g,d,t',os⟩):jN (jM PW w) A (binaryOp .Add (.int a u) (.int b v)) Q E ⟨h,g,d,t,os⟩:=PyProof.Rows.add_int (k _ _)
theorem dP {a b:Int}{u v:Tok}(k:∀u' t',Q (.int (a-b) u') ⟨h,g,d,t',os⟩):jN (jM PW w) A (binaryOp .Sub (.int a u) (.int b v)) Q E ⟨h,g,d,t,os⟩:=PyProof.Rows.sub_int (k _ _)
theorem cP {a b:Int}{u v:Tok}(hm:IntMulOk a b)(k:∀u' t',Q (.int (a*b) u') ⟨h,g,d,t',os⟩):jN (jM PW w) A (binaryOp .Mult (.int a u) (.int b v)) Q E ⟨h,g,d,t,os⟩:=PyProof.Rows.mul_int (k _ _) hm
theorem i_div {a b:Int}{u v:Tok}(hb:b≠0)(hp:Builtin.divisionGoesByPylong a b=false)(k:∀u' t',Q (.int (a.fdiv b) u') ⟨h,g,d,t',os⟩):jN (jM PW w) A (binaryOp .FloorDiv (.int a u) (.int b v)) Q E ⟨h,g,d,t,os⟩:=PyProof.Rows.floordiv_int hb (k _ _) (.inl hp)
theorem i_mod {a b:Int}{u v:Tok}(hb:b≠0)(k:∀u' t',Q (.int (a.fmod b) u') ⟨h,g,d,t',os⟩):jN (jM PW w) A (binaryOp .Mod (.int a u) (.int b v)) Q E ⟨h,g,d,t,os⟩:=PyProof.Rows.mod_int' hb (k _ _)
theorem bA {elts:List Expr}{pos:kW}(k:jN (jM PW w) A (spliced (backTo pos (kD elts env))) (fun vs s₁=>jN (jM PW w) A (newList vs) Q E s₁) E ⟨h,g,d,t,os⟩):
  jN (jM PW w) A (eval (.List elts pos) env) Q E ⟨h,g,d,t,os⟩:=PyProof.Rows.List_ k
theorem bM {elts:List Expr}{n:Nat}{pos:kW}(k:jN (jM PW w) A (spliced (backTo pos (kD elts env))) (fun vs s₁=>jN (jM PW w) A (newTuple vs) Q E s₁) E ⟨h,g,d,t,os⟩):
  jN (jM PW w) A (eval (.Tuple elts n pos) env) Q E ⟨h,g,d,t,os⟩:=PyProof.Rows.Tuple_ k
theorem aC {pos:kW}{Q:List jL→jP→Prop}(k:Q [] ⟨h,g,d,t,os⟩):jN (jM PW w) A (spliced (backTo pos (kD [] env))) Q E ⟨h,g,d,t,os⟩:=args_nil k
theorem aB {e:Expr}{rest:List Expr}{pos:kW}{Q:List jL→jP→Prop}
  (k:jN (jM PW w) A (eval e env) (fun v s₁=>jN (jM PW w) A (spliced (backTo pos (kD rest env))) (fun vs s₂=>Q (v::vs) s₂) E s₁) E ⟨h,g,d,t,os⟩)
  (he:autoParam (kD (e::rest) env=(false,eval e env)::kD rest env) tR):jN (jM PW w) A (spliced (backTo pos (kD (e::rest) env))) Q E ⟨h,g,d,t,os⟩:=args_cons k he
theorem mk_own {vs:List jL}(S:St C B h m M)(hsz:vs.length≤kC)
  (k:∀a,a=h.objs.size→St C B (h.push (lstO vs)) m ((a,lstO vs)::M)→Q (.ref a) ⟨h.push (lstO vs),g,d,t,os⟩):
  jN (jM PW w) A (newList vs) Q E ⟨h,g,d,t,os⟩:=
 kP (k _ rfl (S.own _ rfl)) (by show vs.toArray.size≤kC;rw[lY];exact hsz)
theorem mk_lst {vs:List jL}(S:St C B h m M)(hsz:vs.length≤kC)
  (k:∀h' a B',Kp h h'→Le B B'→B' a=some (lstO vs)→St C B' h' m M→Q (.ref a) ⟨h',g,d,t,os⟩):
  jN (jM PW w) A (newList vs) Q E ⟨h,g,d,t,os⟩:=
 kP (k _ _ _ (Kp.push _ _) (aV _ S.freshB) (aM _ _ _) (S.froz _ rfl)) (by show vs.toArray.size≤kC;rw[lY];exact hsz)
theorem mk_tup {vs:List jL}(S:St C B h m M)(hsz:vs.length≤kC)
  (k:∀h' a B',Kp h h'→Le B B'→B' a=some (tupO vs)→St C B' h' m M→Q (.ref a) ⟨h',g,d,t,os⟩):
  jN (jM PW w) A (newTuple vs) Q E ⟨h,g,d,t,os⟩:=
 kP (k _ _ _ (Kp.push _ _) (aV _ S.freshB) (aM _ _ _) (S.froz _ rfl)) (by show vs.toArray.size≤kC;rw[lY];exact hsz)
noncomputable def vars (L:List (kJ×jL)):kJ→Option jL:=fun x=>L.lookup x
theorem St.var {L:List (kJ×jL)}{x:kJ}{v:jL}(S:St C B h (Mine.up (vars L) x v) M):St C B h (vars ((x,v)::L)) M:=S.weak fun y u e=>by
 unfold vars at e
 unfold Mine.up
 rw[nJ] at e
 by_cases q:y=x
 ·rw[if_pos q];rw[q,beq_self_eq_true] at e;exact e
 ·rw[if_neg q];rw[beq_eq_false_iff_ne.2 q] at e;exact e
inductive Fewer (L:List (kJ×jL)):List (kJ×jL)→Prop
 | nil:Fewer L []
 | cons {x v r}:L.lookup x=some v→Fewer L r→Fewer L ((x,v)::r)
theorem St.few {L L':List (kJ×jL)}(S:St C B h (vars L) M)(f:Fewer L L'):St C B h (vars L') M:=S.weak fun y u e=>by
 unfold vars at e⊢
 induction f with
 | nil=>cases e
 | @cons x v r hx _ ih=>
  rw[nJ] at e
  by_cases q:y=x
  ·rw[q,beq_self_eq_true] at e;cases e;rw[q];exact hx
  ·rw[beq_eq_false_iff_ne.2 q] at e;exact ih e
end
section
variable {w:jS}{A:jV}{C:Cx}{m mg mb:kJ→Option jL}{B:Base}{M:List (jQ×kK)}
 {h:kI} {g:Array jX} {d:kU} {t:Nat} {os:jU} {env:Env} {Q:jL→jP→Prop} {QF:kS→jP→Prop} {QB:Bool→jP→Prop}
noncomputable def After (w:jS)(A:jV)(env:Env)(rest:List jW)(QF:kS→jP→Prop)(fl:kS)(s:jP):Prop:=match fl with
 | .next=>jN (jM PW w) A (kO rest env) QF no s
 | fl=>QF fl s
theorem x_while {test:Expr}{body rest:List jW}{pos:kW}(I:Nat→kI→Prop)(n:Nat)(h0:I n h)
  (turn:∀n h d t,I n h→jN (jM PW w) A (isTrue test env (eval test env)) (fun b s₂=>
    match b with
    | true=>jN (jM PW w) A (kO body env) (fun fl s₃=>match fl with
      | .next | .cont=>∃n' h' d' t',s₃=⟨h',g,d',t',os⟩∧n'<n∧I n' h'
      | .brk=>jN (jM PW w) A (kO rest env) QF no s₃
      | .ret v=>QF (.ret v) s₃) no s₂
    | false=>jN (jM PW w) A (kO rest env) QF no s₂) no ⟨h,g,d,t,os⟩):
  jN (jM PW w) A (kO (.While test body [] pos::rest) env) QF no ⟨h,g,d,t,os⟩:=by
 injection h0 turn with w A h g d t os env QF test body rest pos I n
 refine wpAny_execs_cons (wpAny_While (codeAny_whileLoop (fun n s=>∃h d t,s=⟨h,g,d,t,os⟩∧I n h) ?_ n (jJ3 h d t ⟨rfl,h0⟩)))
 intro n s;refine jI3 ?_;intro h d t;refine jG2 ?_;intro zz1 hI;obtain rfl:=zz1
 refine jR (turn n h d t hI) (fun b s₂ x=>?_) fun _ _ x=>x.elim
 cases b with
 | false=>exact wpAny_execs_nil x
 | true=>
  refine jR (x:jN _ _ _ _ _ _) (fun fl s₃ y=>?_) fun _ _ x=>x.elim
  cases fl with
  | next=>refine jI4 ?_ y;try clear y;intro n' h' d' t';refine jG3 ?_;intro e l i;exact⟨n',⟨l,jJ3 h' d' t' ⟨e,i⟩⟩⟩
  | cont=>refine jI4 ?_ y;try clear y;intro n' h' d' t';refine jG3 ?_;intro e l i;exact⟨n',⟨l,jJ3 h' d' t' ⟨e,i⟩⟩⟩
  | brk=>exact y
  | ret v=>exact y
noncomputable def fJ (w:jS)(A:jV)(env:Env)(target:Expr)(body rest:List jW)(QF:kS→jP→Prop)(v:jL)(s:jP):Prop:=
 jN (jM PW w) A (pyIter v) (fun it s₂=>kN (jM PW w) A (.forLoop target it body [] env) (fun r s'=>match r with | .ok fl=>After w A env rest QF fl s' | .error _=>False) s₂) no s
theorem eD {target iter:Expr}{body rest:List jW}{pos:kW}(k:jN (jM PW w) A (eval iter env) (fJ w A env target body rest QF) no ⟨h,g,d,t,os⟩)
  (hs:autoParam (∀x,foldedSetIterable iter env x=pure x) tR):
  jN (jM PW w) A (kO (.For target iter body [] pos::rest) env) QF no ⟨h,g,d,t,os⟩:=by
 refine wpAny_execs_cons (wpAny_For (jR k (fun v s₁ x=>jR (x:jN _ _ _ _ _ _) (fun it s₂ y=>codeAny_mono y fun r s' z=>?_) fun _ _ x=>x) fun _ _ x=>x) hs)
 cases r with
 | error e=>exact(z:False).elim
 | ok fl=>exact z
noncomputable def Cx.into (C:Cx)(fp wr:List jQ)(T:jQ)(h:kI)(B:Base):Cx:=
 ⟨C.L,fun a=>a∈fp∨C.D a,fun a=>if a∈fp then h.get? a else C.H a,fun a=>a∈wr∨C.V a,C.n₀,B,T,C.W⟩
structure Fits (C:Cx)(fp wr:List jQ)(T:jQ):Prop where
 sub:∀b∈wr,b∈fp
 L:C.L∉fp
 le:∀b∈fp,b≤T
 top:C.top≤T
 mem:T=C.top∨T∈fp
 wD:∀b∈wr,¬C.D b
theorem St.inn {fp wr:List jQ}{T:jQ}(S:St C B h m M)(F:Fits C fp wr T)(live:∀b∈fp,∃o,h.get? b=some o)(hM:∀p∈M,p.1∉fp)(hB:∀b∈wr,B b=none):St (C.into fp wr T h B) B h m M where
 ns:=S.ns
 ld:=fun x=>x.elim F.L S.ld
 lv:=.inr S.lv
 fr a o x e:=by
  by_cases q:a∈fp
  ·simpa[Cx.into,q] using e
  ·exact S.fr a o (x.resolve_left q) (by simpa[Cx.into,q] using e)
 b:=S.b
 v a x:=x.elim (fun y=>⟨hB a y,F.le a (F.sub a y)⟩) fun y=>⟨(S.v a y).1,lB (S.v a y).2 F.top⟩
 d a x:=x.elim (fun y=>F.le a y) fun y=>lB (S.d a y) F.top
 tp:=by
  rcases F.mem with e | e
  ·rcases S.tp with x | ⟨x,o,y⟩
   ·exact .inl (e.trans x)
   ·refine .inr ⟨.inr (e▸x),?_⟩
    by_cases q:T∈fp
    ·obtain⟨o,z⟩:=live T q
     exact⟨o,by simpa[Cx.into,q] using z⟩
    ·exact⟨o,by show(if T∈fp then h.get? T else C.H T)=some o;rw[if_neg q,e];exact y⟩
  ·obtain⟨o,z⟩:=live T e
   exact .inr ⟨.inl e,o,by simpa[Cx.into,e] using z⟩
 m p hp:=jH4 ((S.m p hp).1) (fun x=>x.elim (hM p hp) (S.m p hp).2.1) (fun x=>x.elim (fun y=>hM p hp (F.sub _ y)) (S.m p hp).2.2.1) ((S.m p hp).2.2.2)
 nd:=S.nd
 nl:=S.nl
 ow:=S.ow
 new a o e _:=e
 up:=Le.refl _
theorem St.outt {fp wr:List jQ}{T:jQ}{h₁:kI}{B₁:Base}{m₁:kJ→Option jL}{M₁:List (jQ×kK)}(S:St (C.into fp wr T h₁ B₁) B h m M)(S₁:St C B₁ h₁ m₁ M₁):St C B h m M where
 ns:=S.ns
 ld:=S₁.ld
 lv:=S₁.lv
 fr a o x e:=S.fr a o (.inr x) (by
  by_cases q:a∈fp
  ·simpa[Cx.into,q] using S₁.fr a o x e
  ·simpa[Cx.into,q] using e)
 b:=S.b
 v a x:=⟨(S.v a (.inr x)).1,(S₁.v a x).2⟩
 d:=S₁.d
 tp:=S₁.tp
 m p hp:=jH4 ((S.m p hp).1) (fun x=>(S.m p hp).2.1 (.inr x)) (fun x=>(S.m p hp).2.2.1 (.inr x)) ((S.m p hp).2.2.2)
 nd:=S.nd
 nl:=S₁.nl
 ow:=S.ow
 new a o e x:=S₁.new a o (S.new a o e x) x
 up:=S₁.up.trans S.up
theorem St.turn {wr:List jQ}{h':kI}(S:St C B h m M)(k:∀b o,b∉wr→h.get? b=some o→h'.get? b=some o)(hL:C.L∉wr)(hM:∀p∈M,p.1∉wr)(hB:∀b∈wr,B b=none)(hD:∀b∈wr,¬C.D b):St C B h' m M where
 ns:=S.ns.at' fun o e=>k _ o hL e
 ld:=S.ld
 lv:=S.lv
 fr a o x e:=k a o (fun q=>hD a q x) (S.fr a o x e)
 b a o e:=k a o (fun q=>by rw[hB a q] at e;cases e) (S.b a o e)
 v:=S.v
 d:=S.d
 tp:=S.tp
 m p hp:=⟨k _ _ (hM p hp) (S.m p hp).1,(S.m p hp).2⟩
 nd:=S.nd
 nl:=S.nl
 ow:=S.ow
 new:=S.new
 up:=S.up
abbrev Inv:=Base→(kJ→Option jL)→List (jQ×kK)→Prop
noncomputable def Turn (C:Cx)(g:Array jX)(os:jU)(I K:Inv)(Rt:jL→Inv)(fl:kS)(s:jP):Prop:=match fl with
 | .next | .cont=>∃h' d' t' B' m' M',s=⟨h',g,d',t',os⟩∧St C B' h' m' M'∧I B' m' M'
 | .brk=>∃h' d' t' B' m' M',s=⟨h',g,d',t',os⟩∧St C B' h' m' M'∧K B' m' M'
 | .ret v=>∃h' d' t' B' m' M',s=⟨h',g,d',t',os⟩∧St C B' h' m' M'∧Rt v B' m' M'
theorem iW {target:Expr}{body rest:List jW}{I T:jQ}{fp wr:List jQ}{n:Nat}{P:Nat→jL→Prop}{Z:Nat→kI→Prop}(W:Walks PW w A I fp wr n P Z)
  (S:St C B h m M) (F:Fits C fp wr T) (live:∀i h,Z i h→∀b∈fp,∃o,h.get? b=some o) (hM:∀p∈M,p.1∉fp) (hB:∀b∈wr,B b=none) (z0:Z 0 h)
  (J:Nat→Inv) (K:Inv) (Rt:jL→Inv) (h0:J 0 B m M)
  (turn:∀i v C' B' h' m' M' d t,i<n→P i v→J i B' m' M'→St C' B' h' m' M'→C'.L=C.L∧C'.B₀=B'∧C'.W=C.W→Le B B'→
   jN (jM PW w) A (assign target env v) (fun _ s₂=>jN (jM PW w) A (kO body env) (Turn C' g os (J (i+1)) K Rt) no s₂) no ⟨h',g,d,t,os⟩)
  (fin:∀h d t B' m' M',St C B' h m' M'→(J n B' m' M'∨K B' m' M')→jN (jM PW w) A (kO rest env) QF no ⟨h,g,d,t,os⟩)
  (ret:∀v h d t B' m' M',St C B' h m' M'→Rt v B' m' M'→QF (.ret v) ⟨h,g,d,t,os⟩)
  (ht:autoParam (∀v,kE target (.ref I) v=pure ()) tR):
  kN (jM PW w) A (.forLoop target (.ref I) body [] env) (fun r s'=>match r with | .ok fl=>After w A env rest QF fl s' | .error _=>False) ⟨h,g,d,t,os⟩:=by
 injection W S F live hM hB z0 h0 turn fin ret ht with w A C m B M h g d t os env QF target body rest I T fp wr n P Z J K Rt
 have hLw:C.L∉wr:=fun q=>F.L (F.sub _ q)
 refine codeAny_forLoop (fun k s=>∃i h' d' t' B' m' M',k=n+1-i∧i≤n∧s=⟨h',g,d',t',os⟩∧St C B' h' m' M'∧Z i h'∧(∀p∈M',p.1∉fp)∧(∀b∈wr,B' b=none)∧J i B' m' M'∧C.top<h'.objs.size∧Le B B') ?_ (n+1)
  (jJ7 0 h d t B m M (jH10 rfl (lC _) rfl S z0 hM hB h0 S.tlt (Le.refl _))) ht
 intro k s;refine jI7 ?_;intro i h' d' t' B' m' M';refine jG10 ?_;intro zz2 hi zz3 S' z hM' hB' hJ _ hle;obtain rfl:=zz2;obtain rfl:=zz3
 rename_i yy0;clear yy0;injection hi S' z hM' hB' hJ hle with i h' d' t' B' m' M'
 have hMw:∀p∈M',p.1∉wr:=fun p hp q=>hM' p hp (F.sub _ q)
 by_cases hlt:i<n
 ·refine W.item i _ _ _ hlt z fun v h₁ tk₁ hP z₁ k₁=>?_
  have S₁:St C B' h₁ m' M':=S'.turn k₁ hLw hMw hB' F.wD
  have S₂:=S₁.inn F (live _ _ z₁) hM' hB'
  refine jR (turn i v _ B' h₁ m' M' d' tk₁ hlt hP hJ S₂ (jH3 rfl rfl rfl) hle) (fun _ s₂ x=>jR x (fun fl s₃ y=>?_) fun _ _ x=>x.elim) fun _ _ x=>x.elim
  have next:(∃h' d' t' Bx m' M',s₃=⟨h',g,d',t',os⟩∧St (C.into fp wr T h₁ B') Bx h' m' M'∧J (i+1) Bx m' M')→
    ∃m,m<n+1-i∧∃i h' d' t' B' m' M',m=n+1-i∧i≤n∧s₃=⟨h',g,d',t',os⟩∧St C B' h' m' M'∧Z i h'∧(∀p∈M',p.1∉fp)∧(∀b∈wr,B' b=none)∧J i B' m' M'∧C.top<h'.objs.size∧Le B B':=by
   refine jI6 ?_;intro h₃ d₃ t₃ B₃ m₃ M₃;refine jG3 ?_;intro e S₃ j₃
   exact⟨n+1-(i+1),⟨by exact ar_1 (mZ hlt),jJ7 (i+1) h₃ d₃ t₃ B₃ m₃ M₃ (jH10 rfl hlt e (S₃.outt S₁) (W.frame _ _ _ z₁ fun b hb o e=>S₃.fr b o (.inl hb) (by simpa[Cx.into,hb] using e)) (fun p hp q=>(S₃.m p hp).2.1 (.inl q)) (fun b hb=>(S₃.v b (.inl hb)).1) j₃ ((S₃.outt S₁).tlt) (hle.trans S₃.up))⟩⟩
  cases fl with
  | next=>exact next y
  | cont=>exact next y
  | brk=>refine jI6 ?_ y;try clear y;intro h₃ d₃ t₃ B₃ m₃ M₃;refine jG3 ?_;intro e S₃ j₃;subst e;exact fin _ _ _ _ _ _ (S₃.outt S₁) (.inr j₃)
  | ret v=>refine jI6 ?_ y;try clear y;intro h₃ d₃ t₃ B₃ m₃ M₃;refine jG3 ?_;intro e S₃ j₃;subst e;exact ret _ _ _ _ _ _ _ (S₃.outt S₁) j₃
 ·have hin:i=n:=by lia
  subst hin
  exact W.done _ _ _ z fun h₁ tk₁ k₁=>wpAny_execs_nil (fin _ _ _ _ _ _ (S'.turn k₁ hLw hMw hB' F.wD) (.inl hJ))
end
noncomputable def Lst (B:Base)(a:jQ)(vs:List jL):Prop:=∃n,B a=some (lstO vs n)
noncomputable def Tup (B:Base)(a:jQ)(vs:List jL):Prop:=∃n,B a=some (tupO vs n)
theorem Lst.le {B B':Base}{a:jQ}{vs:List jL}(x:Lst B a vs)(l:Le B B'):Lst B' a vs:=x.elim fun n e=>⟨n,l _ _ e⟩
theorem Tup.le {B B':Base}{a:jQ}{vs:List jL}(x:Tup B a vs)(l:Le B B'):Tup B' a vs:=x.elim fun n e=>⟨n,l _ _ e⟩
section
variable {w:jS}{A:jV}{C:Cx}{m mg mb:kJ→Option jL}{B:Base}{M:List (jQ×kK)}
 {h:kI} {g:Array jX} {d:kU} {t:Nat} {os:jU} {env:Env} {Q:jL→jP→Prop} {QF:kS→jP→Prop} {QB:Bool→jP→Prop}
theorem Lst.at {a:jQ}{vs:List jL}(x:Lst B a vs)(S:St C B h m M):h.IsList a vs.toArray:=x.elim fun n e=>⟨_,jH3 (S.b _ _ e) rfl ⟨n,rfl⟩⟩
theorem Tup.at {a:jQ}{vs:List jL}(x:Tup B a vs)(S:St C B h m M):h.IsTuple a vs.toArray:=x.elim fun n e=>⟨_,jH3 (S.b _ _ e) rfl ⟨n,rfl⟩⟩
theorem fits1 (S:St C B h m M):Fits C [h.objs.size] [h.objs.size] h.objs.size where
 mem:=.inr (lA.2 rfl)
 sub _ x:=x
 L x:=absurd S.lt (by rw[lA.1 x];exact lO _)
 le b x:=mB (lA.1 x)
 top:=lL S.tlt
 wD b x q:=absurd (S.dlt q) (by rw[lA.1 x];exact lO _)
theorem iZ (S:St C B h m M){l:jQ}{o:kK}(e:B l=some o):Fits C [h.objs.size,l] [h.objs.size] h.objs.size where
 mem:=.inr (kZ ..)
 sub b x:=by rw[lA.1 x];exact kZ ..
 L x:=by
  rcases lH.1 x with q | q
  ·exact absurd S.lt (by rw[q];exact lO _)
  ·have:=(S.v _ S.lv).1;rw[lA.1 q,e] at this;cases this
 le b x:=by
  rcases lH.1 x with q | q
  ·exact mB q
  ·rw[lA.1 q];exact lL (S.blt e)
 top:=lL S.tlt
 wD b x q:=absurd (S.dlt q) (by rw[lA.1 x];exact lO _)
theorem iY (S:St C B h m M){l:jQ}{o:kK}(e:B l=some o):∀p∈M,p.1∉[h.objs.size,l]:=fun p hp x=>by
 rcases lH.1 x with q | q
 ·exact S.freshM p hp q
 ·have:=(S.m p hp).2.2.2;rw[lA.1 q,e] at this;cases this
theorem iX {target:Expr}{body rest:List jW}{l:jQ}{items:List jL}(S:St C B h m M)(hl:Lst B l items)(hh:A.handled=none)
  (J:Nat→Inv) (K:Inv) (Rt:jL→Inv) (h0:J 0 B m M)
  (turn:∀i v C' B' h' m' M' d t,items[i]? =some v→J i B' m' M'→St C' B' h' m' M'→C'.L=C.L∧C'.B₀=B'∧C'.W=C.W→Le B B'→
   jN (jM PW w) A (assign target env v) (fun _ s₂=>jN (jM PW w) A (kO body env) (Turn C' g os (J (i+1)) K Rt) no s₂) no ⟨h',g,d,t,os⟩)
  (fin:∀h d t B' m' M',St C B' h m' M'→(J items.length B' m' M'∨K B' m' M')→jN (jM PW w) A (kO rest env) QF no ⟨h,g,d,t,os⟩)
  (ret:∀v h d t B' m' M',St C B' h m' M'→Rt v B' m' M'→QF (.ret v) ⟨h,g,d,t,os⟩)
  (ht:autoParam (∀i v,kE target (.ref i) v=pure ()) tR):
  fJ w A env target body rest QF (.ref l) ⟨h,g,d,t,os⟩:=by
 injection S hl hh h0 turn fin ret ht with w A C m B M h g d t os env QF target body rest l items J K Rt
 obtain⟨n,e⟩:=id hl
 refine wpAny_pyIter_list (hl.at S) ?_
 have hne:l≠h.objs.size:=lN (S.blt e)
 have T:=S.kp (Kp.push h {cls:=.type "list_iterator",data:=.fields #[.ref l,.int 0 0]})
 refine iW (Walks.list hh h.objs.size l hne items.toArray) T (iZ S e) (fun i h z b hb=>?_) (iY S e) (fun b hb=>by rw[lA.1 hb];exact S.freshB)
  ⟨⟨_,jH3 (lT _ rfl) rfl rfl⟩,hl.at T⟩ J K Rt h0 (fun i v C' B' h' m' M' d t hi hP j S' e' l=>turn i v C' B' h' m' M' d t (by simpa using hP) j S' e' l) (fun h d t B' m' M' S' x=>fin h d t B' m' M' S' (by simpa using x)) ret (ht _)
 rcases lH.1 hb with q | q
 ·refine jI1 ?_ z.1;intro o;refine jG2 ?_;intro ho _;exact⟨o,q▸ho⟩
 ·refine jI1 ?_ z.2;intro o;refine jG2 ?_;intro ho _;exact⟨o,lA.1 q▸ho⟩
end
section
variable {w:jS}{A:jV}{C:Cx}{m mg mb:kJ→Option jL}{B:Base}{M:List (jQ×kK)}
 {h:kI} {g:Array jX} {d:kU} {t:Nat} {os:jU} {env:Env} {Q:jL→jP→Prop} {QF:kS→jP→Prop} {QB:Bool→jP→Prop} {R:Result→jP→Prop}
theorem bV {M₁ M₂:List (jQ×kK)}{a:jQ}{vs:List jL}{n:Nat}{x:jL}{E:jL→jP→Prop}(S:St C B h m (M₁++(a,lstO vs n)::M₂))(hsz:vs.length≤kC)
  (k:∀h' n',St C B h' m (M₁++(a,lstO (vs++[x]) n')::M₂)→Q .none ⟨h',g,d,t,os⟩):
  jN (jM PW w) A (call (.builtin "list.append") [.ref a,x]) Q E ⟨h,g,d,t,os⟩:=by
 have hl:=(S.m (a,lstO vs n) (lJ _ (kZ ..))).1
 refine wpAny_list_append_plain (items:=vs.toArray) ⟨n,hl⟩ (fun h' hp hs=>?_) (by rw[lY];exact hsz)
 obtain⟨n',e⟩:=hp
 exact k h' n' (S.chg hs (by rw[e];simp))
theorem comp_loop {elt target iter:Expr}{scope:Scope}{pos:kW}{I T a:jQ}{c₀:Nat}{fp wr:List jQ}{n:Nat}{P:Nat→jL→Prop}{Z:Nat→kI→Prop}(W:Walks PW w A I fp wr n P Z)
  (S:St C B h m [(a,lstO [] c₀)]) (Mo:List (jQ×kK)) (hMo:∀p∈Mo,C.D p.1∧C.H p.1=some p.2∧p.1∉fp) (F:Fits C fp wr T) (live:∀i h,Z i h→∀b∈fp,∃o,h.get? b=some o) (ha:a∉fp) (hB:∀b∈wr,B b=none) (z0:Z 0 h) (hsz:n≤kC)
  (Y:Nat→jL→Base→Prop) (hY:∀i y B B',Le B B'→Y i y B→Y i y B')
  (turn:∀i v C' B' h' m' M' d t,i<n→P i v→St C' B' h' m' M'→C'.L=C.L→Le B B'→(∀p∈Mo,C'.D p.1∧C'.H p.1=some p.2)→
   jN (jM PW w) A (assign target env v) (fun _ s₂=>jN (jM PW w) A (eval elt env) (fun y s₃=>∃h' d' t' B'' m'',s₃=⟨h',g,d',t',os⟩∧St C' B'' h' m'' M'∧Y i y B'') no s₂) no ⟨h',g,d,t,os⟩)
  (fin:∀h d t B' m' ys c,St C B' h m' [(a,lstO ys c)]→Le B B'→ys.length=n→(∀i y,ys[i]? =some y→Y i y B')→R (.ok .next) ⟨h,g,d,t,os⟩)
  (ht:autoParam (∀v,kE target (.ref I) v=pure ()) tR):
  kN (jM PW w) A (.compLoop (.ListComp elt [⟨target,iter,[],0⟩] scope pos) 0 (.ref I) (.ref a) env) R ⟨h,g,d,t,os⟩:=by
 injection W S hMo F live ha hB z0 hsz hY turn fin ht with w A C m B h g d t os env R elt target iter scope pos I T a c₀ fp wr n P Z Mo Y
 have hLw:C.L∉wr:=fun q=>F.L (F.sub _ q)
 refine codeAny_compLoop_list (fun k s=>∃h' d' t' B' m' ys c,k=n+1-ys.length∧ys.length≤n∧s=⟨h',g,d',t',os⟩∧St C B' h' m' [(a,lstO ys c)]∧Z ys.length h'∧(∀b∈wr,B' b=none)∧Le B B'∧(∀i y,ys[i]? =some y→Y i y B')) ?_ (n+1)
  (jJ7 h d t B m ([]) c₀ (jH8 rfl (lC _) rfl S z0 hB (Le.refl _) (fun i y e=>by simp at e))) ht
 intro k s;refine jI7 ?_;intro h' d' t' B' m' ys c;refine jG8 ?_;intro zz1 hi zz2 S' z hB' hle hys;obtain rfl:=zz1;obtain rfl:=zz2
 injection hi S' z hB' hle hys with h' d' t' B' m' ys c
 have hM':∀p∈[(a,lstO ys c)],p.1∉fp:=fun p hp=>by rw[lA.1 hp];exact ha
 have hMw:∀p∈[(a,lstO ys c)],p.1∉wr:=fun p hp q=>hM' p hp (F.sub _ q)
 by_cases hlt:ys.length<n
 ·refine W.item ys.length _ _ _ hlt z fun v h₁ tk₁ hP z₁ k₁=>?_
  have S₁:St C B' h₁ m' [(a,lstO ys c)]:=S'.turn k₁ hLw hMw hB' F.wD
  have S₂:=S₁.inn F (live _ _ z₁) hM' hB'
  refine jR (turn ys.length v _ B' h₁ m' _ d' tk₁ hlt hP S₂ rfl hle fun p hp=>⟨.inr (hMo p hp).1,by show(if p.1∈fp then h₁.get? p.1 else C.H p.1)=some p.2;rw[if_neg (hMo p hp).2.2];exact(hMo p hp).2.1⟩) (fun _ s₂ x=>jR x (fun y s₃ z=>?_) fun _ _ x=>x.elim) fun _ _ x=>x.elim
  refine jI5 ?_ z;try clear z;intro h₃ d₃ t₃ B₃ m₃;refine jG3 ?_;intro zz3 S₃ hy;obtain rfl:=zz3
  refine bV (M₁:=[]) (M₂:=[]) S₃ (lB hi hsz) fun h₄ c₄ S₄=>?_
  refine⟨n+1-(ys.length+1),⟨by exact ar_1 (mZ hlt),jJ7 h₄ d₃ t₃ B₃ m₃ (ys++[y]) c₄ (jH8 (by simp) (by rw[lR,mG];exact hlt) rfl (S₄.outt S₁) ?_ (fun b hb=>(S₄.v b (.inl hb)).1) (hle.trans S₄.up) (fun i u e=>?_))⟩⟩
  ·rw[lR,mG]
   exact W.frame _ _ _ z₁ fun b hb o e=>S₄.fr b o (.inl hb) (by simpa[Cx.into,hb] using e)
  ·rcases pM i ys.length with q | q | q
   ·exact hY _ _ _ _ S₄.up (hys i u (by rwa [oR q] at e))
   ·subst q;simp at e;subst e;exact hy
   ·rw[oS (by rw[lR,mG];lia)] at e;cases e
 ·have hin:ys.length=n:=by lia
  subst hin
  exact W.done _ _ _ z fun h₁ tk₁ k₁=>fin _ _ _ _ _ _ _ (S'.turn k₁ hLw hMw hB' F.wD) hle rfl hys
noncomputable abbrev cH (h:kI)(wr:List jQ)(B:Base)(L:jQ):Cx:=⟨L,fun x=>x<h.objs.size∧x∉wr,fun x=>h.get? x,fun x=>x=L∨x∈wr,h.objs.size,B,L,fun _=>False⟩
theorem St.back {h₂ h₃:kI}{wr:List jQ}{B':Base}{m':kJ→Option jL}{L a:jQ}{o:kK}(S:St C B h m M)(S₂:St (cH h wr B L) B' h₂ m' [(a,o)])(hs:Heap.SameBut L h₂ h₃)(ha:h.objs.size≤a)(hL':h.objs.size≤L)
  (hM:∀p∈M,p.1∉wr) (hD:∀b∈wr,¬C.D b) (hL:C.L∉wr):St C (Base.put B' a o) h₃ m M:=by
 injection S S₂ hs ha hL' hM hD hL with C m B M h h₂ h₃ wr B' m' L a o
 have kp:∀b o,b∉wr→h.get? b=some o→h₃.get? b=some o:=fun b o hb e=>(hs.2 b (lN (lP (lM e) hL'))).trans (S₂.fr b o ⟨lM e,hb⟩ e)
 have nb:∀x,x<h.objs.size→B x=none→Base.put B' a o x=none:=fun x hx e=>by
  rw[cG _ _ (lN (lP hx ha))]
  cases q:B' x with
  | none=>rfl
  | some o=>have:=S₂.new x o q hx;rw[show(cH h wr B L).B₀=B from rfl,e] at this;cases this
 have A:=S₂.m _ (lA.2 rfl)
 exact {
  ns:=S.ns.at' fun o e=>kp _ o hL e
  ld:=S.ld
  lv:=S.lv
  fr:=fun b o x e=>kp b o (fun q=>hD b q x) (S.fr b o x e)
  b:=fun b o' e=>by
   by_cases q:b=a
   ·rw[q,aM] at e;cases e;rw[q]
    exact(hs.2 a fun q=>A.2.2.1 (.inl q)).trans A.1
   ·rw[cG _ _ q] at e
    exact(hs.2 b fun q=>by rw[q,(S₂.v L (.inl rfl)).1] at e;cases e).trans (S₂.b b o' e)
  v:=fun b x=>⟨nb b (S.vlt x) (S.v b x).1,(S.v b x).2⟩
  d:=S.d
  tp:=S.tp
  m:=fun p hp=>jH4 (kp _ _ (hM p hp) (S.m p hp).1) ((S.m p hp).2.1) ((S.m p hp).2.2.1) (nb _ (lM (S.m p hp).1) (S.m p hp).2.2.2)
  nd:=S.nd
  nl:=S.nl
  ow:=S.ow
  new:=fun b o' e x=>by
   have hb:b<h.objs.size:=lP x (lB S.nl (lL S.lt))
   rw[cG _ _ (lN (lP hb ha))] at e
   exact S.new b o' (S₂.new b o' e hb) x
  up:=(S.up.trans S₂.up).trans (aV o A.2.2.2)}
theorem comp_walk {elt target iter:Expr}{scope:Scope}{cl:List (kJ×jQ)}{pos:kW}{I:jQ}{fp wr:List jQ}{n:Nat}{P:Nat→jL→Prop}{Z:Nat→kI→Prop}{E:jL→jP→Prop}(W:Walks PW w A I fp wr n P Z)
  (S:St C B h m M) (sub:∀b∈wr,b∈fp) (lt:∀b∈fp,b<h.objs.size) (live:∀i h,Z i h→∀b∈fp,∃o,h.get? b=some o) (hMf:∀p∈M,p.1∉fp) (hB:∀b∈wr,B b=none) (hD:∀b∈wr,¬C.D b) (hL:C.L∉wr) (z0:Z 0 h) (hsz:n≤kC)
  (hcell:∀y∈scope.names,y.2≠.cell) (hkind:scope.kind=.function)
  (Y:Nat→jL→Base→Prop) (hY:∀i y B B',Le B B'→Y i y B→Y i y B')
  (turn:∀i v C' B' h' m' M' d t,i<n→P i v→St C' B' h' m' M'→Le B B'→(∀p∈M,C'.D p.1∧C'.H p.1=some p.2)→
   jN (jM PW w) A (assign target (compEnvC scope cl C'.L env) v) (fun _ s₂=>jN (jM PW w) A (eval elt (compEnvC scope cl C'.L env)) (fun y s₃=>∃h' d' t' B'' m'',s₃=⟨h',g,d',t',os⟩∧St C' B'' h' m'' M'∧Y i y B'') no s₂) no ⟨h',g,d,t,os⟩)
  (fin:∀h d t B' a ys,St C B' h m M→Le B B'→Lst B' a ys→ys.length=n→(∀i y,ys[i]? =some y→Y i y B')→Q (.ref a) ⟨h,g,d,t,os⟩)
  (ht:autoParam (∀v,kE target (.ref I) v=pure ()) tR):
  jN (jM PW w) A (newList []) (fun acc s₃=>jN (jM PW w) A (newFunctionEnv scope env.globals cl [] env.qual none .none (some env)) (fun cenv s₄=>
   kN (jM PW w) A (.compStart (.ListComp elt [⟨target,iter,[],0⟩] scope pos) 0 (.ref I) acc {cenv with scope:=relabel scope env}) (compPost (jM PW w) A E none Q acc cenv.locals) s₄) E s₃) E ⟨h,g,d,t,os⟩:=by
 injection W S sub lt live hMf hB hD hL z0 hsz hcell hkind hY turn fin ht with w A C m B M h g d t os env Q elt target iter scope cl pos I fp wr n P Z E Y
 have hM:∀p∈M,p.1∉wr:=fun p hp q=>hMf p hp (sub _ q)
 refine kP (wpAny_newFunctionEnv hcell (by intro y hy;simp at hy) (fun h₁ hns₁ hsb₁=>?_) hkind)
 dsimp only at hns₁ hsb₁⊢
 generalize hH2:h.push {cls:=.type "list",dict:=none,data:=.seq ([]:List jL).toArray}=H2 at hns₁ hsb₁⊢
 have hC:H2.objs.size=h.objs.size+1:=by rw[←hH2,mK]
 have old:∀b o,H2.get? b=some o→h₁.get? b=some o:=fun b o e=>hsb₁.extBut b o (lN (lM e)) (lS _ e)
 have old':∀b o,h.get? b=some o→h₁.get? b=some o:=fun b o e=>old b o (hH2▸lS _ e)
 have S₁:St (cH h wr B H2.objs.size) B h₁ (fun x=>([]:List (kJ×jL)).reverse.lookup x) [(h.objs.size,lstO [] 0)]:={
  ns:=.of hns₁
  ld:=fun x=>absurd x.1 (by rw[hC];exact lU.2 (lV _))
  lv:=.inl rfl
  fr:=fun a o _ e=>old' a o e
  b:=fun a o e=>old' a o (S.b a o e)
  v:=fun a x=>x.elim (fun e=>⟨by
   cases q:B a with
   | none=>rfl
   | some o=>exact absurd (S.blt q) (by rw[e,hC];exact lU.2 (lV _)),mB e⟩) fun e=>⟨hB a e,by rw[show(cH h wr B H2.objs.size).top=h.objs.size+1 from hC];exact mV (lL (lt a (sub a e)))⟩
  d:=fun a x=>by rw[show(cH h wr B H2.objs.size).top=h.objs.size+1 from hC];exact mV (lL x.1)
  tp:=.inl rfl
  m:=fun p hp=>by
   rw[lA.1 hp]
   refine jH4 (old _ _ (hH2▸lT _ rfl)) (fun x=>absurd x.1 (lO _)) (fun x=>x.elim (fun e=>absurd e (by rw[hC];exact lN (nE _))) fun e=>absurd (lt _ (sub _ e)) (lO _)) S.freshB
  nd:=by simp
  nl:=by show h.objs.size≤H2.objs.size;rw[hC];exact lV _
  ow:=fun p hp=>by rw[lA.1 hp];exact .inl (lE _)
  new:=fun a o e _=>e
  up:=Le.refl _}
 have F₁:Fits (cH h wr B H2.objs.size) fp wr H2.objs.size:={
  sub:=sub
  L:=fun x=>absurd (lt _ x) (by show ¬H2.objs.size<h.objs.size;rw[hC];exact lU.2 (lV _))
  le:=fun b x=>by rw[hC];exact mV (lL (lt b x))
  top:=lE _
  mem:=.inl rfl
  wD:=fun b x y=>y.2 x}
 have loop:∀d t,kN (jM PW w) A (.compLoop (.ListComp elt [⟨target,iter,[],0⟩] scope pos) 0 (.ref I) (.ref h.objs.size) (compEnvC scope cl H2.objs.size env))
    (compPost (jM PW w) A E none Q (.ref h.objs.size) H2.objs.size) ⟨h₁,g,d,t,os⟩:=by
  intro d t
  refine comp_loop W S₁ M (fun p hp=>jH3 ⟨lM (S.m p hp).1,hM p hp⟩ ((S.m p hp).1) (hMf p hp)) F₁ live (fun x=>absurd (lt _ x) (lO _)) hB (W.frame _ _ _ z0 fun b _ o e=>old' b o e) hsz Y hY
   (fun i v C' B' h' m' M' d t hi hP S' e l kk=>?_) (fun h₂ d t B' m' ys c S₂ hle hlen hys=>?_) ht
  ·have:=turn i v C' B' h' m' M' d t hi hP S' l kk
   rw[show C'.L=H2.objs.size from e] at this
   exact this
  ·refine jI1 ?_ S₂.ns;intro mx;refine jG2 ?_;intro nx _
   refine⟨mx,nx,fun h₃ hs₃=>?_⟩
   have A:=S₂.m _ (lA.2 rfl)
   exact fin h₃ d t _ h.objs.size ys (S.back S₂ hs₃ (lE _) (by rw[hC];exact lV _) hM hD hL) (hle.trans (aV _ A.2.2.2)) ⟨c,aM _ _ _⟩ hlen fun i y e=>hY _ _ _ _ (aV _ A.2.2.2) (hys i y e)
 exact codeAny_compStart_list (loop _ _) (W.self 0 _ _ _ (W.frame _ _ _ z0 fun b _ o e=>old' b o e) (loop _ _))
end
noncomputable def Rng (B:Base)(r:jQ)(a b:Int):Prop:=∃t u v,B r=some {cls:=.type "range",dict:=none,data:=.fields #[.int a t,.int b u,.int 1 v],slots:=#[]}
theorem Rng.le {B B':Base}{r:jQ}{a b:Int}(x:Rng B r a b)(l:Le B B'):Rng B' r a b:=jI3 (fun t u v e=>(jJ3 t u v (l _ _ e))) x
noncomputable def Sm (a:Int):Prop:= -1000000000≤a∧a≤1000000000
theorem rsize (a b:Int):Builtin.Range.rangeSize a b 1=((b-a).toNat:Int):=by
 unfold Builtin.Range.rangeSize
 simp
 lia
theorem small1 {a b:Int}(ha:Sm a)(hb:Sm b):Builtin.Range.small a b 1=true:=by
 unfold Builtin.Range.small Builtin.Range.rangeFitsLong
 rw[rsize]
 unfold Sm at ha hb
 simp
 omega
section
variable {w:jS}{A:jV}{C:Cx}{m mg mb:kJ→Option jL}{B:Base}{M:List (jQ×kK)}
 {h:kI} {g:Array jX} {d:kU} {t:Nat} {os:jU} {env:Env} {Q:jL→jP→Prop} {QF:kS→jP→Prop} {QB:Bool→jP→Prop} {E:jL→jP→Prop}
theorem for_range {target:Expr}{body rest:List jW}{r:jQ}{a b:Int}(S:St C B h m M)(hr:Rng B r a b)(ha:Sm a)(hb:Sm b)(hh:A.handled=none)
  (J:Nat→Inv) (K:Inv) (Rt:jL→Inv) (h0:J 0 B m M)
  (turn:∀(i:Nat) u C' B' h' m' M' d t,a+i<b→J i B' m' M'→St C' B' h' m' M'→C'.L=C.L∧C'.B₀=B'∧C'.W=C.W→Le B B'→
   jN (jM PW w) A (assign target env (.int (a+i) u)) (fun _ s₂=>jN (jM PW w) A (kO body env) (Turn C' g os (J (i+1)) K Rt) no s₂) no ⟨h',g,d,t,os⟩)
  (fin:∀h d t B' m' M',St C B' h m' M'→(J (b-a).toNat B' m' M'∨K B' m' M')→jN (jM PW w) A (kO rest env) QF no ⟨h,g,d,t,os⟩)
  (ret:∀v h d t B' m' M',St C B' h m' M'→Rt v B' m' M'→QF (.ret v) ⟨h,g,d,t,os⟩)
  (ht:autoParam (∀i v,kE target (.ref i) v=pure ()) tR):
  fJ w A env target body rest QF (.ref r) ⟨h,g,d,t,os⟩:=by
 refine jI3 ?_ hr;try clear hr;intro t1 u1 v1;intro e
 refine wpAny_pyIter_range (S.b _ _ e) (small1 ha hb) ?_
 rw[rsize]
 have T:=S.kp (Kp.push h {cls:=.type "range_iterator",data:=.fields #[rawInt a,rawInt ((b-a).toNat:Int),rawInt 1]})
 refine iW (Walks.range hh h.objs.size a 1 (b-a).toNat) T (fits1 S) (fun i h z b hb=>⟨_,lA.1 hb▸z⟩) (fun p hp x=>S.freshM p hp (lA.1 x)) (fun b hb=>by rw[lA.1 hb];exact S.freshB)
  ?_ J K Rt h0 (fun i v C' B' h' m' M' d t hi hP j S' e' l=>?_) fin ret (ht _)
 ·show(h.push _).get? h.objs.size=_
  simp only[Int.natCast_zero,Int.zero_mul,Int.add_zero,Int.sub_zero]
  exact lT _ rfl
 ·obtain⟨u,rfl⟩:=hP
  rw[Int.mul_one]
  exact turn i u C' B' h' m' M' d t (by omega) j S' e' l
noncomputable def CompGo (w:jS)(A:jV)(env:Env)(elt target iter:Expr)(scope:Scope)(cl:List (kJ×jQ))(pos:kW)(Q E:jL→jP→Prop)(v:jL)(s:jP):Prop:=
 jN (jM PW w) A (pyIter v) (fun it s₂=>jN (jM PW w) A (newList []) (fun acc s₃=>jN (jM PW w) A (newFunctionEnv scope env.globals cl [] env.qual none .none (some env)) (fun cenv s₄=>
   kN (jM PW w) A (.compStart (.ListComp elt [⟨target,iter,[],0⟩] scope pos) 0 it acc {cenv with scope:=relabel scope env}) (compPost (jM PW w) A E none Q acc cenv.locals) s₄) E s₃) E s₂) E s
theorem gS {elt target iter:Expr}{scope:Scope}{cl:List (kJ×jQ)}{pos:kW}(hclos:closureFor scope env=pure cl)(hkind:scope.kind=.function)
  (hnames:∀y∈scope.names,y.2=.local→scope.names.lookup y.1=some .local)
  (k:jN (jM PW w) A (eval iter env) (CompGo w A env elt target iter scope cl pos Q E) E ⟨h,g,d,t,os⟩)
  (hs:autoParam (∀x,foldedSetIterable iter env x=pure x) tR):
  jN (jM PW w) A (eval (.ListComp elt [⟨target,iter,[],0⟩] scope pos) env) Q E ⟨h,g,d,t,os⟩:=by
 rw[eval_ListComp]
 exact wpAny_comprehension_free (use:=none) rfl hs hclos hkind hnames k
theorem fO {elt target iter:Expr}{scope:Scope}{cl:List (kJ×jQ)}{pos:kW}{l:jQ}{items:List jL}(S:St C B h m M)(hl:Lst B l items)(hh:A.handled=none)(hsz:items.length≤kC)
  (hcell:∀y∈scope.names,y.2≠.cell) (hkind:scope.kind=.function)
  (Y:Nat→jL→Base→Prop) (hY:∀i y B B',Le B B'→Y i y B→Y i y B')
  (turn:∀i v C' B' h' m' M' d t,items[i]? =some v→St C' B' h' m' M'→Le B B'→(∀p∈M,C'.D p.1∧C'.H p.1=some p.2)→
   jN (jM PW w) A (assign target (compEnvC scope cl C'.L env) v) (fun _ s₂=>jN (jM PW w) A (eval elt (compEnvC scope cl C'.L env)) (fun y s₃=>∃h' d' t' B'' m'',s₃=⟨h',g,d',t',os⟩∧St C' B'' h' m'' M'∧Y i y B'') no s₂) no ⟨h',g,d,t,os⟩)
  (fin:∀h d t B' a ys,St C B' h m M→Le B B'→Lst B' a ys→ys.length=items.length→(∀i y,ys[i]? =some y→Y i y B')→Q (.ref a) ⟨h,g,d,t,os⟩)
  (ht:autoParam (∀i v,kE target (.ref i) v=pure ()) tR):
  CompGo w A env elt target iter scope cl pos Q E (.ref l) ⟨h,g,d,t,os⟩:=by
 obtain⟨n,e⟩:=id hl
 refine wpAny_pyIter_list (hl.at S) ?_
 have hne:l≠h.objs.size:=lN (S.blt e)
 have F:=iZ S e
 have T:=S.kp (Kp.push h {cls:=.type "list_iterator",data:=.fields #[.ref l,.int 0 0]})
 refine comp_walk (Walks.list hh h.objs.size l hne items.toArray) T F.sub (fun b hb=>?_) (fun i h z b hb=>?_) (iY S e) (fun b hb=>by rw[lA.1 hb];exact S.freshB) F.wD (fun q=>F.L (F.sub _ q))
  ⟨⟨_,jH3 (lT _ rfl) rfl rfl⟩,hl.at T⟩ (by simpa using hsz) hcell hkind Y hY (fun i v C' B' h' m' M' d t hi hP S' l kk=>turn i v C' B' h' m' M' d t (by simpa using hP) S' l kk) (fun h d t B' a ys S' l x y z=>fin h d t B' a ys S' l x (by simpa using y) z) (ht _)
 ·rw[mK];exact pX (F.le b hb)
 ·rcases lH.1 hb with q | q
  ·refine jI1 ?_ z.1;intro o;refine jG2 ?_;intro ho _;exact⟨o,q▸ho⟩
  ·refine jI1 ?_ z.2;intro o;refine jG2 ?_;intro ho _;exact⟨o,lA.1 q▸ho⟩
theorem comp_range {elt target iter:Expr}{scope:Scope}{cl:List (kJ×jQ)}{pos:kW}{r:jQ}{a b:Int}(S:St C B h m M)(hr:Rng B r a b)(ha:Sm a)(hb:Sm b)(hh:A.handled=none)(hsz:(b-a).toNat≤kC)
  (hcell:∀y∈scope.names,y.2≠.cell) (hkind:scope.kind=.function)
  (Y:Nat→jL→Base→Prop) (hY:∀i y B B',Le B B'→Y i y B→Y i y B')
  (turn:∀(i:Nat) u C' B' h' m' M' d t,a+i<b→St C' B' h' m' M'→Le B B'→(∀p∈M,C'.D p.1∧C'.H p.1=some p.2)→
   jN (jM PW w) A (assign target (compEnvC scope cl C'.L env) (.int (a+i) u)) (fun _ s₂=>jN (jM PW w) A (eval elt (compEnvC scope cl C'.L env)) (fun y s₃=>∃h' d' t' B'' m'',s₃=⟨h',g,d',t',os⟩∧St C' B'' h' m'' M'∧Y i y B'') no s₂) no ⟨h',g,d,t,os⟩)
  (fin:∀h d t B' a' ys,St C B' h m M→Le B B'→Lst B' a' ys→ys.length=(b-a).toNat→(∀i y,ys[i]? =some y→Y i y B')→Q (.ref a') ⟨h,g,d,t,os⟩)
  (ht:autoParam (∀i v,kE target (.ref i) v=pure ()) tR):
  CompGo w A env elt target iter scope cl pos Q E (.ref r) ⟨h,g,d,t,os⟩:=by
 injection S hr ha hb hh hsz hcell hkind hY turn fin ht with w A C m B M h g d t os env Q E elt target iter scope cl pos r a b Y
 refine jI3 ?_ hr;try clear hr;intro t1 u1 v1;intro e
 refine wpAny_pyIter_range (S.b _ _ e) (small1 ha hb) ?_
 rw[rsize]
 have F:=fits1 S
 have T:=S.kp (Kp.push h {cls:=.type "range_iterator",data:=.fields #[rawInt a,rawInt ((b-a).toNat:Int),rawInt 1]})
 refine comp_walk (Walks.range hh h.objs.size a 1 (b-a).toNat) T F.sub (fun b hb=>?_) (fun i h z b hb=>⟨_,lA.1 hb▸z⟩) (fun p hp x=>S.freshM p hp (lA.1 x)) (fun b hb=>by rw[lA.1 hb];exact S.freshB) F.wD (fun q=>F.L (F.sub _ q))
  ?_ hsz hcell hkind Y hY (fun i v C' B' h' m' M' d t hi hP S' l kk=>?_) fin (ht _)
 ·rw[mK];exact pX (F.le b hb)
 ·show(h.push _).get? h.objs.size=_
  simp only[Int.natCast_zero,Int.zero_mul,Int.add_zero,Int.sub_zero]
  exact lT _ rfl
 ·obtain⟨u,rfl⟩:=hP
  rw[Int.mul_one]
  exact turn i u C' B' h' m' M' d t (by omega) S' l kk
end
noncomputable def isInt (x:Int)(y:jL):Bool:=match y with | .int n _=>n==x | _=>false
theorem gB (x:Int){vs:List jL}{ns:List Int}(hi:IntsAre vs ns):(∀y∈vs,∃n v,y=Value.int n v)∧vs.any (isInt x)=ns.contains x:=by
 induction hi with
 | nil=>exact⟨fun y hy=>absurd hy (List.not_mem_nil),rfl⟩
 | cons n t _ ih=>
  refine⟨fun y hy=>(lH.1 hy).elim (fun e=>jJ2 n t e) (ih.1 y),?_⟩
  rw[List.any_cons,ih.2,List.contains_cons]
  have:isInt x (Value.int n t)=(x==n):=by
   show(n==x)=(x==n)
   rw[lI,beq_iff_eq,beq_iff_eq];exact eq_comm
  rw[this]
section
variable {w:jS}{A:jV}{C:Cx}{m mg mb:kJ→Option jL}{B:Base}{M:List (jQ×kK)}
 {h:kI} {g:Array jX} {d:kU} {t:Nat} {os:jU} {env:Env} {Q:jL→jP→Prop} {QF:kS→jP→Prop} {QB:Bool→jP→Prop} {QU:Unit→jP→Prop} {E:jL→jP→Prop}
theorem bJ {value slice:Expr}{pos:kW}
  (k:jN (jM PW w) A (eval value env) (fun o s₁=>jN (jM PW w) A (eval slice env) (fun i s₂=>jN (jM PW w) A (subscriptTail value slice o i) Q E s₂) E s₁) E ⟨h,g,d,t,os⟩):
  jN (jM PW w) A (eval (.Subscript value slice pos) env) Q E ⟨h,g,d,t,os⟩:=Subscript_ k
theorem i_lst {value slice:Expr}{l:jQ}{vs:List jL}{i:Int}{u:Tok}{x:jL}(S:St C B h m M)(hl:Lst B l vs)(h0:0≤i)(hfit:i<2 ^ 63)(hx:vs[i.toNat]? =some x)(k:Q x ⟨h,g,d,t,os⟩)
  (hs:autoParam (subscripted slice false (.ref l) (.int i u)=operate [.ref l,.int i u] (getItem (.ref l) (.int i u))) tW) (hg:autoParam (∀r,letTemporaryGo value (.ref l) r=pure ()) tW):
  jN (jM PW w) A (subscriptTail value slice (.ref l) (.int i u)) Q E ⟨h,g,d,t,os⟩:=item_list (hl.at S) h0 hfit (by simpa using hx) k hs hg
theorem Tup.is {a:jQ}{vs:List jL}(x:Tup B a vs)(S:St C B h m M):IsTup h a vs.toArray:=x.elim fun n e=>⟨_,jH3 (S.b _ _ e) rfl ⟨n,rfl⟩⟩
theorem i_tup {value slice:Expr}{l:jQ}{vs:List jL}{i:Int}{u:Tok}{j:Nat}{x:jL}(S:St C B h m M)(hl:Tup B l vs)(hj:seqIndex? i vs.length=some j)(hx:vs[j]? =some x)(k:Q x ⟨h,g,d,t,os⟩)
  (hlo:autoParam (-(2 ^ 63)≤i) tD) (hhi:autoParam (i<2 ^ 63) tD)
  (hs:autoParam (subscripted slice false (.ref l) (.int i u)=operate [.ref l,.int i u] (getItem (.ref l) (.int i u))) tW) (hg:autoParam (∀r,letTemporaryGo value (.ref l) r=pure ()) tW):
  jN (jM PW w) A (subscriptTail value slice (.ref l) (.int i u)) Q E ⟨h,g,d,t,os⟩:=item_tupleL (hl.is S) hlo hhi hj hx k hs hg
theorem t_and0 {pos:kW}{whole:Sem jL}(k:QB true ⟨h,g,d,t,os⟩):jN (jM PW w) A (isTrue (.BoolOp .And [] pos) env whole) QB E ⟨h,g,d,t,os⟩:=isTrue_and_nil k
theorem t_and {x:Expr}{rest:List Expr}{pos:kW}{whole:Sem jL}
  (k:jN (jM PW w) A (isTrue x env (eval x env)) (fun c s'=>if c then jN (jM PW w) A (isTrue (.BoolOp .And rest pos) env whole) QB E s' else QB false s') E ⟨h,g,d,t,os⟩):
  jN (jM PW w) A (isTrue (.BoolOp .And (x::rest) pos) env whole) QB E ⟨h,g,d,t,os⟩:=isTrue_and k
theorem t_or0 {pos:kW}{whole:Sem jL}(k:QB false ⟨h,g,d,t,os⟩):jN (jM PW w) A (isTrue (.BoolOp .Or [] pos) env whole) QB E ⟨h,g,d,t,os⟩:=isTrue_or_nil k
theorem t_or {x:Expr}{rest:List Expr}{pos:kW}{whole:Sem jL}
  (k:jN (jM PW w) A (isTrue x env (eval x env)) (fun c s'=>if c then QB true s' else jN (jM PW w) A (isTrue (.BoolOp .Or rest pos) env whole) QB E s') E ⟨h,g,d,t,os⟩):
  jN (jM PW w) A (isTrue (.BoolOp .Or (x::rest) pos) env whole) QB E ⟨h,g,d,t,os⟩:=isTrue_or k
theorem t_not {x:Expr}{pos:kW}{whole:Sem jL}(k:jN (jM PW w) A (isTrue x env (eval x env)) (fun c s'=>QB (!c) s') E ⟨h,g,d,t,os⟩):
  jN (jM PW w) A (isTrue (.UnaryOp .Not x pos) env whole) QB E ⟨h,g,d,t,os⟩:=isTrue_not k
theorem aQ {l r:Expr}{op:CmpOp}{pos:kW}{whole:Sem jL}
  (k:jN (jM PW w) A (eval l env) (fun a s₁=>jN (jM PW w) A (eval r env) (fun b s₂=>jN (jM PW w) A (compareOp op a b) (fun c s₃=>jN (jM PW w) A (truthy c) QB E s₃) E s₂) E s₁) E ⟨h,g,d,t,os⟩)
  (hm:autoParam (behindInMarks op r=false) tW):jN (jM PW w) A (isTrue (.Compare l [op] [r] pos) env whole) QB E ⟨h,g,d,t,os⟩:=wpAny_isTrue_Compare1 k hm
theorem dL {e:Expr}{whole:Sem jL}(k:jN (jM PW w) A whole (fun v s₁=>jN (jM PW w) A (truthy v) QB E s₁) E ⟨h,g,d,t,os⟩)
  (he:autoParam (isTrue e env whole=(do let v ←whole;standAt e.pos;holding [v] (truthy v))) tR):jN (jM PW w) A (isTrue e env whole) QB E ⟨h,g,d,t,os⟩:=isTrue_plain k he
theorem aI {b:Bool}(k:QB b ⟨h,g,d,t,os⟩):jN (jM PW w) A (truthy (.bool b)) QB E ⟨h,g,d,t,os⟩:=wpAny_truthy_bool k
theorem t_int {a:Int}{u:Tok}(k:QB (a != 0) ⟨h,g,d,t,os⟩):jN (jM PW w) A (truthy (.int a u)) QB E ⟨h,g,d,t,os⟩:=PySem.P.truthy_int k
theorem eX {a b:Int}{u v:Tok}(k:Q (.bool (decide (a<b))) ⟨h,g,d,t,os⟩):jN (jM PW w) A (compareOp .Lt (.int a u) (.int b v)) Q E ⟨h,g,d,t,os⟩:=PyProof.Rows.lt_int k
theorem c_gt {a b:Int}{u v:Tok}(k:Q (.bool (decide (b<a))) ⟨h,g,d,t,os⟩):jN (jM PW w) A (compareOp .Gt (.int a u) (.int b v)) Q E ⟨h,g,d,t,os⟩:=PyProof.Rows.gt_int k
theorem hX {a b:Int}{u v:Tok}(k:Q (.bool (a==b)) ⟨h,g,d,t,os⟩):jN (jM PW w) A (compareOp .Eq (.int a u) (.int b v)) Q E ⟨h,g,d,t,os⟩:=PyProof.Rows.eq_int k
theorem c_ne {a b:Int}{u v:Tok}(k:Q (.bool (a != b)) ⟨h,g,d,t,os⟩):jN (jM PW w) A (compareOp .NotEq (.int a u) (.int b v)) Q E ⟨h,g,d,t,os⟩:=PyProof.Rows.ne_int k
theorem c_in {l:jQ}{vs:List jL}{ns:List Int}{x:Int}{u:Tok}(S:St C B h m M)(hl:Lst B l vs)(hi:IntsAre vs ns)(k:Q (.bool (ns.contains x)) ⟨h,g,d,t,os⟩):
  jN (jM PW w) A (compareOp .In (.int x u) (.ref l)) Q E ⟨h,g,d,t,os⟩:=by
 refine PySem.SeqAt.in_listAt (isInt x) (hl.at S) (fun y hy=>?_) ?_
 ·refine jI2 ?_ ((gB x hi).1 y (by simpa using hy));intro n v;intro zz1;obtain rfl:=zz1
  exact PySem.SeqAt.EqAt.int_int n v x u
 ·rw[List.any_toArray,(gB x hi).2];exact k
theorem c_nin {l:jQ}{vs:List jL}{ns:List Int}{x:Int}{u:Tok}(S:St C B h m M)(hl:Lst B l vs)(hi:IntsAre vs ns)(k:Q (.bool (!ns.contains x)) ⟨h,g,d,t,os⟩):
  jN (jM PW w) A (compareOp .NotIn (.int x u) (.ref l)) Q E ⟨h,g,d,t,os⟩:=by
 refine PySem.SeqAt.notIn_listAt (isInt x) (hl.at S) (fun y hy=>?_) ?_
 ·refine jI2 ?_ ((gB x hi).1 y (by simpa using hy));intro n v;intro zz2;obtain rfl:=zz2
  exact PySem.SeqAt.EqAt.int_int n v x u
 ·rw[List.any_toArray,(gB x hi).2];exact k
theorem j_add {a b:Int}{u v:Tok}(k:∀u' t',Q (.int (a+b) u') ⟨h,g,d,t',os⟩):jN (jM PW w) A (inplaceOp .Add (.int a u) (.int b v)) Q E ⟨h,g,d,t,os⟩:=PyProof.Rows.iadd_int (k _ _)
theorem j_sub {a b:Int}{u v:Tok}(k:∀u' t',Q (.int (a-b) u') ⟨h,g,d,t',os⟩):jN (jM PW w) A (inplaceOp .Sub (.int a u) (.int b v)) Q E ⟨h,g,d,t,os⟩:=PyProof.Rows.isub_int (k _ _)
theorem aR {func:Expr}{args:List Expr}{pos:kW}
  (k:jN (jM PW w) A (eval func env) (fun f s₁=>jN (jM PW w) A (callWith pos f [] (backTo pos (kD args env)) []) Q E s₁) E ⟨h,g,d,t,os⟩)
  (he:autoParam (eval (.Call func args [] pos) env=(do callWith pos (←eval func env) [] (backTo pos (kD args env)) (backToKw pos (keywordEach [] env)))) tR):
  jN (jM PW w) A (eval (.Call func args [] pos) env) Q E ⟨h,g,d,t,os⟩:=Call_ k he
theorem dX {pos:kW}{T:String}{e:Expr}{rest:List Expr}
  (k:jN (jM PW w) A (spliced (backTo pos (kD (e::rest) env))) (fun vs s₁=>jN (jM PW w) A (call (.type T) vs) Q E s₁) E ⟨h,g,d,t,os⟩)
  (he:autoParam (kD (e::rest) env=(false,eval e env)::kD rest env) tR) (hplain:autoParam ((backTo pos (kD rest env)).any (·.1)=false) tR):
  jN (jM PW w) A (callWith pos (.type T) [] (backTo pos (kD (e::rest) env)) []) Q E ⟨h,g,d,t,os⟩:=PyProof.Rows.callWith_type1 k he hplain
theorem eE {pos:kW}{id:String}{e:Expr}{rest:List Expr}
  (k:jN (jM PW w) A (spliced (backTo pos (kD (e::rest) env))) (fun vs s₁=>jN (jM PW w) A (call (.builtin id) vs) Q E s₁) E ⟨h,g,d,t,os⟩)
  (he:autoParam (kD (e::rest) env=(false,eval e env)::kD rest env) tR) (hplain:autoParam ((backTo pos (kD rest env)).any (·.1)=false) tR):
  jN (jM PW w) A (callWith pos (.builtin id) [] (backTo pos (kD (e::rest) env)) []) Q E ⟨h,g,d,t,os⟩:=PyProof.Rows.callWith_builtin1 k he hplain
theorem mk_rng2 {a b:Int}{u v:Tok}(S:St C B h m M)(k:∀h' t' r B',Kp h h'→Le B B'→Rng B' r a b→St C B' h' m M→Q (.ref r) ⟨h',g,d,t',os⟩):
  jN (jM PW w) A (call (.type "range") [.int a u,.int b v]) Q E ⟨h,g,d,t,os⟩:=
 call_range_2 (k _ _ _ _ (Kp.push _ _) (aV _ S.freshB) (jJ3 _ _ _ (aM _ _ _)) (S.froz _ rfl))
theorem mk_rng1 {b:Int}{v:Tok}(S:St C B h m M)(k:∀h' t' r B',Kp h h'→Le B B'→Rng B' r 0 b→St C B' h' m M→Q (.ref r) ⟨h',g,d,t',os⟩):
  jN (jM PW w) A (call (.type "range") [.int b v]) Q E ⟨h,g,d,t,os⟩:=
 call_range_1 (k _ _ _ _ (Kp.push _ _) (aV _ S.freshB) (jJ3 _ _ _ (aM _ _ _)) (S.froz _ rfl))
theorem aK {x:kJ}{pos:kW}{v:jL}(k:jN (jM PW w) A (storeName env x v) QU E ⟨h,g,d,t,os⟩):jN (jM PW w) A (assign (.Name x pos) env v) QU E ⟨h,g,d,t,os⟩:=wpAny_assign_Name k
theorem fF {elts:List Expr}{x1:Nat}{pos:kW}{a:jQ}{vs:List jL}(S:St C B h m M)(ht:Tup B a vs)(hh:A.handled=none)
  (k:∀h',St C B h' m M→jN (jM PW w) A (assignInOrder ((assignEach elts env).map (·.2)) vs) QU E ⟨h',g,d,t,os⟩)
  (hn:autoParam ((assignEach elts env).length=vs.length) tR) (hstar:autoParam ((assignEach elts env).findIdx? (·.1)=none) tR):
  jN (jM PW w) A (assign (.Tuple elts x1 pos) env (.ref a)) QU E ⟨h,g,d,t,os⟩:=
 assign_Tuple_tuple hh (ht.is S) (by rw[hn];simp) hstar fun h' e=>by
  have:=k h' (S.kp (Kp.ext e))
  simpa using this
theorem cK {xs:List jL}(k:QU () ⟨h,g,d,t,os⟩):jN (jM PW w) A (assignInOrder [] xs) QU E ⟨h,g,d,t,os⟩:=assignInOrder_nil k
theorem aL {f:jL→Sem Unit}{fs:List (jL→Sem Unit)}{x:jL}{xs:List jL}(k:jN (jM PW w) A (f x) (fun _ s₁=>jN (jM PW w) A (assignInOrder fs xs) QU E s₁) E ⟨h,g,d,t,os⟩):
  jN (jM PW w) A (assignInOrder (f::fs) (x::xs)) QU E ⟨h,g,d,t,os⟩:=assignInOrder_cons k
end
section
variable {w:jS}{A:jV}{C:Cx}{mg mb:kJ→Option jL}{B:Base}{M:List (jQ×kK)}{L:List (kJ×jL)}
 {h:kI} {g:Array jX} {d:kU} {t:Nat} {os:jU} {env:Env} {Q:jL→jP→Prop} {QF:kS→jP→Prop} {QB:Bool→jP→Prop} {QU:Unit→jP→Prop} {E:jL→jP→Prop}
theorem aA {x:kJ}{pos:kW}{v:jL}(S:St C B h (vars L) M)(hE:aP C env)(hv:L.lookup x=some v)(k:Q v ⟨h,g,d,t,os⟩)
  (hx:autoParam (env.kindOf x=some .local) tR) (hd:autoParam ((x==("__debug__":kJ))=false) tD):
  jN (jM PW w) A (eval (.Name x pos) env) Q E ⟨h,g,d,t,os⟩:=gG S hE hv k hx hd
theorem l_var {x:kJ}{v:jL}(S:St C B h (vars L) M)(hE:aP C env)(hv:L.lookup x=some v)(k:Q v ⟨h,g,d,t,os⟩)
  (hx:autoParam (env.kindOf x=some .local) tR):
  jN (jM PW w) A (loadName env x) Q E ⟨h,g,d,t,os⟩:=l_loc S hE hv k hx
theorem aD {x:kJ}{v:jL}(S:St C B h (vars L) M)(hE:aP C env)
  (k:∀h' t',St C B h' (vars ((x,v)::L)) M→QU () ⟨h',g,d,t',os⟩) (hx:autoParam (env.kindOf x=some .local) tR):
  jN (jM PW w) A (storeName env x v) QU E ⟨h,g,d,t,os⟩:=dC S hE (fun h' t' S'=>k h' t' S'.var) hx
theorem cZ {pos:kW}{f:jQ}{o:kK}{fd:FuncData}{e:Expr}{rest:List Expr}(hdat:o.data=.func fd)
  (k:jN (jM PW w) A (spliced (backTo pos (kD (e::rest) env))) (fun vs s₁=>s₁.heap.get? f=some o∧jN (jM PW w) A (call (.ref f) vs) Q E s₁) E ⟨h,g,d,t,os⟩)
  (he:autoParam (kD (e::rest) env=(false,eval e env)::kD rest env) tR):
  jN (jM PW w) A (callWith pos (.ref f) [] (backTo pos (kD (e::rest) env)) []) Q E ⟨h,g,d,t,os⟩:=callWith_def hdat k he
theorem use {m:kJ→Option jL}{c:Sem jL}{R:jL→Base→Prop}(S:St C B h m M)(k:jN (jM PW w) A c (Ends B ⟨h,g,d,t,os⟩ R) no ⟨h,g,d,t,os⟩)
  (q:∀v h' d' t' B',St C B' h' m M→Le B B'→R v B'→Q v ⟨h',g,d',t',os⟩):jN (jM PW w) A c Q E ⟨h,g,d,t,os⟩:=by
 refine jR k (fun v s' x=>?_) fun _ _ x=>x.elim
 refine jI4 ?_ x;try clear x;intro h' t' d' B';refine jG6 ?_;intro zz1 kp le lh nw r;obtain rfl:=zz1
 exact q v h' d' t' B' (S.base kp le lh nw) le r
end
noncomputable def glob (P:jT)(x:kJ):Option jL:=match (o_3 P).data with | .dict es _=>nsFind es x | _=>none
theorem Gr.gl {w:jS}{mg mb:kJ→Option jL}{B:Base}{h:kI}(G:Gr w mg mb B)(hB:∀a o,B a=some o→h.get? a=some o)(x:kJ):mg x=glob w.params x:=by
 refine jI1 ?_ G.g;intro o;refine jG2 ?_;intro e k
 have e3:B mainGlobals=some (o_3 w.params):=G.K 3 (o_3 w.params) rfl
 rw[e3] at e
 cases e
 refine jI3 ?_ (k h (hB _ _ e3));intro o' es ep;refine jG4 ?_;intro eo dd _ f
 rw[hB _ _ e3] at eo
 cases eo
 unfold glob
 rw[dd]
 exact(f x).symm
theorem dW (P:jT):glob P "range"=none:=by kernel_rfl!
theorem glob_oct (P:jT):glob P "_law_octets"=some (.ref 299):=by kernel_rfl!
section
variable {w:jS}{A:jV}{C:Cx}{m:kJ→Option jL}{B:Base}{M:List (jQ×kK)}
 {h:kI} {g:Array jX} {d:kU} {t:Nat} {os:jU} {Q:jL→jP→Prop} {E:jL→jP→Prop}
theorem eT {value slice:Expr}{l:jQ}{vs:List jL}{ns:List Int}{i:Int}{u:Tok}(n:Nat)(S:St C B h m M)(hl:Lst B l vs)(hi:IntsAre vs ns)(e:i=n)(h1:n<ns.length)(hf:ns.length≤1000)(k:∀u',Q (.int (ns.getD n 0) u') ⟨h,g,d,t,os⟩)
  (hs:autoParam (subscripted slice false (.ref l) (.int i u)=operate [.ref l,.int i u] (getItem (.ref l) (.int i u))) tW) (hg:autoParam (∀r,letTemporaryGo value (.ref l) r=pure ()) tW):
  jN (jM PW w) A (subscriptTail value slice (.ref l) (.int i u)) Q E ⟨h,g,d,t,os⟩:=
 item_list_ints (hl.at S) hi (by lia) (by lia) (by lia) (fun u'=>by rw[e,nY];exact k u') hs hg
end
noncomputable def Pu (h:kI)(g:Array jX)(d:kU)(os:jU)(P:Bool)(b:Bool)(s':jP):Prop:=b=P∧∃t',s'=⟨h,g,d,t',os⟩
section
variable {w:jS}{A:jV}{C:Cx}{m mg mb:kJ→Option jL}{B:Base}{M:List (jQ×kK)}
 {h:kI} {g:Array jX} {d:kU} {t:Nat} {os:jU} {env:Env} {Q:jL→jP→Prop} {QF:kS→jP→Prop} {QB:Bool→jP→Prop} {QU:Unit→jP→Prop} {E:jL→jP→Prop}
theorem pu {b P:Bool}(e:b=P){t':Nat}:Pu h g d os P b ⟨h,g,d,t',os⟩:=⟨e,_,rfl⟩
theorem dG {pos:kW}{whole:Sem jL}:jN (jM PW w) A (isTrue (.BoolOp .And [] pos) env whole) (Pu h g d os true) no ⟨h,g,d,t,os⟩:=t_and0 (pu rfl)
theorem bI {x:Expr}{rest:List Expr}{pos:kW}{whole:Sem jL}{p q:Bool}
  (k:jN (jM PW w) A (isTrue x env (eval x env)) (Pu h g d os p) no ⟨h,g,d,t,os⟩)
  (k2:p=true→∀t,jN (jM PW w) A (isTrue (.BoolOp .And rest pos) env whole) (Pu h g d os q) no ⟨h,g,d,t,os⟩):
  jN (jM PW w) A (isTrue (.BoolOp .And (x::rest) pos) env whole) (Pu h g d os (p&&q)) no ⟨h,g,d,t,os⟩:=by
 refine t_and (jR k (fun b s' x=>?_) fun _ _ x=>x)
 refine jG2 ?_ x;try clear x;intro zz1;refine jI1 ?_;intro t';intro zz2;obtain rfl:=zz1;obtain rfl:=zz2
 cases b with
 | true=>exact k2 rfl t'
 | false=>exact pu rfl
theorem p_or0 {pos:kW}{whole:Sem jL}:jN (jM PW w) A (isTrue (.BoolOp .Or [] pos) env whole) (Pu h g d os false) no ⟨h,g,d,t,os⟩:=t_or0 (pu rfl)
theorem p_or {x:Expr}{rest:List Expr}{pos:kW}{whole:Sem jL}{p q:Bool}
  (k:jN (jM PW w) A (isTrue x env (eval x env)) (Pu h g d os p) no ⟨h,g,d,t,os⟩)
  (k2:p=false→∀t,jN (jM PW w) A (isTrue (.BoolOp .Or rest pos) env whole) (Pu h g d os q) no ⟨h,g,d,t,os⟩):
  jN (jM PW w) A (isTrue (.BoolOp .Or (x::rest) pos) env whole) (Pu h g d os (p||q)) no ⟨h,g,d,t,os⟩:=by
 refine t_or (jR k (fun b s' x=>?_) fun _ _ x=>x)
 refine jG2 ?_ x;try clear x;intro zz3;refine jI1 ?_;intro t';intro zz4;obtain rfl:=zz3;obtain rfl:=zz4
 cases b with
 | false=>exact k2 rfl t'
 | true=>exact pu rfl
theorem p_not {x:Expr}{pos:kW}{whole:Sem jL}{p:Bool}(k:jN (jM PW w) A (isTrue x env (eval x env)) (Pu h g d os p) no ⟨h,g,d,t,os⟩):
  jN (jM PW w) A (isTrue (.UnaryOp .Not x pos) env whole) (Pu h g d os (!p)) no ⟨h,g,d,t,os⟩:=
 t_not (jR k (fun b s' x=>by refine jG2 ?_ x;try clear x;intro zz5;refine jI1 ?_;intro t';intro zz6;obtain rfl:=zz5;obtain rfl:=zz6;exact pu rfl) fun _ _ x=>x)
theorem bH {test:Expr}{body orelse rest:List jW}{pos:kW}(P:Bool)
  (k:jN (jM PW w) A (isTrue test env (eval test env)) (Pu h g d os P) no ⟨h,g,d,t,os⟩)
  (yes:P=true→∀t,jN (jM PW w) A (kO body env) (Then w A env rest QF no) no ⟨h,g,d,t,os⟩)
  (no':P=false→∀t,jN (jM PW w) A (kO orelse env) (Then w A env rest QF no) no ⟨h,g,d,t,os⟩):
  jN (jM PW w) A (kO (.If test body orelse pos::rest) env) QF no ⟨h,g,d,t,os⟩:=by
 refine x_if (jR k (fun b s' x=>?_) fun _ _ x=>x)
 refine jG2 ?_ x;try clear x;intro zz7;refine jI1 ?_;intro t';intro zz8;obtain rfl:=zz7;obtain rfl:=zz8
 cases b with
 | true=>exact yes rfl t'
 | false=>exact no' rfl t'
theorem e_ifp {test body orelse:Expr}{pos:kW}(P:Bool)
  (k:jN (jM PW w) A (isTrue test env (eval test env)) (Pu h g d os P) no ⟨h,g,d,t,os⟩)
  (yes:P=true→∀t,jN (jM PW w) A (eval body env) Q no ⟨h,g,d,t,os⟩)
  (no':P=false→∀t,jN (jM PW w) A (eval orelse env) Q no ⟨h,g,d,t,os⟩)
  (he:autoParam (eval (.IfExp test body orelse pos) env=(do if ←isTrue test env (eval test env) then eval body env else eval orelse env)) tR):
  jN (jM PW w) A (eval (.IfExp test body orelse pos) env) Q no ⟨h,g,d,t,os⟩:=by
 rw[he]
 refine jK (jR k (fun b s' x=>?_) fun _ _ x=>x)
 refine jG2 ?_ x;try clear x;intro zz9;refine jI1 ?_;intro t';intro zz10;obtain rfl:=zz9;obtain rfl:=zz10
 cases b with
 | true=>exact yes rfl t'
 | false=>exact no' rfl t'
theorem t_ret {v:jL}{s:jP}{rest:List jW}(k:QF (.ret v) s):Then w A env rest QF no (.ret v) s:=k
noncomputable def WhT {σ:Type}(g:Array jX)(os:jU)(I:σ→kI→Prop)(μ:σ→Nat)(x:σ)(QF:kS→jP→Prop)(fl:kS)(s₃:jP):Prop:=match fl with
 | .next | .cont=>∃x' h' d' t',s₃=⟨h',g,d',t',os⟩∧μ x'<μ x∧I x' h'
 | .brk=>False
 | .ret v=>QF (.ret v) s₃
theorem x_wh {σ:Type}{test:Expr}{body rest:List jW}{pos:kW}(I:σ→kI→Prop)(μ:σ→Nat)(P:σ→Bool)(x₀:σ)(h0:I x₀ h)
  (tst:∀x h d t,I x h→jN (jM PW w) A (isTrue test env (eval test env)) (Pu h g d os (P x)) no ⟨h,g,d,t,os⟩)
  (turn:∀x h d t,I x h→P x=true→jN (jM PW w) A (kO body env) (WhT g os I μ x QF) no ⟨h,g,d,t,os⟩)
  (fin:∀x h d t,I x h→P x=false→jN (jM PW w) A (kO rest env) QF no ⟨h,g,d,t,os⟩):
  jN (jM PW w) A (kO (.While test body [] pos::rest) env) QF no ⟨h,g,d,t,os⟩:=by
 refine x_while (fun n h=>∃x,μ x=n∧I x h) (μ x₀) ⟨x₀,rfl,h0⟩ ?_
 intro n h d t;refine jI1 ?_;intro x;refine jG2 ?_;intro zz11 hI;obtain rfl:=zz11
 refine jR (tst x h d t hI) (fun b s' y=>?_) fun _ _ x=>x
 refine jG2 ?_ y;try clear y;intro zz12;refine jI1 ?_;intro t';intro zz13;obtain rfl:=zz12;obtain rfl:=zz13
 cases hp:P x with
 | true=>
  refine jR (turn x h d t' hI hp) (fun fl s₃ y=>?_) fun _ _ x=>x
  cases fl with
  | next=>refine jI4 ?_ y;try clear y;intro x' h' d' t';refine jG3 ?_;intro e l i;exact jJ4 _ h' d' t' (jH3 e l ⟨x',⟨rfl,i⟩⟩)
  | cont=>refine jI4 ?_ y;try clear y;intro x' h' d' t';refine jG3 ?_;intro e l i;exact jJ4 _ h' d' t' (jH3 e l ⟨x',⟨rfl,i⟩⟩)
  | brk=>exact y.elim
  | ret v=>exact y
 | false=>exact fin x h d t' hI hp
noncomputable def Cut (g:Array jX)(os:jU)(C:Cx)(B:Base)(K:Inv)(QF:kS→jP→Prop)(fl:kS)(s:jP):Prop:=match fl with
 | .next=>∃h' d' t' B' m' M',s=⟨h',g,d',t',os⟩∧St C B' h' m' M'∧Le B B'∧K B' m' M'
 | fl=>QF fl s
theorem fW {st:jW}{rest:List jW}(S:St C B h m M)(K:Inv)
  (one:jN (jM PW w) A (kO [st] env) (Cut g os C B K QF) no ⟨h,g,d,t,os⟩)
  (k:∀h d t B' m' M',St C B' h m' M'→Le B B'→K B' m' M'→jN (jM PW w) A (kO rest env) QF no ⟨h,g,d,t,os⟩):
  jN (jM PW w) A (kO (st::rest) env) QF no ⟨h,g,d,t,os⟩:=fun Γ p hΓ=>by
 have:=one Γ p hΓ
 rw[execs_cons,Sem.wp_bind'] at this⊢
 refine Sem.wp_mono (jM PW w) Γ _ (fun f p' s' h'=>?_) (fun _ _ _ h'=>h') _ _ this
 cases f with
 | next=>
  refine jI6 ?_ ((h':_));intro h₁ d₁ t₁ B₁ m₁ M₁;refine jG4 ?_;intro zz14 S₁ l kk;obtain rfl:=zz14
  exact k h₁ d₁ t₁ B₁ m₁ M₁ S₁ l kk Γ p' hΓ
 | cont=>exact h'
 | brk=>exact h'
 | ret v=>exact h'
theorem cD {vs:List jL}(S:St C B h m M)(hsz:vs.length≤kC)
  (k:∀h' a B',Le B B'→Lst B' a vs→St C B' h' m M→Q (.ref a) ⟨h',g,d,t,os⟩):
  jN (jM PW w) A (newList vs) Q E ⟨h,g,d,t,os⟩:=mk_lst S hsz fun h' a B' _ l e S=>k h' a B' l ⟨_,e⟩ S
theorem bL {vs:List jL}(S:St C B h m M)(hsz:vs.length≤kC)
  (k:∀h' a B',Le B B'→Tup B' a vs→St C B' h' m M→Q (.ref a) ⟨h',g,d,t,os⟩):
  jN (jM PW w) A (newTuple vs) Q E ⟨h,g,d,t,os⟩:=mk_tup S hsz fun h' a B' _ l e S=>k h' a B' l ⟨_,e⟩ S
theorem n_rng2 {a b:Int}{u v:Tok}(S:St C B h m M)(k:∀h' t' r B',Le B B'→Rng B' r a b→St C B' h' m M→Q (.ref r) ⟨h',g,d,t',os⟩):
  jN (jM PW w) A (call (.type "range") [.int a u,.int b v]) Q E ⟨h,g,d,t,os⟩:=mk_rng2 S fun h' t' r B' _ l e S=>k h' t' r B' l e S
theorem n_rng1 {b:Int}{v:Tok}(S:St C B h m M)(k:∀h' t' r B',Le B B'→Rng B' r 0 b→St C B' h' m M→Q (.ref r) ⟨h',g,d,t',os⟩):
  jN (jM PW w) A (call (.type "range") [.int b v]) Q E ⟨h,g,d,t,os⟩:=mk_rng1 S fun h' t' r B' _ l e S=>k h' t' r B' l e S
theorem eW {target:Expr}{body rest:List jW}{r:jQ}{a b:Int}(S:St C B h m M)(hr:Rng B r a b)(ha:Sm a)(hb:Sm b)(hh:A.handled=none)
  (J:Nat→Inv) (h0:J 0 B m M)
  (turn:∀(i:Nat) u C' B' h' m' M' d t,a+i<b→J i B' m' M'→St C' B' h' m' M'→C'.L=C.L∧C'.B₀=B'∧C'.W=C.W→Le B B'→
   jN (jM PW w) A (assign target env (.int (a+i) u)) (fun _ s₂=>jN (jM PW w) A (kO body env) (Turn C' g os (J (i+1)) (fun _ _ _=>False) (fun _ _ _ _=>False)) no s₂) no ⟨h',g,d,t,os⟩)
  (fin:∀h d t B' m' M',St C B' h m' M'→Le B B'→J (b-a).toNat B' m' M'→jN (jM PW w) A (kO rest env) QF no ⟨h,g,d,t,os⟩)
  (ht:autoParam (∀i v,kE target (.ref i) v=pure ()) tR):
  fJ w A env target body rest QF (.ref r) ⟨h,g,d,t,os⟩:=
 for_range S hr ha hb hh (fun i B' m' M'=>Le B B'∧J i B' m' M') (fun _ _ _=>False) (fun _ _ _ _=>False) ⟨Le.refl _,h0⟩
  (fun i u C' B' h' m' M' d t hi j S' e l=>jR (turn i u C' B' h' m' M' d t hi j.2 S' e l) (fun _ s x=>jR x (fun fl s' y=>by
   cases fl with
   | next=>refine jI6 ?_ y;try clear y;intro h₁ d₁ t₁ B₁ m₁ M₁;refine jG3 ?_;intro e₁ S₁ j₁;exact jJ6 h₁ d₁ t₁ B₁ m₁ M₁ (jH4 e₁ S₁ (l.trans (e.2.1▸S₁.up)) j₁)
   | cont=>refine jI6 ?_ y;try clear y;intro h₁ d₁ t₁ B₁ m₁ M₁;refine jG3 ?_;intro e₁ S₁ j₁;exact jJ6 h₁ d₁ t₁ B₁ m₁ M₁ (jH4 e₁ S₁ (l.trans (e.2.1▸S₁.up)) j₁)
   | brk=>refine jI6 ?_ y;try clear y;intro _ _ _ _ _ _;refine jG3 ?_;intro _ _ x;exact x.elim
   | ret v=>refine jI6 ?_ y;try clear y;intro _ _ _ _ _ _;refine jG3 ?_;intro _ _ x;exact x.elim) fun _ _ x=>x) fun _ _ x=>x)
  (fun h d t B' m' M' S' j=>fin h d t B' m' M' S' (j.elim (·.1) False.elim) (j.elim (·.2) False.elim)) (fun _ _ _ _ _ _ _ _ x=>x.elim) ht
end
section
variable {w:jS}{A:jV}{C:Cx}{m mg mb:kJ→Option jL}{B:Base}{M:List (jQ×kK)}
 {h:kI} {g:Array jX} {d:kU} {t:Nat} {os:jU} {env:Env} {Q:jL→jP→Prop} {E:jL→jP→Prop}
theorem dY {x:kJ}{pos:kW}{v:jL}(S:St C B h m M)(hE:aP C env)(G:Gr w mg mb B)(hv:glob w.params x=some v)(k:Q v ⟨h,g,d,t,os⟩)
  (hx:autoParam (env.kindOf x=some .globalImplicit) tR) (hd:autoParam ((x==("__debug__":kJ))=false) tD):
  jN (jM PW w) A (eval (.Name x pos) env) Q E ⟨h,g,d,t,os⟩:=e_glob S hE G ((G.gl S.b x).trans hv) k hx hd
theorem cM {x:kJ}{pos:kW}{v:jL}(S:St C B h m M)(hE:aP C env)(G:Gr w mg mb B)(hg:glob w.params x=none)(hb:bootBuiltins x=some v)(k:Q v ⟨h,g,d,t,os⟩)
  (hn:autoParam (x≠"__name__") tD) (hx:autoParam (env.kindOf x=some .globalImplicit) tR) (hd:autoParam ((x==("__debug__":kJ))=false) tD):
  jN (jM PW w) A (eval (.Name x pos) env) Q E ⟨h,g,d,t,os⟩:=e_blt S hE G ((G.gl S.b x).trans hg) ((G.bl x hn).trans hb) k hx hd
end
theorem glob_block (P:jT):glob P "_law_block"=some (.ref 311):=by kernel_rfl!
theorem cJ (P:jT):glob P "len"=none:=by kernel_rfl!
theorem eV (P:jT):glob P "bytes"=none:=by kernel_rfl!
theorem glob_bytearray (P:jT):glob P "bytearray"=none:=by kernel_rfl!
theorem glob_bool (P:jT):glob P "bool"=none:=by kernel_rfl!
theorem glob_int (P:jT):glob P "int"=none:=by kernel_rfl!
theorem gP (P:jT):glob P "type"=none:=by kernel_rfl!
theorem glob_list (P:jT):glob P "list"=none:=by kernel_rfl!
theorem eU (P:jT):glob P "tuple"=none:=by kernel_rfl!
theorem glob_map (P:jT):glob P "map"=none:=by kernel_rfl!
theorem glob_set (P:jT):glob P "set"=none:=by kernel_rfl!
theorem iV (P:jT):glob P "enumerate"=none:=by kernel_rfl!
theorem glob_str (P:jT):glob P "str"=none:=by kernel_rfl!
theorem fE (P:jT):glob P "_law_places"=some (.ref 316):=by kernel_rfl!
theorem gD (P:jT):glob P "_law_written"=some (.ref 304):=by kernel_rfl!
theorem glob_due (P:jT):glob P "_law_due"=some (.ref 323):=by kernel_rfl!
theorem glob_told (P:jT):glob P "_law_told"=some (.ref 328):=by kernel_rfl!
theorem glob_times (P:jT):glob P "_law_times"=some (.ref 333):=by kernel_rfl!
theorem glob_sm (P:jT):glob P "SequenceMatcher"=some (.ref 242):=by kernel_rfl!
theorem iU (P:jT):glob P "Match"=some (.ref 135):=by kernel_rfl!
theorem glob_b16 (P:jT):glob P "b16encode"=some (.ref 292):=by kernel_rfl!
theorem glob_b64 (P:jT):glob P "b64encode"=some (.ref 285):=by kernel_rfl!
theorem glob_b2a64 (P:jT):glob P "b2a_base64"=some (.ref 268):=by kernel_rfl!
theorem glob_hex (P:jT):glob P "hexlify"=some (.ref 277):=by kernel_rfl!
theorem hN (P:jT):glob P "_buffer"=some (.ref 253):=by kernel_rfl!
theorem glob_truth (P:jT):glob P "_truth"=some (.ref 260):=by kernel_rfl!
theorem glob_nosep (P:jT):glob P "_NO_SEP"=some (.ref 269):=by kernel_rfl!
section
variable {w:jS}{A:jV}{C:Cx}{m mg mb:kJ→Option jL}{B:Base}{M:List (jQ×kK)}
 {h:kI} {g:Array jX} {d:kU} {t:Nat} {os:jU} {env:Env} {Q:jL→jP→Prop} {QF:kS→jP→Prop} {E:jL→jP→Prop}
theorem fB {elts:List Expr}{k:Nat}{tpos pos:kW}{value:Expr}{rest:List jW}
  (kk:jN (jM PW w) A (eval value env) (fun v s₁=>jN (jM PW w) A (assign (.Tuple elts k tpos) env v) (fun _ s₂=>jN (jM PW w) A (kO rest env) QF E s₂) E s₁) E ⟨h,g,d,t,os⟩)
  (hs:autoParam (swapsWithSole [.Tuple elts k tpos] value pos.line env=pure false) tR)
  (hw:autoParam (swappedStores [.Tuple elts k tpos] value env=pure none) tR):
  jN (jM PW w) A (kO (.Assign [.Tuple elts k tpos] value pos::rest) env) QF E ⟨h,g,d,t,os⟩:=wpAny_execs_cons (Assign_Tuple kk hs hw)
theorem c_le {a b:Int}{u v:Tok}(k:Q (.bool (decide (a≤b))) ⟨h,g,d,t,os⟩):jN (jM PW w) A (compareOp .LtE (.int a u) (.int b v)) Q E ⟨h,g,d,t,os⟩:=PyProof.Rows.le_int k
theorem c_ge {a b:Int}{u v:Tok}(k:Q (.bool (decide (b≤a))) ⟨h,g,d,t,os⟩):jN (jM PW w) A (compareOp .GtE (.int a u) (.int b v)) Q E ⟨h,g,d,t,os⟩:=PyProof.Rows.ge_int k
end
section
inductive F2 {α β:Type}(R:α→β→Prop):List α→List β→Prop
 | nil:F2 R [] []
 | cons {a b as bs}:R a b→F2 R as bs→F2 R (a::as) (b::bs)
namespace F2
variable {α β γ:Type}{R R':α→β→Prop}
theorem length {as:List α}{bs:List β}(h:F2 R as bs):as.length=bs.length:=by
 induction h with
 | nil=>rfl
 | cons _ _ ih=>simp[ih]
theorem append {as cs:List α}{bs ds:List β}(h:F2 R as bs)(k:F2 R cs ds):F2 R (as++cs) (bs++ds):=by
 induction h with
 | nil=>exact k
 | cons x _ ih=>exact .cons x ih
theorem mono {as:List α}{bs:List β}(h:F2 R as bs)(i:∀a b,R a b→R' a b):F2 R' as bs:=by
 induction h with
 | nil=>exact .nil
 | cons x _ ih=>exact .cons (i _ _ x) ih
theorem get {as:List α}{bs:List β}(h:F2 R as bs):∀{i:Nat} {a:α},as[i]? =some a→∃b,bs[i]? =some b∧R a b:=by
 induction h with
 | nil=>intro i a e;simp at e
 | cons x _ ih=>
  intro i a e
  cases i with
  | zero=>simp at e;subst e;exact⟨_,⟨rfl,x⟩⟩
  | succ i=>simpa using ih (by simpa using e)
theorem get' {as:List α}{bs:List β}(h:F2 R as bs):∀{i:Nat} {b:β},bs[i]? =some b→∃a,as[i]? =some a∧R a b:=by
 induction h with
 | nil=>intro i a e;simp at e
 | cons x _ ih=>
  intro i a e
  cases i with
  | zero=>simp at e;subst e;exact⟨_,⟨rfl,x⟩⟩
  | succ i=>simpa using ih (by simpa using e)
theorem of_get:∀{as:List α} {bs:List β},as.length=bs.length→(∀(i:Nat) a b,as[i]? =some a→bs[i]? =some b→R a b)→F2 R as bs
 | [],[],_,_=>.nil
 | a::as,b::bs,e,h=>.cons (h 0 a b rfl rfl) (of_get (by simpa using e) fun i x y hx hy=>h (i+1) x y (by simpa using hx) (by simpa using hy))
 | [],_::_,e,_=>by simp at e
 | _::_,[],e,_=>by simp at e
theorem one {a:α}{b:β}(h:R a b):F2 R [a] [b]:=.cons h .nil
theorem snoc {as:List α}{bs:List β}{a:α}{b:β}(h:F2 R as bs)(k:R a b):F2 R (as++[a]) (bs++[b]):=h.append (one k)
theorem unsnoc {as:List α}{bs:List β}{b:β}(h:F2 R as (bs++[b])):∃as' a,as=as'++[a]∧F2 R as' bs∧R a b:=by
 induction bs generalizing as with
 | nil=>cases h with | cons x r=>cases r;exact jJ2 [] _ (jH3 rfl .nil x)
 | cons c bs ih=>cases h with | cons x r=>refine jI2 ?_ (ih r);intro as' a;refine jG3 ?_;intro e h1 h2;exact jJ2 (_::as') a (jH3 (by rw[e];rfl) (.cons x h1) h2)
end F2
theorem ints_get {vs:List jL}{ns:List Int}(h:IntsAre vs ns):F2 (fun v n=>∃t,v=.int n t) vs ns:=by
 induction h with
 | nil=>exact .nil
 | cons n t _ ih=>exact .cons ⟨t,rfl⟩ ih
theorem get_ints {vs:List jL}{ns:List Int}(h:F2 (fun v n=>∃t,v=.int n t) vs ns):IntsAre vs ns:=by
 induction h with
 | nil=>exact .nil
 | cons x _ ih=>obtain⟨t,rfl⟩:=x;exact .cons _ t ih
structure Room (A:jV)(k:Nat):Prop where
 d:A.depth+k<recursionLimit
 u:A.units+3*k+200<cLine
 h:A.handled=none
theorem Room.deeper {A:jV}{k:Nat}{env:Env}(r:Room A (k+1)):Room (A.deeper env) k:=⟨by have:=r.d;show A.depth+1+k<_;lia,by have:=r.u;show A.units+3+3*k+200<_;lia,r.h⟩
theorem Room.le {A:jV}{k j:Nat}(r:Room A k)(h:j≤k):Room A j:=⟨by have:=r.d;lia,by have:=r.u;lia,r.h⟩
theorem Room.d' {A:jV}{k:Nat}(r:Room A k):A.depth<recursionLimit:=by have:=r.d;lia
theorem Room.u' {A:jV}{k:Nat}(r:Room A k):A.units+64<cLine:=by have:=r.u;lia
noncomputable def Bl (B:Base)(v:jL)(c:Nat×Nat×Nat):Prop:=∃a x1 x2 x3,v=.ref a∧Tup B a [.int c.1 x1,.int c.2.1 x2,.int c.2.2 x3]
noncomputable def Pr (B:Base)(v:jL)(c:Nat×Nat):Prop:=∃a x1 x2,v=.ref a∧Tup B a [.int c.1 x1,.int c.2 x2]
noncomputable def dE {α:Type}(R:Base→jL→α→Prop)(B:Base)(v:jL)(xs:List α):Prop:=∃a vs,v=.ref a∧Lst B a vs∧F2 (R B) vs xs
theorem Bl.le {B B':Base}{v:jL}{c:Nat×Nat×Nat}(x:Bl B v c)(l:Le B B'):Bl B' v c:=jI4 (fun a x1 x2 x3=>jG2 fun e t=>(jJ4 a x1 x2 x3 ⟨e,t.le l⟩)) x
theorem Pr.le {B B':Base}{v:jL}{c:Nat×Nat}(x:Pr B v c)(l:Le B B'):Pr B' v c:=jI3 (fun a x1 x2=>jG2 fun e t=>(jJ3 a x1 x2 ⟨e,t.le l⟩)) x
theorem bE {B B':Base}{vs:List jL}{xs:List (Nat×Nat×Nat)}(h:F2 (Bl B) vs xs)(l:Le B B'):F2 (Bl B') vs xs:=h.mono fun _ _ x=>x.le l
theorem bN {B B':Base}{vs:List jL}{xs:List (Nat×Nat)}(h:F2 (Pr B) vs xs)(l:Le B B'):F2 (Pr B') vs xs:=h.mono fun _ _ x=>x.le l
section
variable {w:jS}{A:jV}{C:Cx}{mg mb:kJ→Option jL}{B:Base}{M:List (jQ×kK)}{L:List (kJ×jL)}
 {h:kI} {g:Array jX} {d:kU} {t:Nat} {os:jU} {env:Env} {Q:jL→jP→Prop} {QF:kS→jP→Prop} {QB:Bool→jP→Prop} {QU:Unit→jP→Prop} {E:jL→jP→Prop}
inductive gV (f:kJ→Option jL):List (kJ×jL)→Prop
 | nil:gV f []
 | cons {x v r}:f x=some v→gV f r→gV f ((x,v)::r)
theorem St.fewf {m:kJ→Option jL}{L':List (kJ×jL)}(S:St C B h m M)(f:gV m L'):St C B h (vars L') M:=S.weak fun y u e=>by
 unfold vars at e
 induction f with
 | nil=>cases e
 | @cons x v r hx _ ih=>
  rw[nJ] at e
  by_cases q:y=x
  ·rw[q,beq_self_eq_true] at e;cases e;rw[q];exact hx
  ·rw[beq_eq_false_iff_ne.2 q] at e;exact ih e
theorem l_cel {m:kJ→Option jL}{x:kJ}{v:jL}{c:jQ}{o:kK}(S:St C B h m M)(hE:aP C env)(hm:(c,o)∈M)(ho:o.data=.cell (some v))(k:Q v ⟨h,g,d,t,os⟩)
  (hc:autoParam (env.cells.lookup x=some c) tR) (hx:autoParam (env.kindOf x=some .cell) tR):jN (jM PW w) A (loadName env x) Q E ⟨h,g,d,t,os⟩:=
 wpAny_loadName_cell hE.k hx hc ⟨o,(S.m _ hm).1,ho⟩ k
theorem e_cel {m:kJ→Option jL}{x:kJ}{pos:kW}{v:jL}{c:jQ}{o:kK}(S:St C B h m M)(hE:aP C env)(hm:(c,o)∈M)(ho:o.data=.cell (some v))(k:Q v ⟨h,g,d,t,os⟩)
  (hc:autoParam (env.cells.lookup x=some c) tR) (hx:autoParam (env.kindOf x=some .cell) tR) (hd:autoParam ((x==("__debug__":kJ))=false) tD):
  jN (jM PW w) A (eval (.Name x pos) env) Q E ⟨h,g,d,t,os⟩:=wpAny_Name (l_cel S hE hm ho k hc hx) hd
theorem e_celD {m:kJ→Option jL}{x:kJ}{pos:kW}{v:jL}{c:jQ}{o:kK}(S:St C B h m M)(hE:aP C env)(hk:C.D c∧C.H c=some o)(ho:o.data=.cell (some v))(k:Q v ⟨h,g,d,t,os⟩)
  (hc:autoParam (env.cells.lookup x=some c) tR) (hx:autoParam (env.kindOf x=some .cell) tR) (hd:autoParam ((x==("__debug__":kJ))=false) tD):
  jN (jM PW w) A (eval (.Name x pos) env) Q E ⟨h,g,d,t,os⟩:=
 wpAny_Name (wpAny_loadName_cell hE.k hx hc ⟨o,S.fr _ _ hk.1 hk.2,ho⟩ k) hd
theorem e_free {m:kJ→Option jL}{x:kJ}{pos:kW}{v:jL}{c:jQ}{o:kK}(S:St C B h m M)(hE:aP C env)(hb:B c=some o)(ho:o.data=.cell (some v))(k:Q v ⟨h,g,d,t,os⟩)
  (hc:autoParam (env.cells.lookup x=some c) tR) (hx:autoParam (env.kindOf x=some .free) tR) (hn:autoParam ((x==("__classdict__":kJ))=false) tD) (hd:autoParam ((x==("__debug__":kJ))=false) tD):
  jN (jM PW w) A (eval (.Name x pos) env) Q E ⟨h,g,d,t,os⟩:=
 wpAny_Name (wpAny_loadName_free hE.k hx hc ⟨o,S.b _ _ hb,ho⟩ k hn) hd
theorem s_cel {m:kJ→Option jL}{M₁ M₂:List (jQ×kK)}{x:kJ}{v:jL}{v₀:Option jL}{c:jQ}{o:kK}(S:St C B h m (M₁++(c,o)::M₂))(hE:aP C env)(ho:o.data=.cell v₀)
  (k:∀h' o',o'.data=.cell (some v)→St C B h' m (M₁++(c,o')::M₂)→QU () ⟨h',g,d,t,os⟩)
  (hc:autoParam (env.cells.lookup x=some c) tR) (hx:autoParam (env.kindOf x=some .cell) tR):
  jN (jM PW w) A (storeName env x v) QU E ⟨h,g,d,t,os⟩:=
 wpAny_storeName_cell hE.k hx hc ⟨o,(S.m (c,o) (lJ _ (kZ ..))).1,ho⟩ fun h' hc' hs=>jI1 (fun o'=>jG2 fun e d'=>k h' o' d' (S.chg hs e)) hc'
theorem l_add {m:kJ→Option jL}{a b:jQ}{va vb:List jL}(S:St C B h m M)(ha:Lst B a va)(hb:Lst B b vb)(hsz:va.length+vb.length≤kC)
  (k:∀h' r B',Le B B'→Lst B' r (va++vb)→St C B' h' m M→Q (.ref r) ⟨h',g,d,t,os⟩):
  jN (jM PW w) A (binaryOp .Add (.ref a) (.ref b)) Q E ⟨h,g,d,t,os⟩:=by
 obtain⟨n,ea⟩:=ha
 obtain⟨n',eb⟩:=hb
 refine P.add_list (S.b _ _ ea) (S.b _ _ eb) (k _ _ _ (aV _ S.freshB) ⟨0,?_⟩ (S.froz _ rfl)) (by rw[lY,lY];exact hsz)
 rw[aM]
 simp
end
section
variable {w:jS}{A:jV}{s:jP}{mg mb:kJ→Option jL}{B:Base}
theorem gZ {α:Type}{l:List (kJ×α)}{x:kJ}(h:x∈l.map (·.1)):(l.lookup x).isSome=true:=by
 induction l with
 | nil=>cases h
 | cons y r ih=>
  rw[nJ]
  cases q:x==y.1 with
  | true=>rfl
  | false=>
   rcases lH.1 (by rwa [mD] at h) with e | e
   ·rw[e,beq_self_eq_true] at q;cases q
   ·exact ih e
inductive eZ (f:kJ→Option jL):List (kJ×Option jL)→Prop
 | nil:eZ f []
 | cons {x v r}:f x=v→eZ f r→eZ f ((x,v)::r)
theorem eZ.all {f:kJ→Option jL}{l:List (kJ×Option jL)}(h:eZ f l):∀x∈l,f x.1=x.2:=by
 induction h with
 | nil=>intro x hx;cases hx
 | cons e _ ih=>
  intro x hx
  rcases lH.1 hx with rfl | hx
  ·exact e
  ·exact ih x hx
theorem callFC {f:jQ}{o:kK}{nm qual:kJ}{params:Arguments}{body:List jW}{scope:Scope}{dV kV doc pm cdv ct:jL}{an:Option jQ}{args:List jL}{binds:List (kJ×jL)}{Q:jL→Base→Prop}
  (Lm:List (kJ×jL)) (cm:List (kJ×Option jL)) {ps:List kJ}
  (G:Gr w mg mb B) (hB:∀a o,B a=some o→s.heap.get? a=some o) (hroom:A.depth<recursionLimit) (ho:(KF w.params).lookup f=some o) (hdata:o.data=.func (fnOf nm qual params body scope dV kV doc pm an cdv ct))
  (hcd:codeIn (KF w.params) cdv qual=true) (hbind:bindArgs (fnOf nm qual params body scope dV kV doc pm an cdv ct) ⟨args,[]⟩=pure binds)
  (hps:binds.map (·.1)=ps) (hkind:∀x∈ps,scope.names.lookup x=some .local∨(scope.names.lookup x=some .cell∧x∈cm.map (·.1)))
  (hm:gV (bindL (fun x=>scope.names.lookup x) binds fun _=>none) Lm)
  (hcm:∀c,(cellsFrom c scope.names []).map (·.1)=cm.map (·.1)) (hcv':eZ (bindC (fun x=>scope.names.lookup x) binds (fun _=>none)) cm)
  (hnd:(cm.map (·.1)).Nodup)
  (hco:scope.isCoroutine=false) (hgen:scope.isGenerator=false) (hk:scope.kind=.function)
  (k:∀C h₁ t (oc:kJ→kK),C.B₀=B→C.n₀=s.heap.objs.size→(∀x∈cm,(oc x.1).data=.cell x.2)→St C B h₁ (vars Lm) ((cellsFrom (C.L+1) scope.names []).map fun x=>(x.2,oc x.1))→C.H=(fun a=>s.heap.get? a)→((∀a,a<C.n₀→C.D a)∧∀a,¬C.W a)→
   jN (jM PW w) (A.deeper (envX qual scope C.L f cdv (cellsFrom (C.L+1) scope.names []))) (kO body (envX qual scope C.L f cdv (cellsFrom (C.L+1) scope.names [])))
    (fun fl s'=>Ends B s Q (match fl with | .ret v=>v | _=>.none) s') no ⟨h₁,s.gens,s.drawn,t,s.os⟩):
  jN (jM PW w) A (call (.ref f) args) (Ends B s Q) no s:=by
 injection G hB hroom ho hdata hcd hbind hps hkind hm hcm hcv' hnd hco hgen hk k with w A s mg mb B f o nm qual params body scope dV kV doc pm cdv ct an args binds Q Lm cm ps
 refine wpAny_call (codeAny_call_cells hroom (hB _ _ (G.K _ _ ho)) hdata (G.lim _ hB) (codeRec_of (G.at hB) hcd) rfl hbind rfl (fun x hx=>(hkind x.1 (hps▸mF hx)).imp id fun y=>⟨y.1,gZ (by rw[hcm];exact y.2)⟩) (fun s₁ X=>?_) hco hgen hk)
 refine jI2 ?_ X.toInCall.same;intro h₁ tk;intro zz1;obtain rfl:=zz1
 have hcv:=hcv'.all
 have oc:∀n,∃o:kK,∀c,(cellsFrom (s.heap.objs.size+1) scope.names []).lookup n=some c→h₁.get? c=some o∧o.data=.cell (bindC (fun x=>scope.names.lookup x) binds (fun _=>none) n):=fun n=>by
  cases q:(cellsFrom (s.heap.objs.size+1) scope.names []).lookup n with
  | none=>exact⟨⟨.none,none,.plain,#[]⟩,fun c e=>by cases e⟩
  | some c=>refine jI1 ?_ (X.cell n c q);intro o;refine jG2 ?_;intro e1 e2;exact⟨o,fun c' e=>by cases e;exact⟨e1,e2⟩⟩
 let oc':kJ→kK:=fun n=>(oc n).choose
 have ocs:=fun n=>(oc n).choose_spec
 have look:∀{cs:List (kJ×jQ)},(cs.map (·.1)).Nodup→∀x∈cs,cs.lookup x.1=some x.2:=by
  intro cs hn
  induction cs with
  | nil=>intro x hx;cases hx
  | cons y r ih=>
   intro x hx
   rw[mD,nW] at hn
   rw[nJ]
   rcases lH.1 hx with rfl | hx
   ·rw[beq_self_eq_true]
   ·have:(x.1==y.1)=false:=beq_eq_false_iff_ne.2 fun e=>hn.1 (e▸mF hx)
    rw[this];exact ih hn.2 x hx
 have hnd':((cellsFrom (s.heap.objs.size+1) scope.names []).map (·.1)).Nodup:=by rw[hcm];exact hnd
 have ns:h₁.Ns s.heap.objs.size _:=X.toInCall.ns
 have S:St ⟨s.heap.objs.size,fun a=>a<s.heap.objs.size,fun a=>s.heap.get? a,fun a=>a=s.heap.objs.size,s.heap.objs.size,B,s.heap.objs.size,fun _=>False⟩ B h₁ (bindL (fun x=>scope.names.lookup x) binds fun _=>none) ((cellsFrom (s.heap.objs.size+1) scope.names []).map fun x=>(x.2,oc' x.1)):={
  ns:=.of ns
  ld:=lO _
  lv:=rfl
  fr:=fun a o _ e=>X.toInCall.keep a o e
  b:=fun a o e=>X.toInCall.keep a o (hB a o e)
  v:=fun a e=>⟨by
   subst e
   cases q:B s.heap.objs.size with
   | none=>rfl
   | some o=>exact absurd (lM (hB _ _ q)) (lO _),mB e⟩
  d:=fun a hl=>lL hl
  tp:=.inl rfl
  m:=fun p hp=>by
   refine jI1 ?_ (mC.1 hp);intro x;refine jG2 ?_;intro hx zz2;obtain rfl:=zz2
   have:=ocs x.1 x.2 (look hnd' x hx)
   have ab:s.heap.objs.size<x.2:=X.above x.1 x.2 hx
   exact jH4 this.1 (fun q=>pN ab q) (fun q=>absurd q (pW ab)) (by
    cases q:B x.2 with
    | none=>rfl
    | some o=>exact absurd (lM (hB _ _ q)) (pN ab))
  nd:=by
   rw[nP]
   have:(Prod.fst ∘ fun x:kJ×jQ=>(x.2,oc' x.1))=Prod.snd:=rfl
   rw[this,List.nodup_iff_pairwise_ne,qN]
   exact X.apart
  nl:=lE _
  ow:=fun p hp=>by
   refine jI1 ?_ (mC.1 hp);intro x;refine jG2 ?_;intro hx zz3;obtain rfl:=zz3
   exact .inl (lL (X.above x.1 x.2 hx))
  new:=fun a o e _=>e
  up:=Le.refl _}
 refine jR (k ⟨s.heap.objs.size,fun a=>a<s.heap.objs.size,fun a=>s.heap.get? a,fun a=>a=s.heap.objs.size,s.heap.objs.size,B,s.heap.objs.size,fun _=>False⟩ h₁ _ oc' rfl rfl (fun x hx=>?_) (S.fewf hm) rfl ⟨fun _ x=>x,fun _ x=>x⟩) (fun _ _ x=>x) fun _ _ x=>x.elim
 have:x.1∈(cellsFrom (s.heap.objs.size+1) scope.names []).map (·.1):=by rw[hcm];exact mF hx
 refine jI1 ?_ (mC.1 this);intro y;refine jG2 ?_;intro hy e
 have:=(ocs y.1 y.2 (look hnd' y hy)).2
 rw[e] at this
 exact this.trans (congrArg Data.cell (hcv x hx))
end
end
section
variable {w:jS}{A:jV}{C:Cx}{m mg mb:kJ→Option jL}{B:Base}{M:List (jQ×kK)}
 {h:kI} {g:Array jX} {d:kU} {t:Nat} {os:jU} {env:Env} {Q:jL→jP→Prop} {QF:kS→jP→Prop} {QB:Bool→jP→Prop} {QP:jL×List jL→jP→Prop} {E:jL→jP→Prop}
theorem gQ {target:Expr}{body rest:List jW}{I T:jQ}{fp wr:List jQ}{n:Nat}{P Md:Nat→jL→kI→Prop}{Z:Nat→kI→Prop}(W:KTurns PW w A target I fp wr n P Md Z)
  (S:St C B h m M) (F:Fits C fp wr T) (live:∀i h,Z i h→∀b∈fp,∃o,h.get? b=some o) (hM:∀p∈M,p.1∉fp) (hB:∀b∈wr,B b=none) (z0:Z 0 h)
  (J:Nat→Inv) (K:Inv) (Rt:jL→Inv) (h0:J 0 B m M)
  (turn:∀i v C' B' h' m' M' d t,i<n→P i v h'→J i B' m' M'→St C' B' h' m' M'→C'.L=C.L∧C'.B₀=B'∧C'.W=C.W→Le B B'→
   jN (jM PW w) A (assign target env v) (fun _ s₂=>jN (jM PW w) A (kO body env) (Turn C' g os (J (i+1)) K Rt) no s₂) no ⟨h',g,d,t,os⟩)
  (fin:∀h d t B' m' M',St C B' h m' M'→Le B B'→(J n B' m' M'∨K B' m' M')→jN (jM PW w) A (kO rest env) QF no ⟨h,g,d,t,os⟩)
  (ret:∀v h d t B' m' M',St C B' h m' M'→Le B B'→Rt v B' m' M'→QF (.ret v) ⟨h,g,d,t,os⟩):
  kN (jM PW w) A (.forLoop target (.ref I) body [] env) (fun r s'=>match r with | .ok fl=>After w A env rest QF fl s' | .error _=>False) ⟨h,g,d,t,os⟩:=by
 injection W S F live hM hB z0 h0 turn fin ret with w A C m B M h g d t os env QF target body rest I T fp wr n P Md Z J K Rt
 have hLw:C.L∉wr:=fun q=>F.L (F.sub _ q)
 refine codeAny_forLoop_any (fun k s=>∃i h' d' t' B' m' M',k=n+1-i∧i≤n∧s=⟨h',g,d',t',os⟩∧St C B' h' m' M'∧Z i h'∧(∀p∈M',p.1∉fp)∧(∀b∈wr,B' b=none)∧J i B' m' M'∧C.top<h'.objs.size∧Le B B') ?_ (n+1)
  (jJ7 0 h d t B m M (jH10 rfl (lC _) rfl S z0 hM hB h0 S.tlt (Le.refl _)))
 intro k s;refine jI7 ?_;intro i h' d' t' B' m' M';refine jG10 ?_;intro zz1 hi zz2 S' z hM' hB' hJ _ hle;obtain rfl:=zz1;obtain rfl:=zz2
 rename_i yy0;clear yy0;injection hi S' z hM' hB' hJ hle with i h' d' t' B' m' M'
 have hMw:∀p∈M',p.1∉wr:=fun p hp q=>hM' p hp (F.sub _ q)
 by_cases hlt:i<n
 ·refine W.item i _ _ _ hlt z fun v h₀ tk₁ hMd k₀=>?_
  refine W.go i v _ _ _ hMd fun h₁ hP z₁ k₁=>?_
  have S₁:St C B' h₁ m' M':=S'.turn (fun b o hb e=>k₁ b o hb (k₀ b o hb e)) hLw hMw hB' F.wD
  have S₂:=S₁.inn F (live _ _ z₁) hM' hB'
  refine jR (turn i v _ B' h₁ m' M' d' tk₁ hlt hP hJ S₂ (jH3 rfl rfl rfl) hle) (fun _ s₂ x=>jR x (fun fl s₃ y=>?_) fun _ _ x=>x.elim) fun _ _ x=>x.elim
  have next:(∃h' d' t' Bx m' M',s₃=⟨h',g,d',t',os⟩∧St (C.into fp wr T h₁ B') Bx h' m' M'∧J (i+1) Bx m' M')→
    ∃m,m<n+1-i∧∃i h' d' t' B' m' M',m=n+1-i∧i≤n∧s₃=⟨h',g,d',t',os⟩∧St C B' h' m' M'∧Z i h'∧(∀p∈M',p.1∉fp)∧(∀b∈wr,B' b=none)∧J i B' m' M'∧C.top<h'.objs.size∧Le B B':=by
   refine jI6 ?_;intro h₃ d₃ t₃ B₃ m₃ M₃;refine jG3 ?_;intro e S₃ j₃
   exact⟨n+1-(i+1),⟨by exact ar_1 (mZ hlt),jJ7 (i+1) h₃ d₃ t₃ B₃ m₃ M₃ (jH10 rfl hlt e (S₃.outt S₁) (W.frame _ _ _ z₁ fun b hb o e=>S₃.fr b o (.inl hb) (by simpa[Cx.into,hb] using e)) (fun p hp q=>(S₃.m p hp).2.1 (.inl q)) (fun b hb=>(S₃.v b (.inl hb)).1) j₃ ((S₃.outt S₁).tlt) (hle.trans S₃.up))⟩⟩
  cases fl with
  | next=>exact next y
  | cont=>exact next y
  | brk=>refine jI6 ?_ y;try clear y;intro h₃ d₃ t₃ B₃ m₃ M₃;refine jG3 ?_;intro e S₃ j₃;subst e;exact fin _ _ _ _ _ _ (S₃.outt S₁) (hle.trans S₃.up) (.inr j₃)
  | ret v=>refine jI6 ?_ y;try clear y;intro h₃ d₃ t₃ B₃ m₃ M₃;refine jG3 ?_;intro e S₃ j₃;subst e;exact ret _ _ _ _ _ _ _ (S₃.outt S₁) (hle.trans S₃.up) j₃
 ·have hin:i=n:=by lia
  subst hin
  exact W.done _ _ _ z fun h₁ tk₁ k₁=>wpAny_execs_nil (fin _ _ _ _ _ _ (S'.turn k₁ hLw hMw hB' F.wD) hle (.inl hJ))
theorem gR {elts:List Expr}{k:Nat}{tpos:kW}{body rest:List jW}{l:jQ}{items:List jL}(S:St C B h m M)(hl:Lst B l items)(hh:A.handled=none)
  (J:Nat→Inv) (K:Inv) (Rt:jL→Inv) (h0:J 0 B m M)
  (turn:∀i v C' B' h' m' M' d t,items[i]? =some v→J i B' m' M'→St C' B' h' m' M'→C'.L=C.L∧C'.B₀=B'∧C'.W=C.W→Le B B'→
   jN (jM PW w) A (assign (.Tuple elts k tpos) env v) (fun _ s₂=>jN (jM PW w) A (kO body env) (Turn C' g os (J (i+1)) K Rt) no s₂) no ⟨h',g,d,t,os⟩)
  (fin:∀h d t B' m' M',St C B' h m' M'→Le B B'→(J items.length B' m' M'∨K B' m' M')→jN (jM PW w) A (kO rest env) QF no ⟨h,g,d,t,os⟩)
  (ret:∀v h d t B' m' M',St C B' h m' M'→Le B B'→Rt v B' m' M'→QF (.ret v) ⟨h,g,d,t,os⟩):
  fJ w A env (.Tuple elts k tpos) body rest QF (.ref l) ⟨h,g,d,t,os⟩:=by
 injection S hl hh h0 turn fin ret with w A C m B M h g d t os env QF elts k tpos body rest l items J K Rt
 obtain⟨n,e⟩:=id hl
 refine wpAny_pyIter_list (hl.at S) ?_
 have hne:l≠h.objs.size:=lN (S.blt e)
 have T:=S.kp (Kp.push h {cls:=.type "list_iterator",data:=.fields #[.ref l,.int 0 0]})
 refine gQ (KTurns.ofWalks (Walks.list hh h.objs.size l hne items.toArray) fun i v s Q E st hq=>?_) T (iZ S e) (fun i h z b hb=>?_) (iY S e) (fun b hb=>by rw[lA.1 hb];exact S.freshB)
  ⟨⟨_,jH3 (lT _ rfl) rfl rfl⟩,hl.at T⟩ J K Rt h0 (fun i v C' B' h' m' M' d t hi hP j S' e' l=>turn i v C' B' h' m' M' d t (by simpa using hP) j S' e' l) (fun h d t B' m' M' S' l x=>fin h d t B' m' M' S' l (by simpa using x)) ret
 ·cases v with
  | ref T=>exact wpAny_letOwnedTupleGo_listiter st.1 hq
  | _=>exact jO hq
 ·rcases lH.1 hb with q | q
  ·refine jI1 ?_ z.1;intro o;refine jG2 ?_;intro ho _;exact⟨o,q▸ho⟩
  ·refine jI1 ?_ z.2;intro o;refine jG2 ?_;intro ho _;exact⟨o,lA.1 q▸ho⟩
theorem aZ {e:Expr}{pos:kW}{rest:List jW}(k:jN (jM PW w) A (eval e env) (fun _ s₁=>jN (jM PW w) A (kO rest env) QF E s₁) E ⟨h,g,d,t,os⟩)
  (hi:autoParam (interactive env=false) tR) (hs:autoParam (swapsWith e none pos.line env=pure false) tR):
  jN (jM PW w) A (kO (.Expr e pos::rest) env) QF E ⟨h,g,d,t,os⟩:=wpAny_execs_cons (wpAny_Expr_any k hi hs)
theorem aU {o:Expr}{name:kJ}{apos pos:kW}{args:List Expr}{pl:Sem Bool}
  (k:jN (jM PW w) A (eval o env) (fun ov s₁=>jN (jM PW w) A (getMethod ov name pl) (fun fx s₂=>jN (jM PW w) A (callWith pos fx.1 fx.2 (backTo pos (kD args env)) []) Q E s₂) E s₁) E ⟨h,g,d,t,os⟩)
  (he:autoParam (eval (.Call (.Attribute o name apos) args [] pos) env=(do
   let ov ←eval o env
   standAt apos.atName
   let (f,first) ←holding [ov] (getMethod ov name pl)
   callWith pos f first (backTo pos (kD args env)) [])) tR):
  jN (jM PW w) A (eval (.Call (.Attribute o name apos) args [] pos) env) Q E ⟨h,g,d,t,os⟩:=MethodCall_ k he
theorem dI {pos:kW}{id:String}{first:List jL}{e:Expr}{rest:List Expr}
  (k:jN (jM PW w) A (spliced (backTo pos (kD (e::rest) env))) (fun vs s₁=>jN (jM PW w) A (call (.builtin id) (first++vs)) Q E s₁) E ⟨h,g,d,t,os⟩)
  (he:autoParam (kD (e::rest) env=(false,eval e env)::kD rest env) tR)
  (hplain:autoParam ((backTo pos (kD rest env)).any (·.1)=false) tR):
  jN (jM PW w) A (callWith pos (.builtin id) first (backTo pos (kD (e::rest) env)) []) Q E ⟨h,g,d,t,os⟩:=callWith_method1 k he hplain
theorem f_m0 {pos:kW}{id:String}{first:List jL}(k:jN (jM PW w) A (call (.builtin id) first) Q E ⟨h,g,d,t,os⟩):
  jN (jM PW w) A (callWith pos (.builtin id) first (backTo pos (kD [] env)) []) Q E ⟨h,g,d,t,os⟩:=callWith_method0 k
theorem eI {a:jQ}{vs:List jL}{n:Nat}(S:St C B h m M)(hm:(a,lstO vs n)∈M):h.IsList a vs.toArray:=⟨_,jH3 ((S.m _ hm).1) rfl ⟨n,rfl⟩⟩
theorem own_nd {a:jQ}{vs:List jL}{n:Nat}(S:St C B h m M)(hm:(a,lstO vs n)∈M):h.NoDictAt (.ref a):=by
 have:=(S.m _ hm).1
 unfold Heap.NoDictAt
 first | (exact⟨_,this,rfl⟩) | (dsimp only;exact⟨_,this,rfl⟩) | simp[this]
theorem cA {a:jQ}{vs:List jL}{n:Nat}{pl:Sem Bool}(S:St C B h m M)(hm:(a,lstO vs n)∈M)(k:QP (.builtin "list.append",[.ref a]) ⟨h,g,d,t,os⟩):
  jN (jM PW w) A (getMethod (.ref a) "append" pl) QP E ⟨h,g,d,t,os⟩:=getMethod_list_of PySem.F.slot_list_append PySem.F.type_list_append (eI S hm) (own_nd S hm) k
theorem gm_pop {a:jQ}{vs:List jL}{n:Nat}{pl:Sem Bool}(S:St C B h m M)(hm:(a,lstO vs n)∈M)(k:QP (.builtin "list.pop",[.ref a]) ⟨h,g,d,t,os⟩):
  jN (jM PW w) A (getMethod (.ref a) "pop" pl) QP E ⟨h,g,d,t,os⟩:=getMethod_list_of PySem.F.slot_list_pop PySem.F.type_list_pop (eI S hm) (own_nd S hm) k
theorem l_pop {M₁ M₂:List (jQ×kK)}{a:jQ}{vs:List jL}{n:Nat}{x:jL}(S:St C B h m (M₁++(a,lstO (vs++[x]) n)::M₂))(hsz:(vs++[x]).length≤kC)
  (k:∀h' n',St C B h' m (M₁++(a,lstO vs n')::M₂)→Q x ⟨h',g,d,t,os⟩):
  jN (jM PW w) A (call (.builtin "list.pop") [.ref a]) Q E ⟨h,g,d,t,os⟩:=by
 have hl:=(S.m (a,lstO (vs++[x]) n) (lJ _ (kZ ..))).1
 refine call_meets PySem.F.slot_list_pop ⟨_,hl,rfl⟩ PySem.F.entry_list_pop (PySem.F.args_list_pop_1 _) (MeetsSeq.list_pop_last a (vs++[x]).toArray n x (by simp) (by rw[lY];exact hsz)) ⟨hl,?_⟩
 have hg:=nZ (Obj.mapSeq fun xs=>xs.eraseIdxIfInBounds ((vs++[x]).toArray.size-1)) hl rfl
 have e:(vs++[x]).toArray.eraseIdxIfInBounds ((vs++[x]).toArray.size-1)=vs.toArray:=by
  apply Array.ext'
  simp[Array.eraseIdxIfInBounds]
  simp[List.eraseIdx_append_of_length_le]
 refine k _ (if(vs.toArray.size==(vs++[x]).toArray.size)=true then n else n+1) (S.chg (Heap.SameBut.update ..) ?_)
 rw[hg]
 exact congrArg some (by simp only[Obj.mapSeq,e])
noncomputable def Rd (B:Base)(v:jL)(x:PyData):Prop:=∀h:kI,(∀a o,B a=some o→h.get? a=some o)→∃as,Reads h v x as
theorem Rd.le {B B':Base}{v:jL}{x:PyData}(r:Rd B v x)(l:Le B B'):Rd B' v x:=fun h k=>r h fun a o e=>k a o (l a o e)
theorem Rd.int (B:Base)(i:Int)(t:Tok):Rd B (.int i t) (.int i):=fun _ _=>⟨_,.int i t⟩
theorem Rd.str (B:Base)(x:kJ)(t:Tok):Rd B (.str x t) (.str x):=fun _ _=>⟨_,.str x t⟩
theorem rd_all {B:Base}{vs:List jL}{xs:List PyData}(r:F2 (Rd B) vs xs){h:kI}(k:∀a o,B a=some o→h.get? a=some o):∃as,ReadsAll h vs xs as:=by
 induction r with
 | nil=>exact⟨_,.nil⟩
 | cons x _ ih=>obtain⟨as,e⟩:=x h k;obtain⟨bs,f⟩:=ih;exact⟨_,.cons e f⟩
theorem Rd.tup {B:Base}{a:jQ}{vs:List jL}{xs:List PyData}(x:Tup B a vs)(r:F2 (Rd B) vs xs):Rd B (.ref a) (.tuple xs):=fun h k=>by
 obtain⟨n,e⟩:=x
 obtain⟨as,q⟩:=rd_all r k
 exact⟨as,.tuple (k _ _ e) rfl rfl (by simpa using q)⟩
theorem Rd.lst {B:Base}{a:jQ}{vs:List jL}{xs:List PyData}(x:Lst B a vs)(r:F2 (Rd B) vs xs):Rd B (.ref a) (.list xs):=fun h k=>by
 obtain⟨n,e⟩:=x
 obtain⟨as,q⟩:=rd_all r k
 exact⟨a::as,.list (k _ _ e) rfl rfl (by simpa using q)⟩
theorem rd_own {a:jQ}{vs:List jL}{n:Nat}{xs:List PyData}(S:St C B h m M)(hm:(a,lstO vs n)∈M)(r:F2 (Rd B) vs xs):∃as,Reads h (.ref a) (.list xs) as:=by
 obtain⟨as,q⟩:=rd_all r S.b
 exact⟨a::as,.list (S.m _ hm).1 rfl rfl (by simpa using q)⟩
theorem c_eqD {a b:jL}{x y:PyData}(ra:∃as,Reads h a x as)(rb:∃bs,Reads h b y bs)(hx:SeqAt.shaped x=true)(hy:SeqAt.shaped y=true)(hu:A.units+64<cLine)(k:Q (.bool (oT x y)) ⟨h,g,d,t,os⟩):
  jN (jM PW w) A (compareOp .Eq a b) Q E ⟨h,g,d,t,os⟩:=jI1 (fun _ ra=>jI1 (fun _ rb=>eq_dataH (s:=⟨h,g,d,t,os⟩) ra rb hx hy hu k) rb) ra
theorem c_neD {a b:jL}{x y:PyData}(ra:∃as,Reads h a x as)(rb:∃bs,Reads h b y bs)(hx:SeqAt.shaped x=true)(hy:SeqAt.shaped y=true)(hu:A.units+64<cLine)(k:Q (.bool (!oT x y)) ⟨h,g,d,t,os⟩):
  jN (jM PW w) A (compareOp .NotEq a b) Q E ⟨h,g,d,t,os⟩:=jI1 (fun _ ra=>jI1 (fun _ rb=>ne_dataH (s:=⟨h,g,d,t,os⟩) ra rb hx hy hu k) rb) ra
end
section
variable {w:jS}{A:jV}{C:Cx}{m mg mb:kJ→Option jL}{B:Base}{M:List (jQ×kK)}
 {h:kI} {g:Array jX} {d:kU} {t:Nat} {os:jU} {env:Env} {Q:jL→jP→Prop} {QF:kS→jP→Prop} {E:jL→jP→Prop}
theorem St.keepL {M₁ M₂:List (jQ×kK)}{a:jQ}{vs:List jL}{n:Nat}(S:St C B h m (M₁++(a,lstO vs n)::M₂))(hw:∀a,¬C.W a):∃B',Le B B'∧Lst B' a vs∧St C B' h m (M₁++M₂):=
 ⟨_,jH3 (aV _ (S.m (a,lstO vs n) (lJ _ (kZ ..))).2.2.2) ⟨n,aM _ _ _⟩ (S.keep (hw _))⟩
theorem n_len {a:jQ}{vs:List jL}(S:St C B h m M)(hl:Lst B a vs)(hf:vs.length≤1000000)(k:∀u t',Q (.int vs.length u) ⟨h,g,d,t',os⟩):
  jN (jM PW w) A (call (.builtin "len") [.ref a]) Q E ⟨h,g,d,t,os⟩:=
 call_len_list (hl.at S) (by rw[lY];lia) (by rw[lY];exact k _ _)
theorem fR {vs:List jL}(S:St C B h m M)(hsz:vs.length≤kC)
  (k:∀h' a,St C B h' m ([]++(a,lstO vs 0)::M)→Q (.ref a) ⟨h',g,d,t,os⟩):
  jN (jM PW w) A (newList vs) Q E ⟨h,g,d,t,os⟩:=mk_own S hsz fun a e S=>k _ a S
end
section
variable {w:jS}{A:jV}{h:kI}{g:Array jX}{d:kU}{t:Nat}{os:jU}{env:Env}{QF:kS→jP→Prop}{Q:jL→jP→Prop}{E:jL→jP→Prop}
theorem x_ifq {test:Expr}{body orelse rest:List jW}{pos:kW}
  (k:jN (jM PW w) A (isTrue test env (eval test env)) (fun b s₂=>(b=true→jN (jM PW w) A (kO body env) (Then w A env rest QF E) E s₂)∧(b=false→jN (jM PW w) A (kO orelse env) (Then w A env rest QF E) E s₂)) E ⟨h,g,d,t,os⟩):
  jN (jM PW w) A (kO (.If test body orelse pos::rest) env) QF E ⟨h,g,d,t,os⟩:=by
 refine x_if (jR k (fun b s' x=>?_) fun _ _ x=>x)
 cases b with
 | true=>exact x.1 rfl
 | false=>exact x.2 rfl
theorem dA {P:kS→jP→Prop}(k:P .next ⟨h,g,d,t,os⟩):jN (jM PW w) A (kO [] env) P E ⟨h,g,d,t,os⟩:=aJ k
end
theorem F2.ne_nil {α β:Type}{R:α→β→Prop}{as:List α}{bs:List β}(h:F2 R as bs)(n:bs≠[]):∃as' a,as=as'++[a]∧F2 R as' bs.dropLast∧R a (bs.getLast n):=by
 have e:=List.dropLast_concat_getLast n
 rw[←e] at h
 refine jI2 ?_ h.unsnoc;intro as' a;refine jG3 ?_;intro e1 h1 h2
 exact jJ2 as' a (jH3 e1 h1 h2)
section
variable {w:jS}{A:jV}{C:Cx}{m mg mb:kJ→Option jL}{B:Base}{M:List (jQ×kK)}
 {h:kI} {g:Array jX} {d:kU} {t:Nat} {os:jU} {env:Env} {QF:kS→jP→Prop} {QL:List jL→jP→Prop} {QU:Unit→jP→Prop} {E:jL→jP→Prop}
theorem eC {elts:List Expr}{k:Nat}{tpos pos:kW}{value:Expr}{rest:List jW}(names:List kJ)
  (kk:jN (jM PW w) A (eval value env) (fun v s₁=>jN (jM PW w) A (unpackItems v names.length none) (fun items s₂=>
   jN (jM PW w) A (assignInOrder (names.reverse.map fun n=>bindName env n) items.reverse) (fun _ s₃=>jN (jM PW w) A (kO rest env) QF E s₃) E s₂) E s₁) E ⟨h,g,d,t,os⟩)
  (hs:autoParam (swapsWithSole [.Tuple elts k tpos] value pos.line env=pure false) tR)
  (hw:autoParam (swappedStores [.Tuple elts k tpos] value env=pure (some names)) tR):
  jN (jM PW w) A (kO (.Assign [.Tuple elts k tpos] value pos::rest) env) QF E ⟨h,g,d,t,os⟩:=wpAny_execs_cons (Assign_Tuple_swapped kk hs hw)
theorem unpk {a:jQ}{vs:List jL}{n:Nat}(S:St C B h m M)(ht:Tup B a vs)(hh:A.handled=none)(hn:n=vs.length)
  (k:∀h',St C B h' m M→QL vs ⟨h',g,d,t,os⟩):jN (jM PW w) A (unpackItems (.ref a) n none) QL E ⟨h,g,d,t,os⟩:=by
 subst hn
 have:=unpackItems_tuple (prog:=PW) (w:=w) (A:=A) (E:=E) (s:=⟨h,g,d,t,os⟩) (Q:=QL) hh (ht.is S) fun h' e=>by
  have:=k h' (S.kp (Kp.ext e))
  simpa using this
 simpa using this
theorem bnd {x:kJ}{v:jL}(k:jN (jM PW w) A (storeName env x v) QU E ⟨h,g,d,t,os⟩):jN (jM PW w) A (bindName env x v) QU E ⟨h,g,d,t,os⟩:=wpAny_bindName k
end
noncomputable def smNs (P:jT)(x:kJ):Option jL:=match (o_241 P).data with | .dict es _=>nsFind es x | _=>none
noncomputable def maNs (P:jT)(x:kJ):Option jL:=match (o_134 P).data with | .dict es _=>nsFind es x | _=>none
noncomputable def strKeysB (es:List DictEntry):Bool:=es.all fun e=>match e.key with | .str ..=>true | _=>false
theorem iO {es:Array DictEntry}(h:strKeysB es.toList=true):StrKeys es:=fun e he=>by
 have:=pY.1 h e (by simpa using he)
 cases q:e.key with
 | str n t=>exact jJ2 n t rfl
 | _=>rw[q] at this;cases this
theorem sm_ns {w:jS}{h:kI}(X:(KF w.params).In h):h.Ns 241 (smNs w.params):=
 jJ3 _ _ _ (jH4 (X 241 (o_241 w.params) rfl) rfl (iO (by kernel_rfl!)) (fun _=>rfl))
theorem ma_ns {w:jS}{h:kI}(X:(KF w.params).In h):h.Ns 134 (maNs w.params):=
 jJ3 _ _ _ (jH4 (X 134 (o_134 w.params) rfl) rfl (iO (by kernel_rfl!)) (fun _=>rfl))
theorem gK {w:jS}{h:kI}(X:(KF w.params).In h):h.get? 242=some (excClassObj (kY "SequenceMatcher") (kY "SequenceMatcher") 242 241 [.type "object"] [.type "object"] true [] [] false none none none none (some (.str (kY "SequenceMatcher") 389)) (some (.str (kY "SequenceMatcher") 397)) (some (.bool true)) "object.__new__"):=
 X 242 (o_242 w.params) rfl
noncomputable def NsO (o:kK)(m:kJ→Option jL):Prop:=∃es ep,o.data=.dict es ep∧StrKeys es∧UniqKeys es∧∀name,nsFind es name=m name
noncomputable def InsB (B:Base)(x dx:jQ):Prop:=∃o,B x=some o∧o.cls=.ref 242∧o.dict=some dx∧(∀c,o.data≠.cls c)∧dx≠x
theorem InsB.le {B B':Base}{x dx:jQ}(i:InsB B x dx)(l:Le B B'):InsB B' x dx:=jI1 (fun o=>jG2 fun e r=>⟨o,l _ _ e,r⟩) i
theorem within_vars (L:List (kJ×jL)):Within (vars L) (L.map (·.1)):=fun y hy=>by
 unfold vars at hy
 cases q:L.lookup y with
 | none=>exact absurd q hy
 | some v=>exact mF (mem_of_lookup q)
theorem vars_cons (x:kJ)(v:jL)(L:List (kJ×jL)):(fun y=>if y=x then some v else vars L y)=vars ((x,v)::L):=by
 funext y
 unfold vars
 rw[nJ]
 by_cases q:y=x
 ·rw[if_pos q,q,beq_self_eq_true]
 ·rw[if_neg q,beq_eq_false_iff_ne.2 q]
section
variable {w:jS}{A:jV}{C:Cx}{m mg mb:kJ→Option jL}{B:Base}{M:List (jQ×kK)}
 {h h':kI} {g:Array jX} {d:kU} {t:Nat} {os:jU} {env:Env} {Q:jL→jP→Prop} {QF:kS→jP→Prop} {QU:Unit→jP→Prop} {QP:jL×List jL→jP→Prop} {E:jL→jP→Prop}
theorem St.chgK {M₁ M₂:List (jQ×kK)}{a:jQ}{o o':kK}(S:St C B h m (M₁++(a,o)::M₂))(k:∀b x,b≠a→h.get? b=some x→h'.get? b=some x)(e:h'.get? a=some o'):St C B h' m (M₁++(a,o')::M₂):=by
 have A:h.get? a=some o∧¬C.D a∧¬C.V a∧B a=none:=S.m (a,o) (lJ _ (kZ ..))
 have hL:C.L≠a:=fun q=>A.2.2.1 (q▸S.lv)
 have nd':=S.apart
 exact {
  ns:=S.ns.at' fun x=>k _ x hL
  ld:=S.ld
  lv:=S.lv
  fr:=fun b x hd e=>k b x (fun q=>A.2.1 (q▸hd)) (S.fr b x hd e)
  b:=fun b x e=>k b x (fun q=>by rw[q,A.2.2.2] at e;cases e) (S.b b x e)
  v:=S.v
  d:=S.d
  tp:=S.tp
  m:=fun p hp=>by
   have go:∀p∈M₁++M₂,h'.get? p.1=some p.2∧¬C.D p.1∧¬C.V p.1∧B p.1=none:=fun p hp=>by
    have hm:p∈M₁++(a,o)::M₂:=by
     rcases lQ.1 hp with hp | hp
     ·exact mJ _ hp
     ·exact lJ _ (lX _ hp)
    exact⟨k _ _ (nd' p hp) (S.m p hm).1,(S.m p hm).2⟩
   rcases lQ.1 hp with hp | hp
   ·exact go p (mJ _ hp)
   ·rcases lH.1 hp with rfl | hp
    ·exact⟨e,A.2⟩
    ·exact go p (lJ _ hp)
  nd:=by have:=S.nd;rwa [mP,mD] at this⊢
  nl:=S.nl
  ow:=fun p hp=>by
   rcases lQ.1 hp with hp | hp
   ·exact S.ow p (mJ _ hp)
   ·rcases lH.1 hp with rfl | hp
    ·exact S.ow (a,o) (lJ _ (kZ ..))
    ·exact S.ow p (lJ _ (lX _ hp))
  new:=S.new
  up:=S.up}
theorem inst_of {x dx:jQ}{od:kK}{mA:kJ→Option jL}(S:St C B h m M)(hx:InsB B x dx)(hm:(dx,od)∈M)(ho:NsO od mA):h.Inst x 242 mA:=by
 have A:=S.m _ hm
 refine jI2 ?_ ho;try clear ho;intro es ep;intro r
 refine jI1 ?_ hx;try clear hx;intro ox;refine jG5 ?_;intro ex cx dd nx ne
 exact⟨ox,jH4 (S.b _ _ ex) cx nx (.inr ⟨dx,jH3 dd ne (jJ3 od es ep ⟨A.1,r⟩)⟩)⟩
theorem cO {M₁ M₂:List (jQ×kK)}{x dx:jQ}{od:kK}{L:List (kJ×jL)}{name:kJ}{v:jL}(S:St C B h m (M₁++(dx,od)::M₂))(G:Gr w mg mb B)(hx:InsB B x dx)(ho:NsO od (vars L))
  (hB:kF (.type "object") name=pure none) (hc:smNs w.params name=none) (hs:smNs w.params "__setattr__"=none) (hsz:L.length≤100)
  (k:∀h' t' od',NsO od' (vars ((name,v)::L))→St C B h' m (M₁++(dx,od')::M₂)→QU () ⟨h',g,d,t',os⟩):
  jN (jM PW w) A (setAttr (.ref x) name v) QU E ⟨h,g,d,t,os⟩:=by
 injection S G hx ho hB hc hs hsz k with w A C m mg mb B h g d t os QU E M₁ M₂ x dx od L name v
 have X:=G.at S.b
 have hm:(dx,od)∈M₁++(dx,od)::M₂:=lJ _ (kZ ..)
 have I:=inst_of S hx hm ho
 have hxC:x≠242:=fun q=>by
  refine jI1 ?_ hx;try clear hx;intro ox;refine jG3 ?_;intro ex cx _
  have e:=S.b _ _ ex
  rw[q,gK X] at e
  obtain rfl:=Option.some.inj e
  exact nomatch cx
 refine store_attr PySem.F.store_object (gK X) (sm_ns X) hs hc hB hxC I (fun h' tk' I' hk hsame=>?_) (within_vars L) (lB (m:=100) (by rw[lZ];exact hsz) (by decide))
 refine jI1 ?_ hx;try clear hx;intro ox;refine jG5 ?_;intro ex cx dd nx ne
 refine jI1 ?_ (hsame _ (S.b _ _ ex));intro o₁;refine jG5 ?_;intro e₁ c₁ d₁ s₁ dk
 have hd₁:=dk dx dd
 have ho₁:o₁=ox:=by
  obtain⟨a1,a2,a3,a4⟩:=o₁
  obtain⟨b1,b2,b3,b4⟩:=ox
  simp only at c₁ d₁ s₁ hd₁ dd
  subst c₁ d₁ s₁ hd₁ dd
  rfl
 refine jI1 ?_ I';try clear I';intro o';refine jG4 ?_;intro e' _ _ hdd
 rw[e₁] at e';cases e'
 rcases hdd with ⟨q,_⟩ | ⟨d',q,_,od',es,ep,eo,r⟩
 ·rw[hd₁] at q;cases q
 ·rw[hd₁] at q;cases q
  refine k h' tk' od' (jJ2 es ep (by rw[vars_cons] at r;exact r)) (S.chgK (fun b o hb e=>?_) eo)
  by_cases qx:b=x
  ·subst qx
   have:=S.b _ _ ex
   rw[e] at this;cases this
   rw[e₁,ho₁]
  ·exact hk b o qx (fun o₀ dx' e0 ed=>by
    have:=S.b _ _ ex
    rw[e0] at this;cases this
    rw[dd] at ed;cases ed;exact hb) e
theorem dK {x dx:jQ}{od:kK}{L:List (kJ×jL)}{name:kJ}{v:jL}{expr:Bool}(S:St C B h m M)(G:Gr w mg mb B)(hx:InsB B x dx)(hm:(dx,od)∈M)(ho:NsO od (vars L))
  (hB:kF (.type "object") name=pure none) (hc:smNs w.params name=none) (hs:smNs w.params "__getattribute__"=none) (hv:L.lookup name=some v) (hh:handedOut v=pure v)
  (k:∀t',Q v ⟨h,g,d,t',os⟩):jN (jM PW w) A (getAttr (.ref x) name expr) Q E ⟨h,g,d,t,os⟩:=
 load_attr (gK (G.at S.b)) (sm_ns (G.at S.b)) hs hc hB (inst_of S hx hm ho) hv hh (k _)
theorem eF {x dx:jQ}{od:kK}{L:List (kJ×jL)}{name:kJ}{f:jQ}{of:kK}{pl:Sem Bool}{y:Option jL}(S:St C B h m M)(G:Gr w mg mb B)(hx:InsB B x dx)(hm:(dx,od)∈M)(ho:NsO od (vars L))
  (hf:smNs w.params name=some (.ref f)) (hfo:(KF w.params).lookup f=some of) (hfc:of.cls=.type "function")
  (hs:smNs w.params "__getattribute__"=none) (hs2:smNs w.params "__getattr__"=none) (hsh:L.lookup name=none) (hB:kF (.type "object") name=pure y)
  (k:QP (.ref f,[.ref x]) ⟨h,g,d,t,os⟩):jN (jM PW w) A (getMethod (.ref x) name pl) QP E ⟨h,g,d,t,os⟩:=
 method_of (gK (G.at S.b)) (sm_ns (G.at S.b)) hs hs2 hf (S.b _ _ (G.K _ _ hfo)) hfc hB (inst_of S hx hm ho) hsh k
theorem cX {value:Expr}{attr:kJ}{pos:kW}(k:jN (jM PW w) A (eval value env) (fun o s₁=>jN (jM PW w) A (getAttr o attr true) Q E s₁) E ⟨h,g,d,t,os⟩)
  (he:autoParam (eval (.Attribute value attr pos) env=(do
   let o ←eval value env
   standAt pos.atName
   let r ←holding [o] (getAttr o attr true)
   letTemporaryGo value o r
   pure r)) tW):
  jN (jM PW w) A (eval (.Attribute value attr pos) env) Q E ⟨h,g,d,t,os⟩:=Attribute_any_ k he
theorem gJ {o value:Expr}{attr:kJ}{pos' pos:kW}{rest:List jW}
  (k:jN (jM PW w) A (eval value env) (fun v s₁=>jN (jM PW w) A (eval o env) (fun ov s₂=>jN (jM PW w) A (setAttr ov attr v) (fun _ s₃=>jN (jM PW w) A (kO rest env) QF E s₃) E s₂) E s₁) E ⟨h,g,d,t,os⟩)
  (hs:autoParam (swapsWith value (some (.Attribute o attr pos')) pos.line env=pure false) tR):
  jN (jM PW w) A (kO (.Assign [.Attribute o attr pos'] value pos::rest) env) QF E ⟨h,g,d,t,os⟩:=wpAny_execs_cons (plainObj_wpAny_Assign_Attribute k hs)
theorem fQ {t₁ t₂ value:Expr}{pos:kW}{rest:List jW}
  (k:jN (jM PW w) A (eval value env) (fun v s₁=>jN (jM PW w) A (assign t₁ env v) (fun _ s₂=>jN (jM PW w) A (assign t₂ env v) (fun _ s₃=>jN (jM PW w) A (kO rest env) QF E s₃) E s₂) E s₁) E ⟨h,g,d,t,os⟩)
  (he:autoParam ((assignEach [t₁,t₂] env).map (·.2)=[assign t₁ env,assign t₂ env]) tR)
  (hw:autoParam (swappedStores [t₁,t₂] value env=pure none) tR):
  jN (jM PW w) A (kO (.Assign [t₁,t₂] value pos::rest) env) QF E ⟨h,g,d,t,os⟩:=wpAny_execs_cons (wpAny_Assign_two k he hw)
theorem fS {o:Expr}{attr:kJ}{pos:kW}{v:jL}(k:jN (jM PW w) A (eval o env) (fun ov s₂=>jN (jM PW w) A (setAttr ov attr v) QU E s₂) E ⟨h,g,d,t,os⟩):
  jN (jM PW w) A (assign (.Attribute o attr pos) env v) QU E ⟨h,g,d,t,os⟩:=by
 rw[assign_Attribute]
 refine jK (kB (jR k (fun ov s₁ h₁=>jK (wpAny_standAt (jK (kB (jR h₁ (fun _ s₂ h₂=>?_) fun _ _ x=>x))))) fun _ _ x=>x))
 exact fun Γ p hΓ=>by rw[Sem.wp_release];exact h₂
end
noncomputable def dF (B:Base)(s:jP)(dx:jQ)(R:jL→Base→kK→Prop)(v:jL)(s':jP):Prop:=
 ∃h' t d B' od',s'=⟨h',s.gens,d,t,s.os⟩∧(∀a o,a≠dx→s.heap.get? a=some o→h'.get? a=some o)∧Le B B'∧(∀a o,B' a=some o→h'.get? a=some o)∧(∀a o,B' a=some o→a<s.heap.objs.size→B a=some o)∧h'.get? dx=some od'∧R v B' od'
section
variable {w:jS}{A:jV}{s:jP}{mg mb:kJ→Option jL}{B:Base}
theorem gI {f:jQ}{o:kK}{nm qual:kJ}{params:Arguments}{body:List jW}{scope:Scope}{dV kV doc pm cdv ct:jL}{an:Option jQ}{args:List jL}{kw:List (kJ×jL)}{binds:List (kJ×jL)}{Q:jL→Base→kK→Prop}{dx:jQ}{od:kK}
  (G:Gr w mg mb B) (hB:∀a o,B a=some o→s.heap.get? a=some o) (hd:s.heap.get? dx=some od) (hdB:B dx=none) (hroom:A.depth<recursionLimit) (ho:(KF w.params).lookup f=some o) (hdata:o.data=.func (fnOf nm qual params body scope dV kV doc pm an cdv ct))
  (hcd:codeIn (KF w.params) cdv qual=true) (hbind:BindsTo s (fnOf nm qual params body scope dV kV doc pm an cdv ct) ⟨args,kw⟩ binds)
  (hcell:∀x∈scope.names,x.2≠.cell) (hloc:∀x∈binds,scope.names.lookup x.1=some .local)
  (hco:scope.isCoroutine=false) (hgen:scope.isGenerator=false) (hk:scope.kind=.function)
  (h:∀C h₁ t,C.B₀=B→C.n₀=s.heap.objs.size→St C B h₁ (fun x=>binds.reverse.lookup x) ([]++(dx,od)::[])→C.H=(fun a=>s.heap.get? a)→((∀a,a<C.n₀→a≠dx→C.D a)∧∀a,a≠dx→¬C.W a)→
   jN (jM PW w) (A.deeper (envX qual scope C.L f cdv [])) (kO body (envX qual scope C.L f cdv []))
    (fun fl s'=>dF B s dx Q (match fl with | .ret v=>v | _=>.none) s') no ⟨h₁,s.gens,s.drawn,t,s.os⟩):
  jN (jM PW w) A (call (.ref f) args kw) (dF B s dx Q) no s:=by
 refine wpAny_call (codeAny_call_def hroom (hB _ _ (G.K _ _ ho)) hdata (G.lim _ hB) (codeRec_of (G.at hB) hcd) rfl hbind hcell hloc (fun h₁ hn hk₁=>?_) hco hgen hk)
 have S:St ⟨s.heap.objs.size,fun a=>a<s.heap.objs.size∧a≠dx,fun a=>s.heap.get? a,fun a=>a=s.heap.objs.size,s.heap.objs.size,B,s.heap.objs.size,fun a=>a=dx⟩ B h₁ (fun x=>binds.reverse.lookup x) ([]++(dx,od)::[]):={
  ns:=.of hn
  ld:=fun x=>lO _ x.1
  lv:=rfl
  fr:=fun a o _ e=>hk₁ a o e
  b:=fun a o e=>hk₁ a o (hB a o e)
  v:=fun a e=>⟨by
   subst e
   cases q:B s.heap.objs.size with
   | none=>rfl
   | some o=>exact absurd (lM (hB _ _ q)) (lO _),mB e⟩
  d:=fun a hl=>lL hl.1
  tp:=.inl rfl
  m:=fun p hp=>by
   rw[lA.1 hp]
   exact jH4 (hk₁ _ _ hd) (fun q=>q.2 rfl) (fun q=>absurd (lM hd) (by rw[show dx=_ from q];exact lO _)) hdB
  nd:=by simp
  nl:=lE _
  ow:=fun p hp=>by rw[lA.1 hp];exact .inr rfl
  new:=fun a o e _=>e
  up:=Le.refl _}
 exact jR (h ⟨s.heap.objs.size,fun a=>a<s.heap.objs.size∧a≠dx,fun a=>s.heap.get? a,fun a=>a=s.heap.objs.size,s.heap.objs.size,B,s.heap.objs.size,fun a=>a=dx⟩ h₁ _ rfl rfl S rfl ⟨fun _ x y=>⟨x,y⟩,fun _ x=>x⟩) (fun _ _ x=>x) fun _ _ x=>x.elim
theorem St.endsM {C:Cx}{B':Base}{h:kI}{m:kJ→Option jL}{M:List (jQ×kK)}{dx:jQ}{od:kK}{d:kU}{t:Nat}{R:jL→Base→kK→Prop}{v:jL}(S:St C B' h m M)(e1:C.B₀=B)(e2:C.n₀=s.heap.objs.size)(e3:C.H=fun a=>s.heap.get? a)
  (e4:(∀a,a<C.n₀→a≠dx→C.D a)∧∀a,a≠dx→¬C.W a) (hm:(dx,od)∈M) (r:R v B' od):dF B s dx R v ⟨h,s.gens,d,t,s.os⟩:=
 jJ5 h t d B' od (jH7 rfl (fun a o n e=>S.fr a o (e4.1 a (e2▸lM e) n) (by rw[e3];exact e)) (e1▸S.up) S.b (fun a o e hl=>e1▸S.new a o e (e2▸hl)) ((S.m _ hm).1) r)
theorem useM {C:Cx}{h:kI}{g:Array jX}{d:kU}{t:Nat}{os:jU}{m:kJ→Option jL}{M₁ M₂:List (jQ×kK)}{dx:jQ}{od:kK}{c:Sem jL}{R:jL→Base→kK→Prop}{Q E:jL→jP→Prop}
  (S:St C B h m (M₁++(dx,od)::M₂)) (k:jN (jM PW w) A c (dF B ⟨h,g,d,t,os⟩ dx R) no ⟨h,g,d,t,os⟩)
  (q:∀v h' d' t' B' od',St C B' h' m (M₁++(dx,od')::M₂)→Le B B'→R v B' od'→Q v ⟨h',g,d',t',os⟩):jN (jM PW w) A c Q E ⟨h,g,d,t,os⟩:=by
 injection S k q with w A B C h g d t os m M₁ M₂ dx od c R Q E
 refine jR k (fun v s' x=>?_) fun _ _ x=>x.elim
 refine jI5 ?_ x;try clear x;intro h' t' d' B' od';refine jG7 ?_;intro zz1 kp le lh nw eo r;obtain rfl:=zz1
 refine q v h' d' t' B' od' ?_ le r
 have A:=S.m (dx,od) (lJ _ (kZ ..))
 have fr:∀a,a<h.objs.size→B a=none→B' a=none:=fun a hl hn=>by
  cases q:B' a with
  | none=>rfl
  | some o=>have:=nw a o q hl;rw[hn] at this;cases this
 have S₁:St C B h' m (M₁++(dx,od')::M₂):=S.chgK (fun b o hb e=>kp b o hb e) eo
 exact {S₁ with
  b:=lh
  v:=fun a hv=>⟨fr a (S.vlt hv) (S.v a hv).1,(S.v a hv).2⟩
  m:=fun p hp=>jH4 ((S₁.m p hp).1) ((S₁.m p hp).2.1) ((S₁.m p hp).2.2.1) (by
   have:p.1∈(M₁++(dx,od)::M₂).map Prod.fst:=by
    have:=mF (f:=Prod.fst) hp
    simpa using this
   refine jI1 ?_ (mC.1 this);intro q;refine jG2 ?_;intro hq e
   exact fr _ (e▸lM (S.m q hq).1) (S₁.m p hp).2.2.2)
  new:=fun a o e hl=>S.new a o (nw a o e (lP hl (lB S.nl (lL S.lt)))) hl
  up:=S.up.trans le}
theorem callMC {f:jQ}{o:kK}{nm qual:kJ}{params:Arguments}{body:List jW}{scope:Scope}{dV kV doc pm cdv ct:jL}{an:Option jQ}{args:List jL}{binds:List (kJ×jL)}{Q:jL→Base→kK→Prop}{dx:jQ}{od:kK}
  (Lm:List (kJ×jL)) (cm:List (kJ×Option jL)) {ps:List kJ}
  (G:Gr w mg mb B) (hB:∀a o,B a=some o→s.heap.get? a=some o) (hd0:s.heap.get? dx=some od) (hdB:B dx=none) (hroom:A.depth<recursionLimit) (ho:(KF w.params).lookup f=some o) (hdata:o.data=.func (fnOf nm qual params body scope dV kV doc pm an cdv ct))
  (hcd:codeIn (KF w.params) cdv qual=true) (hbind:bindArgs (fnOf nm qual params body scope dV kV doc pm an cdv ct) ⟨args,[]⟩=pure binds)
  (hps:binds.map (·.1)=ps) (hkind:∀x∈ps,scope.names.lookup x=some .local∨(scope.names.lookup x=some .cell∧x∈cm.map (·.1)))
  (hm:gV (bindL (fun x=>scope.names.lookup x) binds fun _=>none) Lm)
  (hcm:∀c,(cellsFrom c scope.names []).map (·.1)=cm.map (·.1)) (hcv':eZ (bindC (fun x=>scope.names.lookup x) binds (fun _=>none)) cm)
  (hnd:(cm.map (·.1)).Nodup)
  (hco:scope.isCoroutine=false) (hgen:scope.isGenerator=false) (hk:scope.kind=.function)
  (k:∀C h₁ t (oc:kJ→kK),C.B₀=B→C.n₀=s.heap.objs.size→(∀x∈cm,(oc x.1).data=.cell x.2)→St C B h₁ (vars Lm) (((cellsFrom (C.L+1) scope.names []).map fun x=>(x.2,oc x.1))++[(dx,od)])→C.H=(fun a=>s.heap.get? a)→((∀a,a<C.n₀→a≠dx→C.D a)∧∀a,a≠dx→¬C.W a)→
   jN (jM PW w) (A.deeper (envX qual scope C.L f cdv (cellsFrom (C.L+1) scope.names []))) (kO body (envX qual scope C.L f cdv (cellsFrom (C.L+1) scope.names [])))
    (fun fl s'=>dF B s dx Q (match fl with | .ret v=>v | _=>.none) s') no ⟨h₁,s.gens,s.drawn,t,s.os⟩):
  jN (jM PW w) A (call (.ref f) args) (dF B s dx Q) no s:=by
 injection G hB hd0 hdB hroom ho hdata hcd hbind hps hkind hm hcm hcv' hnd hco hgen hk k with w A s mg mb B f o nm qual params body scope dV kV doc pm cdv ct an args binds Q dx od Lm cm ps
 refine wpAny_call (codeAny_call_cells hroom (hB _ _ (G.K _ _ ho)) hdata (G.lim _ hB) (codeRec_of (G.at hB) hcd) rfl hbind rfl (fun x hx=>(hkind x.1 (hps▸mF hx)).imp id fun y=>⟨y.1,gZ (by rw[hcm];exact y.2)⟩) (fun s₁ X=>?_) hco hgen hk)
 refine jI2 ?_ X.toInCall.same;intro h₁ tk;intro zz1;obtain rfl:=zz1
 have hcv:=hcv'.all
 have oc:∀n,∃o:kK,∀c,(cellsFrom (s.heap.objs.size+1) scope.names []).lookup n=some c→h₁.get? c=some o∧o.data=.cell (bindC (fun x=>scope.names.lookup x) binds (fun _=>none) n):=fun n=>by
  cases q:(cellsFrom (s.heap.objs.size+1) scope.names []).lookup n with
  | none=>exact⟨⟨.none,none,.plain,#[]⟩,fun c e=>by cases e⟩
  | some c=>refine jI1 ?_ (X.cell n c q);intro o;refine jG2 ?_;intro e1 e2;exact⟨o,fun c' e=>by cases e;exact⟨e1,e2⟩⟩
 let oc':kJ→kK:=fun n=>(oc n).choose
 have ocs:=fun n=>(oc n).choose_spec
 have look:∀{cs:List (kJ×jQ)},(cs.map (·.1)).Nodup→∀x∈cs,cs.lookup x.1=some x.2:=by
  intro cs hn
  induction cs with
  | nil=>intro x hx;cases hx
  | cons y r ih=>
   intro x hx
   rw[mD,nW] at hn
   rw[nJ]
   rcases lH.1 hx with rfl | hx
   ·rw[beq_self_eq_true]
   ·have:(x.1==y.1)=false:=beq_eq_false_iff_ne.2 fun e=>hn.1 (e▸mF hx)
    rw[this];exact ih hn.2 x hx
 have hnd':((cellsFrom (s.heap.objs.size+1) scope.names []).map (·.1)).Nodup:=by rw[hcm];exact hnd
 have ns:h₁.Ns s.heap.objs.size _:=X.toInCall.ns
 have S:St ⟨s.heap.objs.size,fun a=>a<s.heap.objs.size∧a≠dx,fun a=>s.heap.get? a,fun a=>a=s.heap.objs.size,s.heap.objs.size,B,s.heap.objs.size,fun a=>a=dx⟩ B h₁ (bindL (fun x=>scope.names.lookup x) binds fun _=>none) (((cellsFrom (s.heap.objs.size+1) scope.names []).map fun x=>(x.2,oc' x.1))++[(dx,od)]):={
  ns:=.of ns
  ld:=fun x=>lO _ x.1
  lv:=rfl
  fr:=fun a o _ e=>X.toInCall.keep a o e
  b:=fun a o e=>X.toInCall.keep a o (hB a o e)
  v:=fun a e=>⟨by
   subst e
   cases q:B s.heap.objs.size with
   | none=>rfl
   | some o=>exact absurd (lM (hB _ _ q)) (lO _),mB e⟩
  d:=fun a hl=>lL hl.1
  tp:=.inl rfl
  m:=fun p hp=>by
   rcases lQ.1 hp with hp | hp
   ·refine jI1 ?_ (mC.1 hp);intro x;refine jG2 ?_;intro hx zz2;obtain rfl:=zz2
    have:=ocs x.1 x.2 (look hnd' x hx)
    have ab:s.heap.objs.size<x.2:=X.above x.1 x.2 hx
    exact jH4 this.1 (fun q=>pN ab q.1) (fun q=>absurd q (pW ab)) (by
     cases q:B x.2 with
     | none=>rfl
     | some o=>exact absurd (lM (hB _ _ q)) (pN ab))
   ·rw[lA.1 hp]
    exact jH4 (X.toInCall.keep _ _ hd0) (fun q=>q.2 rfl) (fun q=>absurd (lM hd0) (by rw[show dx=_ from q];exact lO _)) hdB
  nd:=by
   rw[mP,nP]
   have e:(Prod.fst ∘ fun x:kJ×jQ=>(x.2,oc' x.1))=Prod.snd:=rfl
   rw[e,oD]
   refine jH3 ?_ (by simp) (fun x hx y hy q=>?_)
   ·rw[List.nodup_iff_pairwise_ne,qN]
    exact X.apart
   ·refine jI1 ?_ (mC.1 hx);intro z;refine jG2 ?_;intro hz zz3;obtain rfl:=zz3
    have ab:s.heap.objs.size<z.2:=X.above z.1 z.2 hz
    have hy':y=dx:=by simpa using hy
    rw[q,hy'] at ab
    exact pN ab (lM hd0)
  nl:=lE _
  ow:=fun p hp=>by
   rcases lQ.1 hp with hp | hp
   ·refine jI1 ?_ (mC.1 hp);intro x;refine jG2 ?_;intro hx zz4;obtain rfl:=zz4
    exact .inl (lL (X.above x.1 x.2 hx))
   ·rw[lA.1 hp];exact .inr rfl
  new:=fun a o e _=>e
  up:=Le.refl _}
 refine jR (k ⟨s.heap.objs.size,fun a=>a<s.heap.objs.size∧a≠dx,fun a=>s.heap.get? a,fun a=>a=s.heap.objs.size,s.heap.objs.size,B,s.heap.objs.size,fun a=>a=dx⟩ h₁ _ oc' rfl rfl (fun x hx=>?_) (S.fewf hm) rfl ⟨fun _ x y=>⟨x,y⟩,fun _ x=>x⟩) (fun _ _ x=>x) fun _ _ x=>x.elim
 have:x.1∈(cellsFrom (s.heap.objs.size+1) scope.names []).map (·.1):=by rw[hcm];exact mF hx
 refine jI1 ?_ (mC.1 this);intro y;refine jG2 ?_;intro hy e
 have:=(ocs y.1 y.2 (look hnd' y hy)).2
 rw[e] at this
 exact this.trans (congrArg Data.cell (hcv x hx))
end
inductive Ev {α:Type}(P:Nat→Prop)(lt:Nat→Nat→Bool):KasT α→α→Prop
 | ret (a:α):Ev P lt (.ret a) a
 | ask {i j:Nat} {k:Bool→KasT α} {r:α}:P i→P j→Ev P lt (k (lt i j)) r→Ev P lt (.ask i j k) r
section
variable {α β:Type}{P:Nat→Prop}{lt:Nat→Nat→Bool}
theorem Ev.bind {t:KasT α}{f:α→KasT β}{a:α}{b:β}(h:Ev P lt t a)(k:Ev P lt (f a) b):Ev P lt (t.bind f) b:=by
 induction h with
 | ret a=>exact k
 | ask hi hj _ ih=>exact .ask hi hj (ih k)
theorem Ev.wp {cmp:Nat→Nat→(Bool→jP→Prop)→jP→Prop}{I:jP→Prop}(hc:∀i j s C,P i→P j→I s→(∀s',I s'→C (lt i j) s')→cmp i j C s){t:KasT α}{r:α}(h:Ev P lt t r):
  ∀{Q:α→jP→Prop} {s:jP},I s→(∀s',I s'→Q r s')→t.kasWp cmp Q s:=by
 induction h with
 | ret a=>intro Q s hs q;exact q s hs
 | ask hi hj _ ih=>intro Q s hs q;exact hc _ _ _ _ hi hj hs fun s' hs'=>ih hs' q
end
structure Ord (n:Nat)(lt:Nat→Nat→Bool):Prop where
 asym:∀i j,lt i j=true→lt j i=false
 tr:∀i j k,lt i j=true→lt j k=true→lt i k=true
 tot:∀i j,i<n→j<n→i≠j→lt i j=true∨lt j i=true
noncomputable abbrev gt (p:Array Nat)(k:Nat):Nat:=p.getD k 0
theorem gt_of {p q:Array Nat}{i j:Nat}(h:p[i]? =q[j]?):gt p i=gt q j:=by
 unfold gt;rw[qO,qO,h]
structure Pm (n:Nat)(p:Array Nat):Prop where
 sz:p.size=n
 lt:∀k,k<n→gt p k<n
 inj:∀i j,i<n→j<n→i≠j→gt p i≠gt p j
theorem pm_of {n:Nat}{p:Array Nat}(h:p.toList.Perm (lW n)):Pm n p:=by
 have hs:p.size=n:=by have:=h.length_eq;simpa using this
 have hg:∀k (hk:k<n),gt p k=p.toList[k]'(by simpa[hs] using hk):=fun k hk=>by
  unfold gt;rw[qO,rD (by lia)];simp
 refine⟨hs,fun k hk=>?_,fun i j hi hj ne e=>?_⟩
 ·rw[hg k hk]
  have:=h.mem_iff.1 (pO (l:=p.toList) (n:=k) (by simpa[hs] using hk))
  exact nB.1 this
 ·have nd:p.toList.Nodup:=h.nodup_iff.2 List.nodup_range
  rw[hg i hi,hg j hj] at e
  rcases Nat.lt_or_gt_of_ne ne with q | q
  ·exact absurd e (oU.1 nd i j _ _ q)
  ·exact absurd e.symm (oU.1 nd j i _ _ q)
section
variable {n:Nat}{lt:Nat→Nat→Bool}{p:Array Nat}
noncomputable def Up (lt:Nat→Nat→Bool)(p:Array Nat)(m:Nat):Prop:=∀i j,i<j→j<m→lt (gt p i) (gt p j)=true
theorem up_of (O:Ord n lt)(hp:Pm n p){m:Nat}(hm:m≤n)(h:∀k,1≤k→k<m→lt (gt p k) (gt p (k-1))=false):Up lt p m:=by
 intro i j hij hj
 induction j with
 | zero=>lia
 | succ j ih=>
  have h1:lt (gt p j) (gt p (j+1))=true:=by
   rcases O.tot (gt p j) (gt p (j+1)) (hp.lt _ (by lia)) (hp.lt _ (by lia)) (hp.inj _ _ (by lia) (by lia) (by lia)) with q | q
   ·exact q
   ·have:=h (j+1) (by lia) hj
    rw[qH,q] at this;cases this
  by_cases e:i=j
  ·rw[e];exact h1
  ·exact O.tr _ _ _ (ih (by lia) (by lia)) h1
theorem ev_asc (hp:Pm n p):∀f k,1≤k→k+f≤n→∃m,Ev (· <n) lt (kas_asc p f k) m∧k≤m∧m≤k+f∧(∀j,k≤j→j<m→lt (gt p j) (gt p (j-1))=false)∧(m<k+f→lt (gt p m) (gt p (m-1))=true):=by
 injection hp with n lt p
 intro f
 induction f with
 | zero=>intro k h1 h2;exact⟨k,jH5 (.ret _) (lE _) (lE _) (fun j a b=>by omega) (fun q=>by lia)⟩
 | succ f ih=>
  intro k h1 h2
  by_cases c:lt (gt p k) (gt p (k-1))=true
  ·refine⟨k,jH5 (.ask (hp.lt _ (by lia)) (hp.lt _ (mM (mN _ _) (lP (pV (Nat.succ_pos f)) h2))) ?_) (lE _) (by lia) (fun j a b=>by omega) (fun _=>c)⟩
   show Ev _ _ (if lt (gt p k) (gt p (k-1))=true then _ else _) _
   rw[if_pos c];exact .ret _
  ·refine jI1 ?_ (ih (k+1) (by lia) (by lia));intro m;refine jG5 ?_;intro e a1 a2 a3 a4
   refine⟨m,jH5 (.ask (hp.lt _ (by lia)) (hp.lt _ (mM (mN _ _) (lP (pV (Nat.succ_pos f)) h2))) ?_) (by lia) (by lia) (fun j b1 b2=>?_) (fun q=>a4 (by lia))⟩
   ·show Ev _ _ (if lt (gt p k) (gt p (k-1))=true then _ else _) _
    rw[if_neg c];exact e
   ·by_cases q:j=k
    ·rw[q];simpa using c
    ·exact a3 j (by lia) b2
theorem ev_desc (O:Ord n lt)(hp:Pm n p):∀f k,1≤k→k+f≤n→∃m,Ev (· <n) lt (kas_desc f p k 0) (p,m,0)∧k≤m∧m≤k+f∧∀j,k≤j→j<m→lt (gt p j) (gt p (j-1))=true:=by
 intro f
 induction f with
 | zero=>intro k h1 h2;exact⟨k,jH4 (.ret _) (lE _) (lE _) (fun j a b=>by omega)⟩
 | succ f ih=>
  intro k h1 h2
  by_cases c:lt (gt p k) (gt p (k-1))=true
  ·refine jI1 ?_ (ih (k+1) (by lia) (by lia));intro m;refine jG4 ?_;intro e a1 a2 a3
   refine⟨m,jH4 (.ask (hp.lt _ (by lia)) (hp.lt _ (by lia)) ?_) (by lia) (by lia) (fun j b1 b2=>?_)⟩
   ·show Ev _ _ (if lt (gt p k) (gt p (k-1))=true then (if 0>0 then _ else _) else _) _
    rw[if_pos c,if_neg (lO _)];exact e
   ·by_cases q:j=k
    ·rw[q];exact c
    ·exact a3 j (by lia) b2
  ·have c':lt (gt p (k-1)) (gt p k)=true:=(O.tot _ _ (hp.lt _ (by lia)) (hp.lt _ (by lia)) (hp.inj _ _ (by lia) (by lia) (by omega))).resolve_left c
   refine⟨k,jH4 (.ask (hp.lt _ (by lia)) (hp.lt _ (by lia)) ?_) (lE _) (by lia) (fun j a b=>by omega)⟩
   show Ev _ _ (if lt (gt p k) (gt p (k-1))=true then _ else _) _
   rw[if_neg c]
   refine .ask (hp.lt _ (by lia)) (hp.lt _ (by lia)) ?_
   show Ev _ _ (if lt (gt p (k-1)) (gt p k)=true then _ else _) _
   rw[if_pos c'];exact .ret _
theorem rev_perm (h:p.toList.Perm (lW n))(i j:Nat):(kas_rev p i j).toList.Perm (lW n):=(mirror_perm p i j _).toList.trans h
theorem rev_gt {k:Nat}(hk:k≤p.size)(x:Nat):gt (kas_rev p 0 k) x=if x<k then gt p (k-1-x) else gt p x:=by
 have:=getElem?_mirror_all (xs:=p) (i:=0) (j:=k) hk x
 by_cases q:x<k
 ·rw[if_pos q]
  rw[if_pos ⟨lC _,q⟩,pZ] at this
  exact gt_of this
 ·rw[if_neg q]
  rw[if_neg (fun z=>q z.2)] at this
  exact gt_of this
theorem ev_tail (O:Ord n lt)(h:p.toList.Perm (lW n)){k:Nat}(h1:1≤k)(h2:k≤n)(hd:∀j,1≤j→j<k→lt (gt p j) (gt p (j-1))=true):
  ∃m p',Ev (· <n) lt (kas_tail3 k n p) (m,p')∧k≤m∧m≤n∧p'.toList.Perm (lW n)∧Up lt p' m:=by
 have hr:=rev_perm h 0 k
 have hp:=pm_of h
 have hp':=pm_of hr
 refine jI1 ?_ (ev_asc (lt:=lt) hp' (n-k) k h1 (by lia));intro m;refine jG5 ?_;intro e a1 a2 a3 _
 refine jJ2 m (kas_rev p 0 k) (jH5 (e.bind (.ret _)) a1 (by lia) hr (up_of O hp' (by lia) fun j b1 b2=>?_))
 by_cases q:j<k
 ·rw[rev_gt (by rw[hp.sz];exact h2),rev_gt (by rw[hp.sz];exact h2),if_pos q,if_pos (mM (mN _ _) q)]
  have:=hd (k-j) (oP q) (pF (oE q) b1)
  rw[show k-1-j=k-j-1 by lia,show k-1-(j-1)=k-j by exact ar_30 b1]
  exact O.asym _ _ this
 ·exact a3 j (by lia) b2
theorem ev_count (O:Ord n lt)(h:p.toList.Perm (lW n))(h2:2≤n):∃m p',Ev (· <n) lt (kas_count n p) (m,p')∧1≤m∧m≤n∧p'.toList.Perm (lW n)∧Up lt p' m:=by
 injection O h h2 with n lt p
 have hp:=pm_of h
 refine jI1 ?_ (ev_asc (lt:=lt) hp (n-1) 1 (lE _) (mB (nK (Nat.le_of_succ_le h2))));intro k;refine jG5 ?_;intro e a1 a2 a3 a4
 have hu:Up lt p k:=up_of O hp (lB a2 (mB (nK (Nat.le_of_succ_le h2)))) a3
 by_cases c:(k==n)=true
 ·refine jJ2 k p (jH5 (e.bind ?_) a1 (by lia) h hu)
  rw[if_pos c];exact .ret _
 ·have hkn:k<n:=by
   have:k≠n:=fun q=>c (by rw[q];exact beq_self_eq_true _)
   exact Nat.lt_of_le_of_ne (lB a2 (mB (nK (Nat.le_of_succ_le h2)))) this
  by_cases c1:k>1
  ·refine jJ2 k p (jH5 (e.bind ?_) a1 (by lia) h hu)
   rw[if_neg c,if_pos c1]
   refine .ask (hp.lt _ (by lia)) (hp.lt _ (mM (mN _ _) hkn)) ?_
   show Ev _ _ (if lt (gt p 0) (gt p (k-1))=true then _ else _) _
   rw[if_pos (hu 0 (k-1) (oP c1) (pF (oE c1) Nat.one_pos))];exact .ret _
  ·have hk1:k=1:=by lia
   subst hk1
   refine jI1 ?_ (ev_desc O hp (n-2) 2 (by lia) (mB (nK h2)));intro m;refine jG4 ?_;intro e2 b1 b2 b3
   refine jI2 ?_ (ev_tail O h (k:=m) (by lia) (lB b2 (mB (nK h2))) fun j c1 c2=>by
    by_cases q:j=1
    ·subst q;exact a4 (by lia)
    ·exact b3 j (by lia) c2);intro m' p';refine jG5 ?_;intro e3 d1 d2 d3 d4
   refine jJ2 m' p' (jH5 (e.bind ?_) (by lia) d2 d3 d4)
   rw[if_neg c,if_neg c1]
   refine Ev.bind (a:=(p,m,0)) e2 ?_
   rw[if_neg (lO _)]
   exact e3
theorem ev_place (O:Ord n lt)(hp:Pm n p){k:Nat}(hk:k<n)(hu:Up lt p k):∀f l r,r-l≤f→l≤r→r≤k→(∀i,i<l→lt (gt p i) (gt p k)=true)→(∀i,r≤i→i<k→lt (gt p k) (gt p i)=true)→
  ∃m,Ev (· <n) lt (kas_place p k f l r) m∧m≤k∧(∀i,i<m→lt (gt p i) (gt p k)=true)∧∀i,m≤i→i<k→lt (gt p k) (gt p i)=true:=by
 injection O hp hk hu with n lt p k
 intro f
 induction f with
 | zero=>intro l r h1 h2 h3 hl hr;exact⟨l,jH4 (.ret _) (by lia) hl (fun i a b=>hr i (by lia) b)⟩
 | succ f ih=>
  intro l r h1 h2 h3 hl hr
  by_cases c:l≥r
  ·refine⟨l,jH4 ?_ (by lia) hl (fun i a b=>hr i (by lia) b)⟩
   show Ev _ _ (if l≥r then _ else _) _
   rw[if_pos c];exact .ret _
  ·have m1:l≤(l+r)/2:=by lia
   have m2:(l+r)/2<r:=by lia
   by_cases q:lt (gt p k) (gt p ((l+r)/2))=true
   ·refine jI1 ?_ (ih l ((l+r)/2) (ar_29 h1 m1 m2) m1 (by lia) hl fun i a b=>by
     by_cases z:i=(l+r)/2
     ·rw[z];exact q
     ·exact O.tr _ _ _ q (hu _ _ (by lia) b));intro m;refine jG4 ?_;intro e b1 b2 b3
    refine⟨m,jH4 ?_ b1 b2 b3⟩
    show Ev _ _ (if l≥r then _ else _) _
    rw[if_neg c]
    refine .ask (hp.lt _ hk) (hp.lt _ (by lia)) ?_
    show Ev _ _ (if lt (gt p k) (gt p ((l+r)/2))=true then _ else _) _
    rw[if_pos q];exact e
   ·have q':lt (gt p ((l+r)/2)) (gt p k)=true:=(O.tot _ _ (hp.lt _ (by lia)) (hp.lt _ hk) (hp.inj _ _ (by lia) hk (by omega))).resolve_right q
    refine jI1 ?_ (ih ((l+r)/2+1) r (ar_28 h1 m1) (by lia) h3 (fun i a=>by
     by_cases z:i=(l+r)/2
     ·rw[z];exact q'
     ·exact O.tr _ _ _ (hu i ((l+r)/2) (by lia) (by lia)) q') hr);intro m;refine jG4 ?_;intro e b1 b2 b3
    refine⟨m,jH4 ?_ b1 b2 b3⟩
    show Ev _ _ (if l≥r then _ else _) _
    rw[if_neg c]
    refine .ask (hp.lt _ hk) (hp.lt _ (by lia)) ?_
    show Ev _ _ (if lt (gt p k) (gt p ((l+r)/2))=true then _ else _) _
    rw[if_neg q];exact e
theorem bub_gt {k d:Nat}(hk:k<p.size)(hd:d≤k)(x:Nat):gt (bubble p k d) x=if x=k-d then gt p k else if k-d<x∧x≤k then gt p (x-1) else gt p x:=by
 have:=getElem?_bubble (xs:=p) hk d hd x
 by_cases q:x=k-d
 ·rw[if_pos q] at this⊢;exact gt_of this
 ·rw[if_neg q] at this⊢
  by_cases z:k-d<x∧x≤k
  ·rw[if_pos z] at this⊢;exact gt_of this
  ·rw[if_neg z] at this⊢;exact gt_of this
theorem ev_bin (O:Ord n lt):∀f k (p:Array Nat),p.toList.Perm (lW n)→k+f=n→Up lt p k→∃p',Ev (· <n) lt (kas_bin f p k) p'∧p'.toList.Perm (lW n)∧Up lt p' n:=by
 injection O with n lt
 intro f
 induction f with
 | zero=>intro k p h e hu;exact⟨p,jH3 (.ret _) h (by rw[←e];exact hu)⟩
 | succ f ih=>
  intro k p h e hu
  have hp:=pm_of h
  refine jI1 ?_ (ev_place O hp (k:=k) (by lia) hu k 0 k (by lia) (lC _) (lE _) (fun i a=>by lia) fun i a b=>by lia);intro m;refine jG4 ?_;intro e1 b1 b2 b3
  have hb:(bubble p k (k-m)).toList.Perm (lW n):=(bubble_perm p k _).toList.trans h
  refine jI1 ?_ (ih (k+1) (bubble p k (k-m)) hb (by lia) (by
   intro i j hij hj
   have hks:k<p.size:=by rw[hp.sz];lia
   rw[bub_gt hks (mN _ _),bub_gt hks (by lia),show k-(k-m)=m by exact Nat.sub_sub_self b1]
   by_cases i1:i=m
   ·subst i1
    rw[if_pos rfl,if_neg (by lia),if_pos ⟨hij,by lia⟩]
    exact b3 _ (pJ hij) (ar_65 hij hj)
   ·rw[if_neg i1]
    by_cases j1:j=m
    ·subst j1
     rw[if_pos rfl,if_neg (by lia)]
     exact b2 _ hij
    ·rw[if_neg j1]
     by_cases i2:m<i∧i≤k
     ·rw[if_pos i2,if_pos ⟨by lia,by lia⟩]
      exact hu _ _ (rC (oE i2.1) hij) (ar_65 hij hj)
     ·rw[if_neg i2]
      by_cases j2:m<j∧j≤k
      ·rw[if_pos j2];exact hu _ _ (ar_66 hij hj i1 i2 j2.1) (ar_65 hij hj)
      ·rw[if_neg j2];exact hu _ _ hij (by lia)));intro p';refine jG3 ?_;intro e2 d1 d2
  exact⟨p',jH3 (e1.bind e2) d1 d2⟩
theorem ev_sort (O:Ord n lt)(h2:2≤n):∃p,Ev (· <n) lt (kas_sort n) p∧p.toList.Perm (lW n)∧Up lt p n:=by
 refine jI2 ?_ (ev_count O (p:=(lW n).toArray) (by simp) h2);intro m p;refine jG5 ?_;intro e a1 a2 a3 a4
 by_cases c:m<n
 ·refine jI1 ?_ (ev_bin O (n-m) m p a3 (by lia) a4);intro p';refine jG3 ?_;intro e2 d1 d2
  refine⟨p',jH3 (e.bind ?_) d1 d2⟩
  dsimp only
  rw[if_pos c,show max m 1=m by lia];exact e2
 ·have:m=n:=by lia
  subst this
  refine⟨p,jH3 (e.bind ?_) a3 a4⟩
  dsimp only
  rw[if_neg c];exact .ret _
end
noncomputable def grow (p:Nat→Bool):Nat→Nat→Nat
 | 0,k=>k
 | f+1,k=>if p k then grow p f (k+1) else k
theorem cQ {p:Nat→Bool}{f k:Nat}(h:p k=false):grow p f k=k:=by
 cases f with
 | zero=>rfl
 | succ f=>rw[grow,h];rfl
theorem gC {p:Nat→Bool}{f k:Nat}(h:p k=true):grow p (f+1) k=grow p f (k+1):=by rw[grow,h];rfl
theorem iJ {p:Nat→Bool}:∀{f k:Nat},k≤grow p f k
 | 0,k=>lE _
 | f+1,k=>by
  rw[grow]
  cases h:p k with
  | false=>exact lE _
  | true=>exact lB (lV k) iJ
theorem dU {p:Nat→Bool}:∀{f k t:Nat},k≤t→t<grow p f k→p t=true
 | 0,k,t,h1,h2=>absurd h2 (lU.2 h1)
 | f+1,k,t,h1,h2=>by
  rw[grow] at h2
  cases h:p k with
  | false=>rw[h] at h2;exact absurd h2 (lU.2 h1)
  | true=>
   rw[h] at h2
   rcases Nat.lt_or_eq_of_le h1 with q | q
   ·exact dU q h2
   ·rw[←q];exact h
theorem eN {p:Nat→Bool}:∀{f k b:Nat},p b=false→k≤b→b≤k+f→p (grow p f k)=false
 | 0,k,b,hb,h1,h2=>by rw[grow,show k=b by lia];exact hb
 | f+1,k,b,hb,h1,h2=>by
  rw[grow]
  cases h:p k with
  | false=>exact h
  | true=>
   have:k≠b:=fun q=>by rw[q,hb] at h;cases h
   exact eN hb (by lia) (by lia)
theorem cR {p:Nat→Bool}{f k b:Nat}(hb:p b=false)(h1:k≤b):grow p f k≤b:=by
 rcases oF b (grow p f k) with q | q
 ·rw[dU h1 q] at hb;cases hb
 ·exact q
theorem grow_eq {p:Nat→Bool}{f k n:Nat}(h1:k≤n)(h2:∀t,k≤t→t<n→p t=true)(h3:p n=false)(h4:n≤k+f):grow p f k=n:=by
 have a:=cR (f:=f) h3 h1
 rcases oF (grow p f k) n with q | q
 ·have:=h2 _ iJ q
  rw[eN h3 h1 h4] at this;cases this
 ·lia
section
variable (eq:Nat→Nat→Bool)(jk:Nat→Bool)
noncomputable def runP (high right i j k:Nat):Bool:=decide (i+k<high)&&(decide (j+k<right)&&(eq (i+k) (j+k)&&(!jk (i+k)&&true)))
noncomputable def runL (high right i j:Nat):Nat:=grow (runP eq jk high right i j) (high-i) 0
structure bF (R:Nat→Nat→Nat)(D:Nat→Nat→Prop)(low left:Nat)(b:Nat×Nat×Nat):Prop where
 z:b.2.2=0→b.1=low∧b.2.1=left
 s:b.2.2≠0→D b.1 b.2.1∧R b.1 b.2.1=b.2.2
 m:∀i j,D i j→R i j≤b.2.2
 f:∀i j,D i j→R i j=b.2.2→b.2.2≠0→b.1<i∨(b.1=i∧b.2.1≤j)
theorem bF.one {R:Nat→Nat→Nat}{D:Nat→Nat→Prop}{low left:Nat}{b c:Nat×Nat×Nat}(x:bF R D low left b)(y:bF R D low left c):b=c:=by
 have h2:b.2.2=c.2.2:=by
  rcases pM b.2.2 c.2.2 with q | q | q
  ·have:=y.s (by lia);have:=x.m _ _ this.1;lia
  ·exact q
  ·have:=x.s (by lia);have:=y.m _ _ this.1;lia
 obtain⟨b1,b2,b3⟩:=b
 obtain⟨c1,c2,c3⟩:=c
 simp only at h2
 subst h2
 by_cases h:b3=0
 ·have:=x.z h;have:=y.z h;simp_all
 ·have a1:=y.s h;have a2:=x.s h
  have a3:=x.f _ _ a1.1 a1.2 h
  have a4:=y.f _ _ a2.1 a2.2 h
  simp only at a3 a4
  have:b1=c1∧b2=c2:=⟨(ar_79 a3 a4).1,qM (ar_79 a3 a4).2.1 (ar_79 a3 a4).2.2⟩
  rw[this.1,this.2]
theorem bF.step {R:Nat→Nat→Nat}{D D':Nat→Nat→Prop}{low left:Nat}{b:Nat×Nat×Nat}{i j:Nat}(x:bF R D low left b)
  (hD:∀i' j',D' i' j'↔D i' j'∨(i'=i∧j'=j)) (hl:∀i' j',D i' j'→i'<i∨(i'=i∧j'<j)):
  bF R D' low left (if R i j>b.2.2 then (i,j,R i j) else b):=by
 injection x hD hl with R D D' low left b i j
 by_cases h:R i j>b.2.2
 ·rw[if_pos h]
  refine⟨fun e=>?_,fun _=>⟨(hD _ _).2 (.inr ⟨rfl,rfl⟩),rfl⟩,fun i' j' d=>?_,fun i' j' d e _=>?_⟩
  ·simp only at e;lia
  ·rcases (hD _ _).1 d with d | ⟨rfl,rfl⟩
   ·have:=x.m _ _ d;simp only;lia
   ·exact lE _
  ·rcases (hD _ _).1 d with d | ⟨rfl,rfl⟩
   ·have:=x.m _ _ d;simp only at e;lia
   ·exact .inr ⟨rfl,lE _⟩
 ·rw[if_neg h]
  refine⟨x.z,fun e=>⟨(hD _ _).2 (.inl (x.s e).1),(x.s e).2⟩,fun i' j' d=>?_,fun i' j' d e n=>?_⟩
  ·rcases (hD _ _).1 d with d | ⟨rfl,rfl⟩
   ·exact x.m _ _ d
   ·lia
  ·rcases (hD _ _).1 d with d | ⟨rfl,rfl⟩
   ·exact x.f _ _ d e n
   ·have:=hl _ _ (x.s n).1;exact this.imp_right fun h=>⟨h.1,lL h.2⟩
theorem bF.congr {R:Nat→Nat→Nat}{D D':Nat→Nat→Prop}{low left:Nat}{b:Nat×Nat×Nat}(x:bF R D low left b)(hD:∀i j,D' i j↔D i j):bF R D' low left b:=by
 have:D'=D:=by funext i j;exact propext (hD i j)
 rw[this];exact x
noncomputable def full (low high left right i j:Nat):Prop:=low≤i∧i<high∧left≤j∧j<right
noncomputable def bP (low left i j t:Nat):Bool:=decide (low+t<i)&&(decide (left+t<j)&&(eq (i-t-1) (j-t-1)&&(jk (i-t-1)&&true)))
noncomputable def fwdP (high right i j t:Nat):Bool:=decide (i+t<high)&&(decide (j+t<right)&&(eq (i+t) (j+t)&&(jk (i+t)&&true)))
noncomputable def eG (low high left right:Nat):Nat×Nat×Nat:=Classical.epsilon (bF (runL eq jk high right) (full low high left right) low left)
noncomputable def bZ (low high left right:Nat):Nat×Nat×Nat:=
 let b:=eG eq jk low high left right
 let t:=grow (bP eq jk low left b.1 b.2.1) b.1 0
 (b.1-t,b.2.1-t,grow (fwdP eq jk high right (b.1-t) (b.2.1-t)) high (b.2.2+t))
end
section
variable {eq:Nat→Nat→Bool}{jk:Nat→Bool}{low high left right:Nat}
theorem best_eq {b:Nat×Nat×Nat}(x:bF (runL eq jk high right) (full low high left right) low left b):eG eq jk low high left right=b:=
 (Classical.epsilon_spec (p:=bF (runL eq jk high right) (full low high left right) low left) ⟨b,x⟩).one x
end
theorem run_bound (eq:Nat→Nat→Bool)(jk:Nat→Bool){high right i j:Nat}:runL eq jk high right i j=0∨(i+runL eq jk high right i j≤high∧j+runL eq jk high right i j≤right):=by
 unfold runL
 generalize hr:grow (runP eq jk high right i j) (high-i) 0=r
 cases r with
 | zero=>exact .inl rfl
 | succ r=>
  have:runP eq jk high right i j r=true:=dU (f:=high-i) (k:=0) (lC _) (by rw[hr];exact nE _)
  unfold runP at this
  have h1:=mT.1 this
  have a:=of_decide_eq_true h1.1
  have b:=of_decide_eq_true (mT.1 h1.2).1
  exact .inr ⟨by lia,by lia⟩
theorem of_nd {p:Prop}[Decidable p](h:(!decide p)=true):¬p:=by simpa using h
theorem of_nd' {p:Prop}[Decidable p](h:(!decide p)=false):p:=by simpa using h
theorem eS (a b:Nat):((a:Int)==(b:Int))=decide (a=b):=by rw[lI];simp;lia
theorem int_ned (a b:Nat):((a:Int) != (b:Int))=!decide (a=b):=by rw[bne,eS]
noncomputable def pull {prog:kQ}{w:jS}{K:Type}[DecidableEq K](knd:KeyKind prog w K)(f:Nat→K)(hf:∀a b,f a=f b→a=b):KeyKind prog w Nat:=
 ⟨fun k v=>knd.is (f k) v,fun k=>knd.hash (f k),fun v a b h1 h2=>hf _ _ (knd.inj v _ _ h1 h2),fun k v h=>knd.byValue _ v h,fun h q=>knd.pyHash h q,
  fun {A E s a b u v Q} h1 h2 q=>knd.eqBool h1 h2 (by
   have:decide (f a=f b)=decide (a=b):=by
    rw[lI];simp;exact⟨hf _ _,fun e=>by rw[e]⟩
   rw[this];exact q),fun k x t v h=>knd.«strs» _ x t v h⟩
noncomputable def kk (w:jS)(md:Bool):KeyKind PW w Nat:=match md with
 | false=>pull (intKind PW w) (fun n=>(n:Int)) fun a b h=>by lia
 | true=>pull (strKind PW w) (fun n=>⟨#[n]⟩) fun a b h=>by injection h with h;simpa using h
noncomputable def El (md:Bool)(k:Nat)(v:jL):Prop:=match md with
 | false=>∃t,v=.int (k:Nat) t
 | true=>∃t,v=.str ⟨#[k]⟩ t
noncomputable def SeqV (md:Bool)(B:Base)(v:jL)(ks:List Nat):Prop:=match md with
 | false=>∃a vs,v=.ref a∧Lst B a vs∧F2 (fun v k=>El false k v) vs ks
 | true=>∃t,v=.str ⟨ks.toArray⟩ t
theorem SeqV.le {md:Bool}{B B':Base}{v:jL}{ks:List Nat}(x:SeqV md B v ks)(l:Le B B'):SeqV md B' v ks:=by
 cases md with
 | false=>refine jI2 ?_ x;try clear x;intro a vs;refine jG3 ?_;intro e h i;exact jJ2 a vs (jH3 e (h.le l) i)
 | true=>exact x
theorem hO {w:jS}{md:Bool}{k:Nat}{v:jL}(x:El md k v):(kk w md).is k v=true:=by
 cases md with
 | false=>obtain⟨t,rfl⟩:=x;exact intKind_is PW w _ t
 | true=>obtain⟨t,rfl⟩:=x;exact strKind_is PW w _ t
theorem is_el {w:jS}{md:Bool}{k:Nat}{v:jL}(x:(kk w md).is k v=true):El md k v:=by
 cases md with
 | false=>exact Value.isInt_shape x
 | true=>exact Value.isStrOf_shape x
theorem el_scan {md:Bool}{k:Nat}{v:jL}(x:El md k v):v.scannable=true:=by
 cases md with
 | false=>obtain⟨t,rfl⟩:=x;rfl
 | true=>obtain⟨t,rfl⟩:=x;rfl
theorem fC {md:Bool}{B:Base}{v:jL}{ks:List Nat}(x:SeqV md B v ks):handedOut v=pure v:=by
 cases md with
 | false=>refine jI2 ?_ x;try clear x;intro a vs;refine jG2 ?_;intro zz1 _;obtain rfl:=zz1;rfl
 | true=>obtain⟨t,rfl⟩:=x;rfl
section
variable {w:jS}{A:jV}{C:Cx}{m mg mb:kJ→Option jL}{B:Base}{M:List (jQ×kK)}
 {h:kI} {g:Array jX} {d:kU} {t:Nat} {os:jU} {env:Env} {Q:jL→jP→Prop} {QF:kS→jP→Prop} {QP:jL×List jL→jP→Prop} {E:jL→jP→Prop}
theorem eH {md:Bool}{v:jL}{ks:List Nat}{value slice:Expr}{i:Int}{u:Tok}(n:Nat)(S:St C B h m M)(hv:SeqV md B v ks)(e:i=n)(h1:n<ks.length)(hf:ks.length≤1000)
  (k:∀x t',El md (ks.getD n 0) x→Q x ⟨h,g,d,t',os⟩)
  (hs:autoParam (∀v,subscripted slice false v (.int i u)=operate [v,.int i u] (getItem v (.int i u))) tW) (hg:autoParam (∀v r,letTemporaryGo value v r=pure ()) tW):
  jN (jM PW w) A (subscriptTail value slice v (.int i u)) Q E ⟨h,g,d,t,os⟩:=by
 injection S hv e h1 hf k hs hg with w A C m B M h g d t os Q E md v ks value slice i u n
 have hx:ks[n]? =some (ks.getD n 0):=by rw[mH h1];simp[h1]
 cases md with
 | false=>
  refine jI2 ?_ hv;try clear hv;intro a vs;refine jG3 ?_;intro zz2 hl hi;obtain rfl:=zz2
  refine jI1 ?_ (hi.get' hx);intro x;refine jG2 ?_;intro hxv hx
  exact item_list (hl.at S) (by lia) (by lia) (x:=x) (by rw[e,nY];simpa using hxv) (k _ _ hx) (hs _) (hg _)
 | true=>
  obtain⟨tk,rfl⟩:=hv
  refine subscriptTail_builtin (typeIs_str _ _ _) PySem.F.slot_str_getitem.lookup (PySem.P.getItem_str (c:=ks.getD n 0) ?_ ?_ (k _ _ ⟨_,rfl⟩)) (hs _) (hg _)
  ·rw[decide_eq_false (by lia),decide_eq_false (by lia)];rfl
  ·have:seqIndex? i (oG ⟨ks.toArray⟩)=some n:=by
    unfold seqIndex? oG
    rw[e]
    simp;exact(by rw[if_neg (Int.not_lt.2 (qP n))];exact⟨⟨qP n,mS.2 h1⟩,rfl⟩)
   rw[this]
   simpa using hx
theorem r_len {md:Bool}{v:jL}{ks:List Nat}(S:St C B h m M)(hv:SeqV md B v ks)(hf:ks.length≤1000)(k:∀u t',Q (.int ks.length u) ⟨h,g,d,t',os⟩):
  jN (jM PW w) A (call (.builtin "len") [v]) Q E ⟨h,g,d,t,os⟩:=by
 cases md with
 | false=>
  refine jI2 ?_ hv;try clear hv;intro a vs;refine jG3 ?_;intro zz3 hl hi;obtain rfl:=zz3
  refine n_len S hl (by rw[hi.length];lia) fun u t'=>?_
  rw[hi.length];exact k u t'
 | true=>
  obtain⟨tk,rfl⟩:=hv
  refine PySem.P.len_str (by show ¬(((ks.toArray.size:Nat):Int)≥2 ^ 63);rw[lY];lia) ?_
  show Q (.int ((ks.toArray.size:Nat):Int) _) _
  rw[lY]
  exact k _ _
theorem r_eq {md:Bool}{k l:Nat}{x y:jL}(hx:El md k x)(hy:El md l y)(q:Q (.bool (decide (k=l))) ⟨h,g,d,t,os⟩):jN (jM PW w) A (compareOp .Eq x y) Q E ⟨h,g,d,t,os⟩:=by
 cases md with
 | false=>
  obtain⟨t1,rfl⟩:=hx
  obtain⟨t2,rfl⟩:=hy
  refine hX ?_
  rw[eS];exact q
 | true=>
  obtain⟨t1,rfl⟩:=hx
  obtain⟨t2,rfl⟩:=hy
  refine PySem.P.eq_str ?_
  have:((⟨#[k]⟩:kJ).cps.toList==(⟨#[l]⟩:kJ).cps.toList)=decide (k=l):=by rw[lI];simp
  rw[this];exact q
end
section
open PySem PySem.W PySem.Calls PyProof.Rows Builtin Builtin.ObjectAttr
theorem dg_slot:Slot "dict" "__getattribute__" "dict.__getattribute__":=
 .of (owner:="dict") (n:="__getattribute__") (by rw[jY,kH];kernel_rfl) (by decide +kernel) (by decide +kernel) (by decide +kernel)
  (by first | exact .inl (by decide +kernel) | exact .inr (by decide +kernel)) (by rw[isSubtype_type];kernel_rfl)
theorem dg_entry:entryFor table "dict.__getattribute__"=some Builtin.«object.__getattribute__»:=entryFor_alias (id':="object.__getattribute__") (by kernel_rfl) rfl (by decide +kernel) (by kernel_rfl)
theorem dg_args (a b:jL):argsOk "dict.__getattribute__" ⟨[a,b],[]⟩:=by unfold argsOk;kernel_rfl
theorem sg_slot:Slot "set" "__getattribute__" "set.__getattribute__":=
 .of (owner:="set") (n:="__getattribute__") (by rw[jY,kH];kernel_rfl) (by decide +kernel) (by decide +kernel) (by decide +kernel)
  (by first | exact .inl (by decide +kernel) | exact .inr (by decide +kernel)) (by rw[isSubtype_type];kernel_rfl)
theorem sg_entry:entryFor table "set.__getattribute__"=some Builtin.«object.__getattribute__»:=entryFor_alias (id':="object.__getattribute__") (by kernel_rfl) rfl (by decide +kernel) (by kernel_rfl)
theorem sg_args (a b:jL):argsOk "set.__getattribute__" ⟨[a,b],[]⟩:=by unfold argsOk;kernel_rfl
theorem md_slot:Slot "method_descriptor" "__get__" "method_descriptor.__get__":=
 .of (owner:="method_descriptor") (n:="__get__") (by rw[jY,kH];kernel_rfl) (by decide +kernel) (by decide +kernel) (by decide +kernel)
  (by first | exact .inl (by decide +kernel) | exact .inr (by decide +kernel)) (by rw[isSubtype_type];kernel_rfl)
theorem md_entry:entryFor table "method_descriptor.__get__"=some Builtin.«method_descriptor.__get__»:=entryFor_of_tree (by kernel_rfl)
theorem md_args (a b c:jL):argsOk "method_descriptor.__get__" ⟨[a,b,c],[]⟩:=by unfold argsOk;kernel_rfl
theorem md_set:kF (.type "method_descriptor") "__set__"=pure none:=by rw[jY,kH];kernel_rfl
theorem md_del:kF (.type "method_descriptor") "__delete__"=pure none:=by rw[jY,kH];kernel_rfl
theorem sc_typ:typeOf (.builtin "set.__contains__")=pure (.type "method_descriptor"):=by show builtinType _=_;rw[builtinType_eq_fast];kernel_rfl
noncomputable abbrev bmO (id:String)(a:jQ):kK:=⟨.type "builtin_function_or_method",none,.fields #[.builtin id,.ref a],#[]⟩
section
variable {w:jS}{A:jV}{M:Model}{E:jL→jP→Prop}{h:kI}{g:Array jX}{d:kU}{t:Nat}{os:jU}{Q:jL→jP→Prop}
noncomputable def MdGet (w:jS)(A:jV)(T id:String):Prop:=∀(a:jQ) (s:jP) (Q:jL→jP→Prop) (E:jL→jP→Prop),s.TypeIs (.ref a) T→Q (.ref s.heap.objs.size) {s with heap:=s.heap.push (bmO id a)}→
 kN (jM PW w) A (.call (.builtin "method_descriptor.__get__") ⟨[.builtin id,.ref a,.type T],[]⟩) (fun r s'=>match r with | .ok (.ret v)=>Q v s' | .ok _=>False | .error e=>E e s') s
theorem md_kind:builtinKind "method_descriptor.__get__"=some .slot:=by decide +kernel
theorem md_split:splitId "method_descriptor.__get__"=some ("method_descriptor","__get__"):=by decide +kernel
theorem md_dict {A:jV}:MdGet w A "dict" "dict.get":=by
 revert w A;refine no_implicit_lambda% (hkI2 (neQ neW (neQ neA neU)) ?_);generalize hkc _ _=z;delta hU2;generalize pj0 z=w,pj1 z=A;clear z
 intro a s Q E hT k
 obtain⟨h,g,d,t,os⟩:=s
 refine jI1 ?_ hT;try clear hT;intro o;refine jG2 ?_;intro ho hc
 obtain⟨c,dd,dt,sl⟩:=o
 dsimp only at ho hc
 subst hc
 have L4:Looks (jM PW w) h (typeOf (.builtin "dict.get")) (.type "method_descriptor"):=Looks.of_pure PySem.F.type_dict_get
 have L8:Looks (jM PW w) h (isInstance (.builtin "dict.get") (.type "method_descriptor")) true:=L4.andThen (Looks.of_pure (by rw[isSubtype_type];kernel_rfl))
 have L1:Looks (jM PW w) h (typeOf (.ref a)) (.type "dict"):=(Looks.ld (part:=none) ho).andThen .now
 have L9:Looks (jM PW w) h (isInstance (.ref a) (.type "dict")) true:=L1.andThen (Looks.of_pure (by rw[isSubtype_type];kernel_rfl))
 refine codeAny_call_builtin md_slot.plain md_entry ?_
 refine check_slot (i:="method_descriptor.__get__") (owner:="method_descriptor") (n:="__get__") (self:=.builtin "dict.get") (rest:=[.ref a,.type "dict"]) md_kind md_split L8 (md_args _ _ _) ?_
 unfold Builtin.«method_descriptor.__get__»
 repeat lk
 exact k
theorem md_set' {A:jV}:MdGet w A "set" "set.__contains__":=by
 revert w A;refine no_implicit_lambda% (hkI2 (neQ neW (neQ neA neU)) ?_);generalize hkc _ _=z;delta hU2;generalize pj0 z=w,pj1 z=A;clear z
 intro a s Q E hT k
 obtain⟨h,g,d,t,os⟩:=s
 refine jI1 ?_ hT;try clear hT;intro o;refine jG2 ?_;intro ho hc
 obtain⟨c,dd,dt,sl⟩:=o
 dsimp only at ho hc
 subst hc
 have L4:Looks (jM PW w) h (typeOf (.builtin "set.__contains__")) (.type "method_descriptor"):=Looks.of_pure sc_typ
 have L8:Looks (jM PW w) h (isInstance (.builtin "set.__contains__") (.type "method_descriptor")) true:=L4.andThen (Looks.of_pure (by rw[isSubtype_type];kernel_rfl))
 have L1:Looks (jM PW w) h (typeOf (.ref a)) (.type "set"):=(Looks.ld (part:=none) ho).andThen .now
 have L9:Looks (jM PW w) h (isInstance (.ref a) (.type "set")) true:=L1.andThen (Looks.of_pure (by rw[isSubtype_type];kernel_rfl))
 refine codeAny_call_builtin md_slot.plain md_entry ?_
 refine check_slot (i:="method_descriptor.__get__") (owner:="method_descriptor") (n:="__get__") (self:=.builtin "set.__contains__") (rest:=[.ref a,.type "set"]) md_kind md_split L8 (md_args _ _ _) ?_
 unfold Builtin.«method_descriptor.__get__»
 repeat lk
 exact k
theorem ga_bound {T ga id:String}{name:kJ}{a:jQ}{o:kK}(ho:h.get? a=some o)(hc:o.cls=.type T)(hd:o.dict=none)(hnc:∀c,o.data≠.cls c)(hcn:[kY "__module__",kY "__name__",kY "__qualname__",kY "__doc__",kY "__annotations__"].contains name=false)
  (gs:Slot T "__getattribute__" ga) (ge:entryFor table ga=some Builtin.«object.__getattribute__») (gA:∀a b,argsOk ga ⟨[a,b],[]⟩)
  (l1:kF (.type T) name=pure (some (.builtin id))) (l2:typeOf (.builtin id)=pure (.type "method_descriptor"))
  (mg:MdGet w A.in1 T id)
  (k:Q (.ref h.objs.size) ⟨h.push (bmO id a),g,d,t+1,os⟩):jN (jM PW w) A (getAttr (.ref a) name true) Q E ⟨h,g,d,t,os⟩:=by
 injection ho hc hd hnc hcn gs ge gA l1 l2 mg k with w A E h g d t os Q T ga id name a o
 obtain⟨c,dd,dt,sl⟩:=o
 dsimp only at hc hd
 subst hc hd
 have L1:Looks (jM PW w) h (typeOf (.ref a)) (.type T):=(Looks.ld (part:=none) ho).andThen .now
 have L2:Looks (jM PW w) h (kF (.type T) "__getattribute__") (some (.builtin ga)):=Looks.of_pure gs.lookup
 have L3:Looks (jM PW w) h (kF (.type T) name) (some (.builtin id)):=Looks.of_pure l1
 have L4:Looks (jM PW w) h (typeOf (.builtin id)) (.type "method_descriptor"):=Looks.of_pure l2
 have L5:Looks (jM PW w) h (kF (.type "method_descriptor") "__get__") (some (.builtin "method_descriptor.__get__")):=Looks.of_pure md_slot.lookup
 have L6:Looks (jM PW w) h (kF (.type "method_descriptor") "__set__") none:=Looks.of_pure md_set
 have L7:Looks (jM PW w) h (kF (.type "method_descriptor") "__delete__") none:=Looks.of_pure md_del
 refine jK (wpAny_mkText (kB (jK (L1.at (jK (L2.at ?_))))))
 dsimp only
 rw[show(onTheHeap (.type T)&&Value.builtin ga==Value.builtin "object.__getattribute__")=false from rfl,if_neg (by decide)]
 unfold getAttrByItsOwn hookBefore
 rw[show onTheHeap (.type T)=false from rfl]
 refine jK (jO (jK (wpAny_attempt (kB ?_))))
 unfold callGetattribute
 rw[show(true&&onTheHeap (Value.builtin ga))=false from rfl,if_neg (by decide)]
 unfold boundAndCalled
 rw[gs.bind]
 refine jK (jO ?_)
 show jN _ _ (call (.builtin ga) [.ref a,.str name t]) _ _ _
 refine wpAny_call (codeAny_call_builtin gs.plain ge (gs.check _ _ _ _ _ _ _ _ ⟨_,ho,rfl⟩ (gA _ _) ?_))
 unfold Builtin.«object.__getattribute__»
 have F:Looks (jM PW w) h (find (.ref a) (.type T) name) (.bind (.builtin "method_descriptor.__get__") (.builtin id)):=by
  intro A' Q' E' s' kk q
  obtain⟨hh,g',d',t',os'⟩:=s'
  have L3:=L3.keeps kk
  have L4:=L4.keeps kk
  have L5:=L5.keeps kk
  have L6:=L6.keeps kk
  have L7:=L7.keeps kk
  have ho:=kk _ _ ho
  dsimp only at L3 L4 L5 L6 L7 ho
  unfold find
  cases dt with
  | cls c=>exact absurd rfl (hnc c)
  | _=>
   repeat lk
   rw[hcn,if_neg qQ]
   repeat lk
   exact q
 repeat (first | with_reducible refine wpAny_call ?_ | lk)
 exact mg a _ _ _ ⟨_,ho,rfl⟩ (by
  refine jO ?_
  show jN _ _ (handedOut (.ref h.objs.size)) _ _ _
  exact jO k)
end
end
noncomputable def SetB (w:jS)(md:Bool)(B:Base)(a:jQ)(S:Nat→Bool):Prop:=∃o n,B a=some o∧∀h:kI,h.get? a=some o→h.SetOf (kk w md) a S n
theorem SetB.le {w:jS}{md:Bool}{B B':Base}{a:jQ}{S:Nat→Bool}(x:SetB w md B a S)(l:Le B B'):SetB w md B' a S:=jI2 (fun o n=>jG2 fun e f=>(jJ2 o n ⟨l _ _ e,f⟩)) x
theorem set_mod:isSubtype (.type "set") (.type "module")=pure false:=by rw[isSubtype_type];kernel_rfl
theorem dict_mod:isSubtype (.type "dict") (.type "module")=pure false:=by rw[isSubtype_type];kernel_rfl
section
variable {w:jS}{A:jV}{h:kI}{g:Array jX}{d:kU}{t:Nat}{os:jU}{Q:jL→jP→Prop}{E:jL→jP→Prop}
theorem bm_contains {md:Bool}{k:Nat}{x:jL}{bm a:jQ}{S:Nat→Bool}{n:Nat}(hb:h.get? bm=some (bmO "set.__contains__" a))(hS:h.SetOf (kk w md) a S n)(hx:El md k x)
  (q:Q (.bool (S k)) ⟨h,g,d,t+1,os⟩):jN (jM PW w) A (call (.ref bm) [x]) Q E ⟨h,g,d,t,os⟩:=by
 injection hb hS hx q with w A h g d t os Q E md k x bm a S n
 have hS':=hS
 refine jI4 ?_ hS';try clear hS';intro zz1 es ep tb;refine jG4 ?_;intro ho zz2 hd _;obtain⟨c,dd,dt,sl⟩:=zz1;revert zz2;refine jG3 ?_;intro hc1 hc2 hc3
 dsimp only at hc1 hc2 hc3 hd
 subst hc1 hc2 hc3 hd
 have L1:Looks (jM PW w) h (typeOf (.ref a)) (.type "set"):=(Looks.ld (part:=none) ho).andThen .now
 have L2:Looks (jM PW w) h (isInstance (.ref a) (.type "module")) false:=L1.andThen (Looks.of_pure set_mod)
 refine wpAny_call (codeAny_of_tree ?_)
 show jN _ _ (callAny (.ref bm) _) _ _ _
 refine nd_load hb ?_
 dsimp only
 repeat lk
 refine⟨Code.quiet_builtin _ (by decide +kernel),codeAny_builtin entry_set_contains ?_⟩
 have hkey:=hO (w:=w) hx
 have hsc:=el_scan hx
 show jN _ _ (Builtin.«frozenset.__contains__» ⟨[.ref a,x],[]⟩) _ _ _
 unfold Builtin.«frozenset.__contains__» Builtin.Frozenset.oneOther
 simp only[List.isEmpty_nil,bind_assoc]
 unfold Builtin.Frozenset.addrOf Builtin.Frozenset.withSetAsKey setContains
 refine jK (jO ?_)
 try dsimp only
 refine jK (jO ?_)
 try dsimp only
 refine jK (wpAny_tryCatch ?_)
 refine kB (jK ((kk w md).pyHash hkey ?_))
 refine jK (wpAny_setFind_of (s:=⟨h,g,d,t+1,os⟩) hkey hsc hS fun r hr=>?_)
 refine jO ?_
 show jN _ _ (ret (Value.bool r.isSome)) _ _ _
 rw[hr]
 exact jO q
theorem bm_get {K:Type}[DecidableEq K]{knd:KeyKind PW w K}{k:K}{key dflt:jL}{bm a:jQ}{f:K→Option jL}(hb:h.get? bm=some (bmO "dict.get" a))(hm:h.MapOf knd a f)(hx:knd.is k key=true)(hn:(a==sysModules)=false)
  (q:Q ((f k).getD dflt) ⟨h,g,d,t+1,os⟩):jN (jM PW w) A (call (.ref bm) [key,dflt]) Q E ⟨h,g,d,t,os⟩:=by
 have hm':=hm
 refine jI3 ?_ hm';try clear hm';intro zz3 es ep;refine jG4 ?_;intro ho zz4 hd _;obtain⟨c,dd,dt,sl⟩:=zz3;revert zz4;refine jG3 ?_;intro hc1 hc2 hc3
 dsimp only at hc1 hc2 hc3 hd
 subst hc1 hc2 hc3 hd
 have L1:Looks (jM PW w) h (typeOf (.ref a)) (.type "dict"):=(Looks.ld (part:=none) ho).andThen .now
 have L2:Looks (jM PW w) h (isInstance (.ref a) (.type "module")) false:=L1.andThen (Looks.of_pure dict_mod)
 refine wpAny_call (codeAny_of_tree ?_)
 show jN _ _ (callAny (.ref bm) _) _ _ _
 refine nd_load hb ?_
 dsimp only
 repeat lk
 refine⟨Code.quiet_builtin _ (by decide +kernel),codeAny_builtin PySem.F.entry_dict_get ?_⟩
 exact meets_dict_get_default knd a hx hn dflt A (wants Q E) ⟨h,g,d,t,os⟩ ⟨f,hm,q⟩
end
theorem ma_f1 (P:jT):specialIn (KF P) (.ref 135) "__call__"=some (some (.builtin "type.__call__")):=by kernel_rfl!
theorem ma_f2 (P:jT):instIn (KF P) (.ref 135) (.type "type")=some true:=by kernel_rfl!
theorem ma_f3 (P:jT):findIn (KF P) (.ref 135) "__init__"=some (some (.builtin "object.__init__")):=by kernel_rfl!
theorem ma_f4 (P:jT):subIn (KF P) (.ref 135) (.type "tuple")=some true:=by kernel_rfl!
theorem ma_f5 (P:jT):subIn (KF P) (.ref 135) (.ref 135)=some true:=by kernel_rfl!
theorem ma_f6 (P:jT):readsIn (KF P) 135 (.type "type")=true:=by kernel_rfl!
theorem ma_f7 (P:jT):findCls (KF P) (.ref 135) (.type "type") "__new__"=some (.get (.builtin "staticmethod.__get__") (.ref 136) .none (.ref 135)):=by kernel_rfl!
theorem ma_f8 (P:jT):findCls (KF P) (.ref 135) (.type "type") "_make"=some (.get (.builtin "classmethod.__get__") (.ref 91) .none (.ref 135)):=by kernel_rfl!
theorem ma_f9 (P:jT):recIn (KF P) 136 "staticmethod"=some [.ref 82]:=by kernel_rfl!
theorem ma_f10 (P:jT):recIn (KF P) 91 "classmethod"=some [.ref 89,.bool false]:=by kernel_rfl!
section
variable {w:jS}{A:jV}{M:Model}{E:jL→jP→Prop}{h:kI}{g:Array jX}{d:kU}{t:Nat}{os:jU}
theorem ma_mro (X:(KF w.params).In h):Looks M h (mroOf (.ref 135)) [.ref 135,.type "tuple",.type "object"]:=by
 intro A Q E s k q
 unfold mroOf
 unfold classData
 exact jK (jK (wpAny_load (k _ _ (X 135 (o_135 w.params) rfl)) (jO (jO q))))
theorem iG (X:(KF w.params).In h):Looks M h (Bind.madeBy (.ref 135)) none:=by
 intro A Q E s k q
 unfold Bind.madeBy
 refine jK (ma_mro X A _ E s k ?_)
 rw[oV]
 refine jK (jK (jK (jK (wpAny_loadPart (k _ _ (X 135 (o_135 w.params) rfl)) (jO ?_)))))
 exact jO (jO (jO q))
theorem ma_base (X:(KF w.params).In h):Looks M h (Bind.staticBase (.ref 135)) (.type "tuple"):=by
 have hC:=X 135 (o_135 w.params) rfl
 have m1:=ma_mro (M:=M) X
 have m2:=iG (M:=M) X
 intro A Q E s k q
 obtain⟨hh,g,d,t,os⟩:=s
 have m1:=m1.keeps k
 have m2:=m2.keeps k
 have hC:=k _ _ hC
 have m3:Looks M hh (Bind.madeBy (.type "tuple")) (some "tuple.__new__"):=Looks.of_pure PySem.F.called_tuple.made
 dsimp only at hC m1 m2
 unfold Bind.staticBase
 repeat lk
 exact q
end
theorem tn_split:splitId "tuple.__new__"=some ("tuple","__new__"):=by decide +kernel
theorem tn_kind:builtinKind "tuple.__new__"=some .builtinFn:=by decide +kernel
theorem tn_row:Manifest.signature? "tuple.__new__"=some ⟨.constructor,"tuple","tuple",.cls,[⟨"iterable",.posOnly,false⟩]⟩:=by kernel_rfl
section
variable {w:jS}{A:jV}{C:Cx}{m mg mb:kJ→Option jL}{B:Base}{M:List (jQ×kK)}
 {h:kI} {g:Array jX} {d:kU} {t:Nat} {os:jU} {env:Env} {Q:jL→jP→Prop} {E:jL→jP→Prop}
noncomputable def MtO (B:Base)(a:jQ)(vs:List jL):Prop:=∃dd n,B a=some ⟨.ref 135,some dd,.seq vs.toArray n,#[]⟩
theorem tn_call {tp:jQ}{T:String}{o:kK}{items:Array jL}{n:Nat}(X:(KF w.params).In h)(hT:T="list"∨T="tuple")(ho:h.get? tp=some o)(hc:o.cls=.type T)(hd:o.data=.seq items n)(hsz:items.size≤kC)
  (k:∀h₁:kI,(∀b o',h.get? b=some o'→h₁.get? b=some o')→Q (.ref (h₁.objs.size+1)) ⟨(h₁.push {cls:=.type "dict",data:=.dict #[]}).push {cls:=.ref 135,dict:=some h₁.objs.size,data:=.seq items},g,d,t,os⟩):
  jN (jM PW w) A (call (.builtin "tuple.__new__") [.ref 135,.ref tp]) Q E ⟨h,g,d,t,os⟩:=by
 injection X hT ho hc hd hsz k with w A h g d t os Q E tp T o items n
 have f2:=looks_instIn (M:=jM PW w) X (ma_f2 w.params)
 have f3:=looks_findIn (M:=jM PW w) X (ma_f3 w.params)
 have f4:=looks_subIn (M:=jM PW w) X (ma_f4 w.params)
 have f5:=ma_mro (M:=jM PW w) X
 have f6:=iG (M:=jM PW w) X
 have f7:=ma_base (M:=jM PW w) X
 have f8:Looks (jM PW w) h (Bind.madeBy (.type "tuple")) (some "tuple.__new__"):=Looks.of_pure PySem.F.called_tuple.made
 have hC:=X 135 (o_135 w.params) rfl
 refine wpAny_call (codeAny_call_builtin_code (Code.quiet_builtin _ (by decide +kernel)) ?_)
 simp only[checkBuiltinCall,tn_kind,tn_split,tn_row]
 repeat lk
 refine codeAny_builtin PySem.F.entry_tuple_new ?_
 have hmh:Looks (jM PW w) h (Bind.madeHere "tuple.__new__" (.ref 135)) ():=f7.andThen (f8.andThen (Looks.of_pure (by simp only[Option.map_some,bne_self_eq_false,oW,if_false])))
 unfold Builtin.«tuple.__new__»
 repeat (first | with_reducible refine wpAny_collect_seq (s:=⟨h,g,d,t,os⟩) tp hT ho hc hd (fun h₁ hk=>?_) hsz | lk)
 have hC₁:((h₁.push {cls:=.type "dict",data:=.dict #[]}).push {cls:=.ref 135,dict:=some h₁.objs.size,data:=.seq items}).get? 135=some (o_135 w.params):=lS _ (lS _ (hk _ _ hC))
 have k:=k h₁ hk
 rw[show Nat.decLt kC items.size=.isFalse (lU.2 hsz) from Subsingleton.elim _ _]
 show jN _ _ (newObjAsIs (.ref 135) (.seq items) (some h₁.objs.size)) _ _ _
 unfold newObjAsIs classHasDel
 refine jK (wpAny_alloc (jK (jK (wpAny_load hC₁ (jO ?_)))))
 refine jO (jO ?_)
 rw[mK]
 exact k
end
theorem tt_typ:typeOf (.type "tuple")=pure (.type "type"):=by kernel_rfl
theorem tt_hand:handedIn (.builtin "tuple.__new__")=true:=by decide +kernel
theorem tt_stub:Manifest.isStub "tuple"=false:=by decide +kernel
theorem tt_find:findCls [] (.type "tuple") (.type "type") "__new__"=some (.val (.builtin "tuple.__new__")):=by kernel_rfl
section
variable {w:jS}{A:jV}{C:Cx}{m mg mb:kJ→Option jL}{B:Base}{M:List (jQ×kK)}
 {h:kI} {g:Array jX} {d:kU} {t:Nat} {os:jU} {env:Env} {Q:jL→jP→Prop} {QP:jL×List jL→jP→Prop} {E:jL→jP→Prop}
theorem MtO.le {B B':Base}{a:jQ}{vs:List jL}(x:MtO B a vs)(l:Le B B'):MtO B' a vs:=jI2 (fun dd n e=>(jJ2 dd n (l _ _ e))) x
theorem tn_at {tp:jQ}{T:String}{o:kK}{vs:List jL}{n:Nat}(S:St C B h m M)(G:Gr w mg mb B)(hT:T="list"∨T="tuple")(ho:h.get? tp=some o)(hc:o.cls=.type T)(hd:o.data=.seq vs.toArray n)(hsz:vs.length≤kC)
  (k:∀h' a B',Le B B'→MtO B' a vs→St C B' h' m M→Q (.ref a) ⟨h',g,d,t,os⟩):
  jN (jM PW w) A (call (.builtin "tuple.__new__") [.ref 135,.ref tp]) Q E ⟨h,g,d,t,os⟩:=by
 refine tn_call (G.at S.b) hT ho hc hd (by rw[lY];exact hsz) fun h₁ hk=>?_
 have S₁:=(S.kp ⟨hk⟩).kp (Kp.push h₁ {cls:=.type "dict",data:=.dict #[]})
 have S₂:=S₁.froz {cls:=.ref 135,dict:=some h₁.objs.size,data:=.seq vs.toArray} rfl
 have e:(h₁.push {cls:=.type "dict",data:=.dict #[]}).objs.size=h₁.objs.size+1:=mK ..
 have e2:=aV {cls:=.ref 135,dict:=some h₁.objs.size,data:=.seq vs.toArray} S₁.freshB
 have e3:=aM B (h₁.push {cls:=.type "dict",data:=.dict #[]}).objs.size {cls:=.ref 135,dict:=some h₁.objs.size,data:=.seq vs.toArray}
 rw[e] at S₂ e2 e3
 exact k _ _ _ e2 (jJ2 _ _ e3) S₂
theorem no_old {h:kI}:∀b o,({objs:=#[]}:kI).get? b=some o→h.get? b=some o:=fun b o e=>by
  have:=lM e;simp at this
theorem in_nil (h:kI):Frag.In [] h:=fun _ _ e=>by cases e
theorem gm_gen {T:String}{name:kJ}{v:jL}{pl:Sem Bool}(S:St C B h m M)(ht:typeOf (.type T)=pure (.type "type"))(hs:Manifest.isStub T=false)
  (e:findCls [] (.type T) (.type "type") name=some (.val v)) (hh:handedIn v=true) (k:∀t',QP (v,[]) ⟨h,g,d,t',os⟩):
  jN (jM PW w) A (getMethod (.type T) name pl) QP E ⟨h,g,d,t,os⟩:=by
 refine jI1 ?_ S.ns;intro m';refine jG2 ?_;intro n _
 exact method_type (K:=[]) (h₀:={objs:=#[]}) (s:=⟨h,g,d,t,os⟩) (m:=m') (L:=C.L) ⟨n,no_old,lC _⟩ (in_nil _) ht hs e hh (k _)
theorem gm_tnew {pl:Sem Bool}{v:jL}{name:kJ}(hv:v=.type "tuple")(hn:name="__new__")(S:St C B h m M)(k:∀t',QP (.builtin "tuple.__new__",[]) ⟨h,g,d,t',os⟩):
  jN (jM PW w) A (getMethod v name pl) QP E ⟨h,g,d,t,os⟩:=by
 subst hn
 rw[hv]
 have f1:=tt_typ
 have f2:=tt_stub
 have f3:=tt_find
 have f4:=tt_hand
 generalize ("tuple":String)=T at f1 f2 f3⊢
 generalize (("__new__":String):kJ)=nm at f3⊢
 exact gm_gen S f1 f2 f3 f4 k
end
section
variable {w:jS}{A:jV}{s:jP}{mg mb:kJ→Option jL}{B:Base}
theorem c_mnew {va vb vc:jL}(G:Gr w mg mb B)(hB:∀a o,B a=some o→s.heap.get? a=some o)(hr:Room A 1):
  jN (jM PW w) A (call (.ref 82) [.ref 135,va,vb,vc]) (Ends B s fun v B'=>∃a,v=.ref a∧MtO B' a [va,vb,vc]) no s:=by
 refine' eP (o:=o_82 w.params) (binds:=[(kY "_cls",.ref 135),(kY "a",va),(kY "b",vb),(kY "size",vc)]) G hB hr.d' ?ho ?hd ?hcd ?hb ?c1 ?c2 ?c3 ?c4 ?c5 ?_
 case ho=>exact rfl
 case hd=>exact rfl
 case hcd=>exact rfl
 case hb=>exact BindsTo.of_eq rfl
 case c1=>decide
 case c2=>exact locs rfl
 case c3=>exact rfl
 case c4=>exact rfl
 case c5=>exact rfl
 intro C h t e1 e2 S e3 e4
 generalize hEe:envX _ _ C.L _ _ []=env
 have hE:aP C env:=hEe▸⟨rfl,rfl,rfl,rfl⟩
 subst hEe
 change St C B h (vars [(kY "size",vc),(kY "b",vb),(kY "a",va),(kY "_cls",.ref 135)]) [] at S
 clear hB hr;injection G e1 e2 e3 e4 hE S with w A s mg mb B va vb vc C h t
 refine aZ (bW ?_);intro _ _
 refine cN (aU (pl:=_) ?_)
 refine cM (v:=.type "tuple") S hE G (eU _) rfl ?_
 refine gm_tnew rfl rfl S ?_;intro _
 refine eE (aB (aA S hE (by exact rfl) ?_))
 refine aB (bM (aB (aA S hE (by exact rfl) ?_)))
 refine aB (aA S hE (by exact rfl) ?_)
 refine aB (aA S hE (by exact rfl) ?_)
 refine aC (bL S (lF rfl) ?_);intro h a1 B' le t1 S
 replace G:=G.le le
 refine aC ?_
 obtain⟨n,e⟩:=id t1
 refine tn_at S G (.inr rfl) (S.b _ _ e) rfl rfl (lF rfl) ?_;intro h a2 B' le t2 S
 exact S.ends e1 e2 e3 e4 ⟨_,rfl,t2⟩
end
theorem Room.under {A:jV}{k:Nat}{a:jQ}{vals:List jL}(r:Room A (k+1)):Room (A.under (.builtin "type.__call__" ⟨.ref a::vals,[]⟩)) k:=
 ⟨by have:=r.d;show A.depth+1+k<_;lia,by have:=r.u;show A.units+1+3*k+200<_;lia,r.h⟩
theorem ma_f11 (P:jT):subIn (KF P) (.ref 135) (.type "object")=some true:=by kernel_rfl!
theorem oi_args4 (a b c d:jL):argsOk "object.__init__" ⟨[a,b,c,d],[]⟩:=by unfold argsOk;kernel_rfl
section
variable {w:jS}{A:jV}{mg mb:kJ→Option jL}{B:Base}{h:kI}{g:Array jX}{d:kU}{t:Nat}{os:jU}{Q:jL→jP→Prop}{E:jL→jP→Prop}
theorem ma_getnew {expr:Bool}{name:kJ}(hn:name="__new__")(X:(KF w.params).In h)(k:Q (.ref 82) ⟨h,g,d,t+1,os⟩):jN (jM PW w) A (getAttr (.ref 135) name expr) Q E ⟨h,g,d,t,os⟩:=by
 subst hn
 exact cls_bind (s:=⟨h,g,d,t,os⟩) X (ma_f6 _) (ma_f7 _) (wpAny_call (sm_get (s:=⟨h,g,d,t+1,os⟩) X (ma_f9 _) (handed_on rfl k)))
theorem c_match {va vb vc:jL}{s:jP}(G:Gr w mg mb B)(hB:∀a o,B a=some o→s.heap.get? a=some o)(hr:Room A 4):
  jN (jM PW w) A (call (.ref 135) [va,vb,vc]) (Ends B s fun v B'=>∃a,v=.ref a∧MtO B' a [va,vb,vc]) no s:=by
 injection G hB hr with w A mg mb B va vb vc s
 obtain⟨h,g,d,t,os⟩:=s
 have X:(KF w.params).In h:=G.at hB
 have f1:=looks_specialIn (M:=jM PW w) X (ma_f1 w.params)
 have f2:=looks_instIn (M:=jM PW w) X (ma_f2 w.params)
 have f5:=ma_mro (M:=jM PW w) X
 have f6:=iG (M:=jM PW w) X
 have hC:=X 135 (o_135 w.params) rfl
 refine wpAny_call (codeAny_of_tree ?_)
 show jN _ _ (callAny (.ref 135) _) _ _ _
 refine nd_load hC ?_
 show jN _ _ (callAny.viaDunder (.ref 135) _) _ _ _
 unfold callAny.viaDunder
 refine jK (f1.at ?_)
 dsimp only
 rw[tc_bind]
 refine jK (jO (jK (jO ?_)))
 refine jO (a:=Fin.again (.call (.builtin "type.__call__") ⟨.ref 135::[va,vb,vc],[]⟩)) (And.intro rfl ?_)
 refine codeAny_call_builtin_at (Code.quiet_builtin _ (by decide +kernel)) entry_typeCall ?_
 refine check_slot (i:="type.__call__") (owner:="type") (n:="__call__") (self:=.ref 135) (rest:=[va,vb,vc]) tc_kind tc_split f2 (tc_args _ _ _) ?_
 unfold Builtin.«type.__call__»
 have hr':Room (A.under (Code.builtin "type.__call__" {pos:=[Value.ref 135,va,vb,vc]})) 1:=(hr.le (j:=2) (by decide)).under
 have cn:∀t',jN (jM PW w) (A.under (Code.builtin "type.__call__" {pos:=[Value.ref 135,va,vb,vc]})) (call (.ref 82) [.ref 135,va,vb,vc]) _ no ⟨h,g,d,t',os⟩:=fun t'=>c_mnew (s:=⟨h,g,d,t',os⟩) (va:=va) (vb:=vb) (vc:=vc) G hB hr'
 repeat (first | with_reducible refine ma_getnew rfl X ?_ | with_reducible refine jR (cn _) (fun v s' x=>?_) (fun _ _ x=>x.elim) | lk)
 refine jI4 ?_ x;try clear x;intro h' t' d' B';refine jG6 ?_;intro zz1 kp le lh nw;refine jI1 ?_;intro a;refine jG2 ?_;intro zz2;refine jI2 ?_;intro dd n;intro eo;obtain rfl:=zz1;obtain rfl:=zz2
 have ho:=lh _ _ eo
 have X':(KF w.params).In h':=(G.le le).at lh
 have t1:Looks (jM PW w) h' (typeOf (.ref a)) (.ref 135):=(Looks.ld (part:=none) ho).andThen .now
 have s1:=looks_subIn (M:=jM PW w) X' (ma_f5 w.params)
 have i1:=looks_findIn (M:=jM PW w) X' (ma_f3 w.params)
 have m1:=iG (M:=jM PW w) X'
 have b1:Looks (jM PW w) h' (bindSpecial (.builtin "object.__init__") (.ref a)) (.builtin "object.__init__",[.ref a]):=Looks.of_pure (oi_bind _)
 repeat (first | with_reducible refine wpAny_call ?_ | lk)
 have s2:=looks_subIn (M:=jM PW w) X' (ma_f11 w.params)
 have j1:Looks (jM PW w) h' (isInstance (.ref a) (.type "object")) true:=t1.andThen s2
 refine codeAny_call_builtin oi_plain entry_oi ?_
 refine check_slot (i:="object.__init__") (owner:="object") (n:="__init__") (self:=.ref a) (rest:=[va,vb,vc]) oi_kind oi_split j1 (oi_args4 _ _ _ _) ?_
 unfold Builtin.«object.__init__»
 repeat lk
 exact jJ4 h' t' d' B' (jH6 rfl kp le lh nw ⟨a,⟨rfl,jJ2 dd n eo⟩⟩)
end
section
variable (eq:Nat→Nat→Bool)(jk:Nat→Bool)
noncomputable def bD:Nat→Nat→Nat→Nat→Nat→List (Nat×Nat×Nat)
 | 0,_,_,_,_=>[]
 | n+1,low,high,left,right=>
  let c:=bZ eq jk low high left right
  if c.2.2=0 then [] else bD n low c.1 left c.2.1++c::bD n (c.1+c.2.2) high (c.2.1+c.2.2) right
noncomputable def aW (l:List (Nat×Nat×Nat)):List (Nat×Nat):=l.flatMap fun c=>(lW c.2.2).map fun k=>(c.1+k,c.2.1+k)
theorem bB {n low high left right:Nat}(h:(bZ eq jk low high left right).2.2=0):bD eq jk n low high left right=[]:=by
 cases n with
 | zero=>rfl
 | succ n=>rw[bD];exact if_pos h
theorem bY {n low high left right:Nat}(h:(bZ eq jk low high left right).2.2≠0):bD eq jk (n+1) low high left right =
  let c:=bZ eq jk low high left right
  bD eq jk n low c.1 left c.2.1++c::bD eq jk n (c.1+c.2.2) high (c.2.1+c.2.2) right:=by
 rw[bD];exact if_neg h
theorem eR (a:List (Nat×Nat×Nat))(c:Nat×Nat×Nat)(b:List (Nat×Nat×Nat)):aW (a++c::b)=aW a++((lW c.2.2).map fun k=>(c.1+k,c.2.1+k))++aW b:=by
 unfold aW
 rw[nQ,mO,nR]
theorem best_scan (R:Nat→Nat→Nat)(low left right:Nat):∀n m:Nat,m≤right-left→∃b,bF R (fun i j=>(low≤i∧i<low+n∧left≤j∧j<right)∨(i=low+n∧left≤j∧j<left+m)) low left b:=by
 intro n
 induction n with
 | zero=>
  intro m
  induction m with
  | zero=>exact fun _=>⟨(low,left,0),fun _=>⟨rfl,rfl⟩,fun e=>absurd rfl e,fun i j d=>by lia,fun i j d=>by lia⟩
  | succ m ih=>exact fun hm=>jI1 (fun b x=>⟨_,x.step (i:=low+0) (j:=left+m) (fun i' j'=>ar_11) (fun i' j' d=>ar_17 d)⟩) (ih (by lia))
 | succ n ihn=>
  intro m
  induction m with
  | zero=>exact fun _=>jI1 (fun b x=>⟨b,x.congr fun i j=>ar_12.trans (ar_14 ar_13)⟩) (ihn (right-left) (lE _))
  | succ m ih=>exact fun hm=>jI1 (fun b x=>⟨_,x.step (i:=low+(n+1)) (j:=left+m) (fun i' j'=>ar_11) (fun i' j' d=>ar_17 d)⟩) (ih (by lia))
theorem best_is (low high left right:Nat):bF (runL eq jk high right) (full low high left right) low left (eG eq jk low high left right):=by
 obtain⟨b,x⟩:=best_scan (runL eq jk high right) low left right (high-low) 0 (lC _)
 exact Classical.epsilon_spec (p:=bF (runL eq jk high right) (full low high left right) low left) ⟨b,x.congr fun i j=>by unfold full;exact ar_15.trans ar_12.symm⟩
theorem best_in {low high left right:Nat}(h1:low≤high)(h2:left≤right):let b:=eG eq jk low high left right;low≤b.1∧left≤b.2.1∧b.1+b.2.2≤high∧b.2.1+b.2.2≤right:=by
 have x:=best_is eq jk low high left right
 generalize eG eq jk low high left right=b at x
 dsimp only
 by_cases q:b.2.2=0
 ·have:=x.z q;exact ar_59 h1 h2 q this
 ·have a:=x.s q
  have d:=a.1
  unfold full at d
  have r:=run_bound eq jk (high:=high) (right:=right) (i:=b.1) (j:=b.2.1)
  rw[a.2] at r
  exact ar_58 d r
theorem fwd_bound {high right i j s f:Nat}(h1:i+s≤high)(h2:j+s≤right):s≤grow (fwdP eq jk high right i j) f s∧i+grow (fwdP eq jk high right i j) f s≤high∧j+grow (fwdP eq jk high right i j) f s≤right:=by
 refine⟨iJ,?_⟩
 have e1:grow (fwdP eq jk high right i j) f s≤high-i:=cR (by unfold fwdP;rw[decide_eq_false (by lia)];rfl) (Nat.le_sub_of_add_le' h1)
 have e2:grow (fwdP eq jk high right i j) f s≤right-j:=cR (by unfold fwdP;rw[show decide (j+(right-j)<right)=false from decide_eq_false (by lia)];simp) (by lia)
 exact⟨ar_38 h1 e1,ar_38 h2 e2⟩
theorem jF {low left i j f:Nat}(h1:low≤i)(h2:left≤j):grow (bP eq jk low left i j) f 0≤i-low∧grow (bP eq jk low left i j) f 0≤j-left:=by
 refine⟨cR (by unfold bP;rw[decide_eq_false (by lia)];rfl) (lC _),cR (by unfold bP;rw[show decide (left+(j-left)<j)=false from decide_eq_false (by lia)];simp) (lC _)⟩
theorem cL {low high left right:Nat}(h1:low≤high)(h2:left≤right):let c:=bZ eq jk low high left right;low≤c.1∧left≤c.2.1∧c.1+c.2.2≤high∧c.2.1+c.2.2≤right:=by
 have x:=best_in eq jk h1 h2
 unfold bZ
 generalize eG eq jk low high left right=b at x
 obtain⟨bi,bj,bk⟩:=b
 dsimp only at x⊢
 have y:=jF eq jk (low:=low) (left:=left) (i:=bi) (j:=bj) (f:=bi) (by lia) (by lia)
 generalize grow (bP eq jk low left bi bj) bi 0=t at y
 have z:=fwd_bound eq jk (high:=high) (right:=right) (i:=bi-t) (j:=bj-t) (s:=bk+t) (f:=high) (ar_34 y.1 x.2.2.1) (ar_34 y.2 x.2.2.2)
 exact jH3 (ar_50 x.1 y.1) (ar_50 x.2.1 y.2) z.2
theorem dS:∀n low high left right:Nat,low≤high→left≤right→(aW (bD eq jk n low high left right)).length≤high-low
 | 0,_,_,_,_,_,_=>lC _
 | n+1,low,high,left,right,h1,h2=>by
  by_cases q:(bZ eq jk low high left right).2.2=0
  ·rw[bB eq jk q];exact lC _
  ·rw[bY eq jk q]
   have x:=cL eq jk h1 h2
   dsimp only at x⊢
   generalize bZ eq jk low high left right=c at x
   rw[eR,lR,lR,lZ,oA]
   have a:=dS n low c.1 left c.2.1 (by lia) (by lia)
   have b:=dS n (c.1+c.2.2) high (c.2.1+c.2.2) right (by lia) (by lia)
   exact ar_52 a x.1 x.2.2.1 b
end
theorem gL (eq:Nat→Nat→Bool)(jk:Nat→Bool):∀n low high left right:Nat,low≤high→left≤right→∀p∈aW (bD eq jk n low high left right),p.1<high
 | 0,_,_,_,_,_,_=>fun p hp=>by cases hp
 | n+1,low,high,left,right,h1,h2=>by
  by_cases q:(bZ eq jk low high left right).2.2=0
  ·rw[bB eq jk q];intro p hp;cases hp
  ·rw[bY eq jk q]
   have x:=cL eq jk h1 h2
   dsimp only at x⊢
   generalize bZ eq jk low high left right=c at x
   rw[eR]
   intro p hp
   rcases lQ.1 hp with hp | hp
   ·rcases lQ.1 hp with hp | hp
    ·have:=gL eq jk n low c.1 left c.2.1 (by lia) (by lia) p hp;lia
    ·refine jI1 ?_ (mC.1 hp);intro k;refine jG2 ?_;intro hk zz1;obtain rfl:=zz1
     have:=nB.1 hk
     dsimp only
     lia
   ·exact gL eq jk n (c.1+c.2.2) high (c.2.1+c.2.2) right (by lia) (by lia) p hp
section
variable (eq:Nat→Nat→Bool)(jk:Nat→Bool)
noncomputable def bkP (low left i j t:Nat):Bool:=decide (low+t≤i)&&(decide (left+t≤j)&&(eq (i-t) (j-t)&&!jk (i-t)))
noncomputable def bk (low left i j:Nat):Nat:=grow (bkP eq jk low left i j) (i+1) 0
theorem bk_stop (low left i j:Nat):bkP eq jk low left i j (i-low+1)=false∨i<low:=by
 by_cases h:i<low
 ·exact .inr h
 ·refine .inl ?_
  unfold bkP
  rw[decide_eq_false (by lia)];rfl
theorem bk_end (low left i j:Nat):bkP eq jk low left i j (bk eq jk low left i j)=false:=by
 unfold bk
 by_cases h:i<low
 ·have:bkP eq jk low left i j 0=false:=by unfold bkP;rw[decide_eq_false (by lia)];rfl
  rw[cQ this];exact this
 ·exact eN (b:=i-low+1) ((bk_stop eq jk low left i j).resolve_right h) (lC _) (lB (pU (mN _ _)) (nX _ _))
theorem bk_all {low left i j t:Nat}(h:t<bk eq jk low left i j):bkP eq jk low left i j t=true:=dU (lC _) h
theorem bk_is {low left i j n:Nat}(h1:∀t,t<n→bkP eq jk low left i j t=true)(h2:bkP eq jk low left i j n=false)(h3:n≤i+1):bk eq jk low left i j=n:=grow_eq (lC _) (fun t _ h=>h1 t h) h2 (by lia)
theorem cY {low left i j t:Nat}:bkP eq jk low left i j t=true↔low+t≤i∧left+t≤j∧eq (i-t) (j-t)=true∧jk (i-t)=false:=by
 unfold bkP;simp[oX]
theorem dR {high right i j t:Nat}:runP eq jk high right i j t=true↔i+t<high∧j+t<right∧eq (i+t) (j+t)=true∧jk (i+t)=false:=by
 unfold runP;simp[oX]
theorem bk_le {low left i j:Nat}:bk eq jk low left i j=0∨(low+bk eq jk low left i j≤i+1∧left+bk eq jk low left i j≤j+1):=by
 generalize h:bk eq jk low left i j=n
 cases n with
 | zero=>exact .inl rfl
 | succ n=>
  have:=(cY eq jk).1 (bk_all eq jk (low:=low) (left:=left) (i:=i) (j:=j) (t:=n) (by lia))
  exact .inr ⟨by lia,by lia⟩
theorem bk_ge {low left i j n:Nat}(h:∀t,t<n→bkP eq jk low left i j t=true):n≤bk eq jk low left i j:=by
 rcases oF (bk eq jk low left i j) n with q | q
 ·have:=h _ q;rw[bk_end] at this;cases this
 ·exact q
theorem run_end (high right i j:Nat):runP eq jk high right i j (runL eq jk high right i j)=false:=by
 unfold runL
 by_cases h:i<high
 ·exact eN (b:=high-i) (by unfold runP;rw[decide_eq_false (by lia)];rfl) (lC _) (by lia)
 ·have:runP eq jk high right i j 0=false:=by unfold runP;rw[decide_eq_false (by omega)];rfl
  rw[cQ this];exact this
theorem iD {high right i j t:Nat}(h:t<runL eq jk high right i j):runP eq jk high right i j t=true:=dU (lC _) h
theorem run_ge {high right i j n:Nat}(h:∀t,t<n→runP eq jk high right i j t=true):n≤runL eq jk high right i j:=by
 rcases oF (runL eq jk high right i j) n with q | q
 ·have:=h _ q;rw[run_end] at this;cases this
 ·exact q
theorem bk_zero {low left i j:Nat}(h:¬(eq i j=true∧jk i=false)):bk eq jk low left i j=0:=by
 have:bkP eq jk low left i j 0=false:=by
  cases q:bkP eq jk low left i j 0 with
  | false=>rfl
  | true=>exact absurd ((cY eq jk).1 q).2.2 h
 exact cQ this
theorem bk_pos {low left i j:Nat}(h1:low≤i)(h2:left≤j)(h:eq i j=true∧jk i=false):bk eq jk low left i j=(if low<i∧left<j then bk eq jk low left (i-1) (j-1) else 0)+1:=by
 injection h1 h2 h with eq jk low left i j
 by_cases q:low<i∧left<j
 ·rw[if_pos q]
  refine bk_is eq jk (fun t ht=>?_) ?_ ?_
  ·cases t with
   | zero=>exact(cY eq jk).2 (jH4 (by omega) (by omega) (by simpa using h.1) (by simpa using h.2))
   | succ t=>
    have:=(cY eq jk).1 (bk_all eq jk (low:=low) (left:=left) (i:=i-1) (j:=j-1) (t:=t) (by lia))
    rw[show i-1-t=i-(t+1) by lia,show j-1-t=j-(t+1) by lia] at this
    exact(cY eq jk).2 (jH3 (by exact ar_43 q.1 this.1) (ar_43 q.2 this.2.1) this.2.2)
  ·have e:=bk_end eq jk low left (i-1) (j-1)
   generalize bk eq jk low left (i-1) (j-1)=n at e
   cases r:bkP eq jk low left i j (n+1) with
   | false=>rfl
   | true=>
    have x:=(cY eq jk).1 r
    rw[show i-(n+1)=i-1-n by lia,show j-(n+1)=j-1-n by lia] at x
    rw[(cY eq jk).2 (jH3 (by exact ar_42 x.1) (ar_42 x.2.1) x.2.2)] at e;cases e
  ·rcases bk_le eq jk (low:=low) (left:=left) (i:=i-1) (j:=j-1) with e | e<;>lia
 ·rw[if_neg q]
  refine bk_is eq jk (fun t ht=>?_) ?_ (by lia)
  ·have:t=0:=by lia
   subst this
   exact(cY eq jk).2 (jH4 (by omega) (by omega) (by simpa using h.1) (by simpa using h.2))
  ·cases r:bkP eq jk low left i j (0+1) with
   | false=>rfl
   | true=>have x:=(cY eq jk).1 r;lia
noncomputable def bK (b:Nat×Nat×Nat):Nat×Nat×Nat:=if b.2.2=0 then b else (b.1+1-b.2.2,b.2.1+1-b.2.2,b.2.2)
theorem best_ends {low high left right:Nat}{b:Nat×Nat×Nat}(x:bF (bk eq jk low left) (full low high left right) low left b):
  bF (runL eq jk high right) (full low high left right) low left (bK b):=by
 injection x with eq jk low high left right b
 obtain⟨bi,bj,k⟩:=b
 have toEnd:∀{i j r},full low high left right i j→r≤runL eq jk high right i j→0<r→full low high left right (i+r-1) (j+r-1)∧r≤bk eq jk low left (i+r-1) (j+r-1):=by
  intro i j r hf hr h0
  have l:=(dR eq jk).1 (iD eq jk (high:=high) (right:=right) (i:=i) (j:=j) (t:=r-1) (lP (pF h0 Nat.one_pos) hr))
  unfold full at hf⊢
  refine⟨by exact jH3 ((ar_19 h0 hf.1 l.1).1) ((ar_19 h0 hf.1 l.1).2) (ar_19 h0 hf.2.2.1 l.2.1),bk_ge eq jk fun t ht=>?_⟩
  have:=(dR eq jk).1 (iD eq jk (high:=high) (right:=right) (i:=i) (j:=j) (t:=r-1-t) (ar_40 ht hr))
  rw[show i+(r-1-t)=i+r-1-t by exact ar_20 ht,show j+(r-1-t)=j+r-1-t by exact ar_20 ht] at this
  exact(cY eq jk).2 (jH3 (by exact ar_41 hf.1 h0 ht) (ar_41 hf.2.2.1 h0 ht) this.2.2)
 unfold bK
 dsimp only
 by_cases hk:k=0
 ·rw[if_pos hk]
  subst hk
  refine⟨x.z,fun e=>absurd rfl e,fun i j d=>?_,fun i j d e n=>absurd rfl n⟩
  rcases Nat.eq_zero_or_pos (runL eq jk high right i j) with q | q
  ·exact mB q
  ·have:=toEnd d (lE _) q
   have m:=x.m _ _ this.1
   simp only at m
   lia
 ·rw[if_neg hk]
  have s:=x.s hk
  dsimp only at s
  have hd:=s.1
  unfold full at hd
  have hl:=bk_le eq jk (low:=low) (left:=left) (i:=bi) (j:=bj)
  rw[s.2] at hl
  have ge:k≤runL eq jk high right (bi+1-k) (bj+1-k):=run_ge eq jk fun t ht=>by
   have:=(cY eq jk).1 (bk_all eq jk (low:=low) (left:=left) (i:=bi) (j:=bj) (t:=k-1-t) (ar_40 ht (mB s.2.symm)))
   rw[show bi-(k-1-t)=bi+1-k+t by exact ar_21 (ar_51 ht hl).1 ht,show bj-(k-1-t)=bj+1-k+t by exact ar_21 (ar_51 ht hl).2 ht] at this
   exact(dR eq jk).2 (jH3 (by exact ar_49 (ar_51 ht hl).1 ht hd.2.1) (ar_49 (ar_51 ht hl).2 ht hd.2.2.2) this.2.2)
  have hm:∀i j,full low high left right i j→runL eq jk high right i j≤k:=fun i j d=>by
   rcases Nat.eq_zero_or_pos (runL eq jk high right i j) with q | q
   ·lia
   ·have:=toEnd d (lE _) q
    have m:=x.m _ _ this.1
    simp only at m
    lia
  have hst:full low high left right (bi+1-k) (bj+1-k):=by unfold full;exact jH3 ((ar_22 hk (hl.resolve_left hk).1 hd.2.1).1) ((ar_22 hk (hl.resolve_left hk).1 hd.2.1).2) (ar_22 hk (hl.resolve_left hk).2 hd.2.2.2)
  refine⟨fun e=>absurd e hk,fun _=>⟨hst,qM (hm _ _ hst) ge⟩,hm,fun i j d e _=>?_⟩
  dsimp only at e⊢
  have:=toEnd d (r:=k) (by lia) (by lia)
  have m:=x.m _ _ this.1
  have f:=x.f _ _ this.1 (qM m this.2) hk
  dsimp only at f
  unfold full at d
  exact ar_23 hk (hl.resolve_left hk).1 f
theorem bF.more {R:Nat→Nat→Nat}{D D':Nat→Nat→Prop}{low left:Nat}{b:Nat×Nat×Nat}(x:bF R D low left b)(h1:∀i j,D i j→D' i j)(h2:∀i j,D' i j→D i j∨R i j=0):bF R D' low left b:=
 ⟨x.z,fun n=>⟨h1 _ _ (x.s n).1,(x.s n).2⟩,fun i j d=>(h2 i j d).elim (x.m i j) fun e=>by lia,fun i j d e n=>(h2 i j d).elim (fun q=>x.f i j q e n) fun q=>absurd (e.symm.trans q) n⟩
end
noncomputable def poss (bs:List Nat)(k:Nat):List Nat:=(lW bs.length).filter fun j=>bs.getD j 0==k
theorem poss_mem {bs:List Nat}{k j:Nat}:j∈poss bs k↔j<bs.length∧bs.getD j 0=k:=by
 unfold poss;simp[List.mem_filter]
theorem poss_sorted (bs:List Nat)(k:Nat):(poss bs k).Pairwise (· < ·):=by
 unfold poss
 exact(List.pairwise_lt_range).filter _
section
variable {eq:Nat→Nat→Bool}{jk:Nat→Bool}{low high left right bi bj k:Nat}
theorem best_noL (x:bF (runL eq jk high right) (full low high left right) low left (bi,bj,k))(h1:low<bi)(h2:left<bj)(h3:eq (bi-1) (bj-1)=true)(h4:jk (bi-1)=false):False:=by
 by_cases hk:k=0
 ·have:=x.z hk;simp only at this;lia
 ·have s:=x.s hk
  simp only at s
  have d:=s.1
  unfold full at d
  have ge:k+1≤runL eq jk high right (bi-1) (bj-1):=run_ge eq jk fun t ht=>by
   cases t with
   | zero=>exact(dR eq jk).2 (jH4 (by exact(ar_24 h1 d.2.1).2) ((ar_24 h2 d.2.2.2).2) h3 h4)
   | succ t=>
    have:=(dR eq jk).1 (iD eq jk (high:=high) (right:=right) (i:=bi) (j:=bj) (t:=t) (by lia))
    rw[show bi+t=bi-1+(t+1) by exact ar_75 h1,show bj+t=bj-1+(t+1) by exact ar_75 h2] at this
    exact(dR eq jk).2 this
  have:=x.m (bi-1) (bj-1) (by unfold full;exact jH3 ((ar_24 h1 d.2.1).1) ((ar_24 h1 d.2.1).2) (ar_24 h2 d.2.2.2))
  simp only at this
  lia
theorem best_noR (x:bF (runL eq jk high right) (full low high left right) low left (bi,bj,k))(h1:bi+k<high)(h2:bj+k<right)(h3:eq (bi+k) (bj+k)=true)(h4:jk (bi+k)=false)(hl:low≤bi)(hl2:left≤bj):False:=by
 have ge:k+1≤runL eq jk high right bi bj:=run_ge eq jk fun t ht=>by
  by_cases q:t=k
  ·subst q;exact(dR eq jk).2 (jH4 h1 h2 h3 h4)
  ·by_cases hk:k=0
   ·lia
   ·have s:=x.s hk
    simp only at s
    exact iD eq jk (by rw[s.2];lia)
 have:=x.m bi bj (by unfold full;exact jH4 hl (mM (mQ _ _) h1) hl2 (mM (mQ _ _) h2))
 simp only at this
 lia
end
noncomputable abbrev eA:kK:={cls:=.type "dict",data:=.dict #[]}
theorem jC {w:jS}{K:Type}[DecidableEq K](knd:KeyKind PW w K):eA.IsDictOf knd []:=jJ2 (#[]) 0 (jH5 (jH3 rfl rfl rfl) rfl (fun _ he=>by simp at he) Pairs.nil oO)
section
variable {w:jS}{A:jV}{C:Cx}{m mg mb:kJ→Option jL}{B:Base}{M:List (jQ×kK)}
 {h:kI} {g:Array jX} {d:kU} {t:Nat} {os:jU} {env:Env} {Q:jL→jP→Prop} {QF:kS→jP→Prop} {QU:Unit→jP→Prop} {QP:jL×List jL→jP→Prop} {E:jL→jP→Prop}
 {K:Type} [DecidableEq K] {knd:KeyKind PW w K}
theorem St.big (S:St C B h m M)(G:Gr w mg mb B):340<h.objs.size:=S.blt (G.K 340 (o_340 w.params) rfl)
theorem St.drop {M':List (jQ×kK)}(S:St C B h m M)(hs:List.Sublist M' M):St C B h m M':={S with
 m:=fun p hp=>S.m p (hs.subset hp)
 nd:=(hs.map Prod.fst).nodup S.nd
 ow:=fun p hp=>S.ow p (hs.subset hp)}
theorem e_dict0 {pos:kW}(S:St C B h m M)(G:Gr w mg mb B)(k:∀h' a,(a==sysModules)=false→St C B h' m ([]++(a,eA)::M)→Q (.ref a) ⟨h',g,d,t,os⟩):
  jN (jM PW w) A (eval (.Dict [] [] pos) env) Q E ⟨h,g,d,t,os⟩:=by
 refine wpAny_Dict_empty (k _ _ ?_ (S.own _ rfl))
 have:=S.big G
 exact beq_eq_false_iff_ne.2 (by unfold sysModules;show h.objs.size≠1;lia)
theorem g_subs {o i:Expr}{pos:kW}{v:jL}(k:jN (jM PW w) A (eval o env) (fun ov s₂=>jN (jM PW w) A (eval i env) (fun iv s₃=>jN (jM PW w) A (setItem ov iv v) QU E s₃) E s₂) E ⟨h,g,d,t,os⟩):
  jN (jM PW w) A (assign (.Subscript o i pos) env v) QU E ⟨h,g,d,t,os⟩:=by
 rw[assign_Subscript]
 refine jK (kB (jR k (fun ov s₁ h₁=>jK (kB (jR h₁ (fun iv s₂ h₂=>jK (wpAny_standAt (jK (kB (jR h₂ (fun _ s₃ h₃=>?_) fun _ _ x=>x))))) fun _ _ x=>x))) fun _ _ x=>x))
 exact fun Γ p hΓ=>by rw[Sem.wp_release];exact h₃
theorem eJ {a:jQ}{o:kK}{kvs:List (K×jL)}(S:St C B h m M)(hm:(a,o)∈M)(ho:o.IsDictOf knd kvs):h.DictOf knd a kvs:=qA.2 ⟨o,(S.m _ hm).1,ho⟩
theorem d_set {M₁ M₂:List (jQ×kK)}{a:jQ}{o:kK}{kvs:List (K×jL)}{k:K}{key v:jL}(S:St C B h m (M₁++(a,o)::M₂))(ho:o.IsDictOf knd kvs)(hk:knd.is k key=true)(hsz:kvs.length≤kC)
  (q:∀h' t' o',o'.IsDictOf knd (stored kvs k v)→St C B h' m (M₁++(a,o')::M₂)→QU () ⟨h',g,d,t',os⟩):
  jN (jM PW w) A (setItem (.ref a) key v) QU E ⟨h,g,d,t,os⟩:=by
 refine wpAny_setItem_pairs (hsz:=hsz) hk (eJ S (lJ _ (kZ ..)) ho) fun h' hd hs=>?_
 refine jI1 ?_ (qA.1 hd);intro o';refine jG2 ?_;intro e i
 exact q h' _ o' i (S.chg hs e)
theorem dZ {o:kK}{kvs:List (K×jL)}(ho:o.IsDictOf knd kvs):o.cls=.type "dict"∧o.dict=none∧∀c,o.data≠.cls c:=by
 refine jI2 ?_ ho;try clear ho;intro es ep;refine jG3 ?_;intro hx hd _
 exact jH3 hx.1 hx.2.1 (fun c e=>by rw[hd] at e;cases e)
theorem a_dget {a:jQ}{o:kK}{kvs:List (K×jL)}(S:St C B h m M)(hm:(a,o)∈M)(ho:o.IsDictOf knd kvs)
  (k:∀h' t' b B',Le B B'→B' b=some (bmO "dict.get" a)→St C B' h' m M→Q (.ref b) ⟨h',g,d,t',os⟩):
  jN (jM PW w) A (getAttr (.ref a) "get" true) Q E ⟨h,g,d,t,os⟩:=
 let⟨h1,h2,h3⟩:=dZ ho
 ga_bound (S.m _ hm).1 h1 h2 h3 (by decide) dg_slot dg_entry dg_args PySem.F.slot_dict_get.lookup PySem.F.type_dict_get md_dict (k _ _ _ _ (aV _ S.freshB) (aM _ _ _) (S.froz _ rfl))
theorem a_scon {md:Bool}{a:jQ}{Sf:Nat→Bool}(S:St C B h m M)(hs:SetB w md B a Sf)
  (k:∀h' t' b B',Le B B'→B' b=some (bmO "set.__contains__" a)→St C B' h' m M→Q (.ref b) ⟨h',g,d,t',os⟩):
  jN (jM PW w) A (getAttr (.ref a) "__contains__" true) Q E ⟨h,g,d,t,os⟩:=by
 refine jI2 ?_ hs;try clear hs;intro o n;refine jG2 ?_;intro e f
 refine jI4 ?_ (f h (S.b _ _ e));intro o' es ep tb;refine jG4 ?_;intro ho hc hd _
 have:o=o':=by have:=S.b _ _ e;rw[ho] at this;exact(Option.some.inj this).symm
 subst this
 exact ga_bound ho hc.1 hc.2.1 (fun c q=>by rw[hd] at q;cases q) (by decide) sg_slot sg_entry sg_args PySem.F.slot_set_contains.lookup sc_typ md_set' (k _ _ _ _ (aV _ S.freshB) (aM _ _ _) (S.froz _ rfl))
theorem f_bm {pos:kW}{b a:jQ}{id:String}{e:Expr}{rest:List Expr}(hb:B b=some (bmO id a))
  (k:jN (jM PW w) A (spliced (backTo pos (kD (e::rest) env))) (fun vs s₁=>s₁.heap.get? b=some (bmO id a)∧jN (jM PW w) A (call (.ref b) vs) Q E s₁) E ⟨h,g,d,t,os⟩)
  (he:autoParam (kD (e::rest) env=(false,eval e env)::kD rest env) tR) (hplain:autoParam ((backTo pos (kD rest env)).any (·.1)=false) tR):
  jN (jM PW w) A (callWith pos (.ref b) [] (backTo pos (kD (e::rest) env)) []) Q E ⟨h,g,d,t,os⟩:=by
 rw[he] at k⊢
 refine callWith_of (P:=fun h=>h.get? b=some (bmO id a)) (by show((false||(backTo pos (kD rest env)).any (·.1))||false)=false;rw[hplain];rfl) (fun h X=>⟨.machine,.inr (.inl rfl),?_⟩) (evalArgs_plain k)
 exact(Looks.ld (part:=none) X).andThen .now
theorem d_getb {b a:jQ}{o:kK}{kvs:List (K×jL)}{k:K}{key dflt:jL}(S:St C B h m M)(hb:B b=some (bmO "dict.get" a))(hm:(a,o)∈M)(ho:o.IsDictOf knd kvs)(hk:knd.is k key=true)(hn:(a==sysModules)=false)
  (q:∀t',Q ((valueAt kvs k).getD dflt) ⟨h,g,d,t',os⟩):jN (jM PW w) A (call (.ref b) [key,dflt]) Q E ⟨h,g,d,t,os⟩:=
 bm_get (S.b _ _ hb) (eJ S hm ho).mapOf hk hn (q _)
theorem s_conb {md:Bool}{b a:jQ}{Sf:Nat→Bool}{k:Nat}{x:jL}(S:St C B h m M)(hb:B b=some (bmO "set.__contains__" a))(hs:SetB w md B a Sf)(hx:El md k x)
  (q:∀t',Q (.bool (Sf k)) ⟨h,g,d,t',os⟩):jN (jM PW w) A (call (.ref b) [x]) Q E ⟨h,g,d,t,os⟩:=
 let⟨o,n,e,f⟩:=hs
 bm_contains (S.b _ _ hb) (f h (S.b _ _ e)) hx (q _)
noncomputable def DictB {w:jS}{K:Type}[DecidableEq K](knd:KeyKind PW w K)(B:Base)(a:jQ)(kvs:List (K×jL)):Prop:=(a==sysModules)=false∧∃o,B a=some o∧o.IsDictOf knd kvs
theorem DictB.le {B B':Base}{a:jQ}{kvs:List (K×jL)}(x:DictB knd B a kvs)(l:Le B B'):DictB knd B' a kvs:=let⟨n,o,e,i⟩:=x;⟨n,o,l _ _ e,i⟩
theorem gm_dget {a:jQ}{kvs:List (K×jL)}{pl:Sem Bool}(S:St C B h m M)(hd:DictB knd B a kvs)(k:QP (.builtin "dict.get",[.ref a]) ⟨h,g,d,t,os⟩):
  jN (jM PW w) A (getMethod (.ref a) "get" pl) QP E ⟨h,g,d,t,os⟩:=by
 refine jG2 ?_ hd;try clear hd;intro _;refine jI1 ?_;intro o;refine jG2 ?_;intro e i
 refine jG3 ?_ (dZ i);intro h1 h2 h3
 exact getMethod_builtin ⟨o,S.b _ _ e,h1⟩ PySem.F.plainAttrs_dict PySem.F.slot_dict_get PySem.F.type_dict_get (fun b q=>by cases q;exact⟨o,⟨S.b _ _ e,h2⟩⟩) k
theorem d_get3 {a:jQ}{kvs:List (K×jL)}{k:K}{key dflt:jL}(S:St C B h m M)(hd:DictB knd B a kvs)(hk:knd.is k key=true)
  (q:∀t',Q ((valueAt kvs k).getD dflt) ⟨h,g,d,t',os⟩):jN (jM PW w) A (call (.builtin "dict.get") [.ref a,key,dflt]) Q E ⟨h,g,d,t,os⟩:=by
 refine jG2 ?_ hd;try clear hd;intro hn;refine jI1 ?_;intro o;refine jG2 ?_;intro e i
 refine jG3 ?_ (dZ i);intro h1 h2 h3
 exact call_meetsIn PySem.F.slot_dict_get ⟨o,S.b _ _ e,h1⟩ PySem.F.entry_dict_get (PySem.F.args_dict_get_3 _ _ _) (meets_dict_get_default knd a hk hn dflt) ⟨_,(qA.2 ⟨o,S.b _ _ e,i⟩).mapOf,q _⟩
end
theorem iM {K:Type}[DecidableEq K](kvs:List (K×jL))(k:K)(v:jL)(j:K):valueAt (stored kvs k v) j=if j=k then some v else valueAt kvs j:=by
 unfold stored
 by_cases h:kvs.any (fun kv=>decide (kv.1=k))=true
 ·rw[if_pos h]
  unfold valueAt
  induction kvs with
  | nil=>simp at h
  | cons kv r ih=>
   rw[mD,oY]
   by_cases q:kv.1=k
   ·rw[if_pos q]
    by_cases hj:j=k
    ·subst hj;simp[q]
    ·rw[if_neg hj]
     have h1:¬kv.1=j:=fun e=>hj (e.symm.trans q)
     simp only[h1,decide_false,oY]
     have:∀l:List (K×jL),List.find? (fun kv=>decide (kv.1=j)) (l.map fun kv=>if kv.1=k then (kv.1,v) else kv)=List.find? (fun kv=>decide (kv.1=j)) l:=by
      intro l
      induction l with
      | nil=>rfl
      | cons x l ih=>
       rw[mD,oY,oY]
       by_cases qx:x.1=k
       ·rw[if_pos qx]
        have h2:¬x.1=j:=fun e=>hj (e.symm.trans qx)
        simp only[h2,decide_false];exact ih
       ·rw[if_neg qx];rw[ih]
     rw[this]
   ·rw[if_neg q]
    have h':r.any (fun kv=>decide (kv.1=k))=true:=by rw[List.any_cons] at h;simpa[q] using h
    by_cases hj:kv.1=j
    ·have:¬j=k:=fun e=>q (hj.trans e)
     simp[hj,this,oY]
    ·simp only[hj,decide_false,oY];exact ih h'
 ·rw[if_neg h]
  unfold valueAt
  rw[List.find?_append]
  by_cases hj:j=k
  ·subst hj
   have:List.find? (fun kv=>decide (kv.1=j)) kvs=none:=by
    rw[List.find?_eq_none]
    intro x hx q
    exact h (List.any_eq_true.2 ⟨x,hx,q⟩)
   rw[this];simp
  ·rw[if_neg hj]
   have:¬k=j:=fun e=>hj e.symm
   cases List.find? (fun kv=>decide (kv.1=j)) kvs<;>simp[oY,this]
noncomputable def NV (v:jL)(n:Nat):Prop:=∃t,v=.int (n:Nat) t
noncomputable def B2J (w:jS)(md:Bool)(B:Base)(db:jQ)(bs:List Nat)(jk:Nat→Bool):Prop:=∃kvs,DictB (kk w md) B db kvs∧∀k,(k∈bs∧jk k=false→∃l vs,valueAt kvs k=some (.ref l)∧Lst B l vs∧F2 NV vs (poss bs k))∧(¬(k∈bs∧jk k=false)→valueAt kvs k=none)
theorem B2J.le {w:jS}{md:Bool}{B B':Base}{db:jQ}{bs:List Nat}{jk:Nat→Bool}(x:B2J w md B db bs jk)(l:Le B B'):B2J w md B' db bs jk:=
 let⟨kvs,d,f⟩:=x
 ⟨kvs,d.le l,fun k=>⟨fun h=>jI2 (fun a vs=>jG3 fun e h1 h2=>(jJ2 a vs (jH3 e (h1.le l) h2))) ((f k).1 h),(f k).2⟩⟩
noncomputable def DR (kvs:List (Int×jL))(F:Int→Nat):Prop:=∀j,(F j=0→valueAt kvs j=none)∧(F j≠0→∃u,valueAt kvs j=some (.int (F j:Nat) u))
theorem DR.get {kvs:List (Int×jL)}{F:Int→Nat}(x:DR kvs F)(j:Int)(u:Tok):∃u',(valueAt kvs j).getD (.int 0 u)=.int (F j:Nat) u':=by
 by_cases h:F j=0
 ·rw[(x j).1 h,h];exact⟨u,rfl⟩
 ·obtain⟨u',e⟩:=(x j).2 h;rw[e];exact⟨u',rfl⟩
theorem DR.set {kvs:List (Int×jL)}{F:Int→Nat}(x:DR kvs F)(k:Int)(n:Nat)(u:Tok)(hn:n≠0):DR (stored kvs k (.int (n:Nat) u)) (fun j=>if j=k then n else F j):=fun j=>by
 rw[iM]
 by_cases h:j=k
 ·simp only[if_pos h];exact⟨fun e=>absurd e hn,fun _=>⟨u,rfl⟩⟩
 ·simp only[if_neg h];exact x j
theorem DR.nil:DR [] (fun _=>0):=fun j=>⟨fun _=>rfl,fun h=>absurd rfl h⟩
theorem DR.congr {kvs:List (Int×jL)}{F G:Int→Nat}(x:DR kvs F)(h:∀j,F j=G j):DR kvs G:=by have:F=G:=funext h;rw[←this];exact x
section
variable {w:jS}{A:jV}{C:Cx}{m mg mb:kJ→Option jL}{B:Base}{M:List (jQ×kK)}
 {h:kI} {g:Array jX} {d:kU} {t:Nat} {os:jU} {env:Env} {Q:jL→jP→Prop} {QP:jL×List jL→jP→Prop} {E:jL→jP→Prop}
theorem iL {x dx:jQ}{od:kK}{L:List (kJ×jL)}{name:kJ}{v:jL}{expr:Bool}(S:St C B h m M)(G:Gr w mg mb B)(hx:InsB B x dx)(hd:h.get? dx=some od)(hdB:B dx=none)(ho:NsO od (vars L))
  (hB:kF (.type "object") name=pure none) (hc:smNs w.params name=none) (hs:smNs w.params "__getattribute__"=none) (hv:L.lookup name=some v) (hh:handedOut v=pure v)
  (k:∀t',Q v ⟨h,g,d,t',os⟩):jN (jM PW w) A (getAttr (.ref x) name expr) Q E ⟨h,g,d,t,os⟩:=by
 have I:h.Inst x 242 (vars L):=by
  refine jI2 ?_ ho;try clear ho;intro es ep;intro r
  refine jI1 ?_ hx;try clear hx;intro ox;refine jG5 ?_;intro ex cx dd nx ne
  exact⟨ox,jH4 (S.b _ _ ex) cx nx (.inr ⟨dx,jH3 dd ne (jJ3 od es ep ⟨hd,r⟩)⟩)⟩
 exact load_attr (gK (G.at S.b)) (sm_ns (G.at S.b)) hs hc hB I hv hh (k _)
end
theorem ob_a:kF (.type "object") "a"=pure none:=by rw[jY,kH];kernel_rfl
theorem ob_b:kF (.type "object") "b"=pure none:=by rw[jY,kH];kernel_rfl
theorem ob_b2j:kF (.type "object") "b2j"=pure none:=by rw[jY,kH];kernel_rfl
theorem ob_bjunk:kF (.type "object") "bjunk"=pure none:=by rw[jY,kH];kernel_rfl
theorem ob_bpop:kF (.type "object") "bpopular"=pure none:=by rw[jY,kH];kernel_rfl
theorem ob_isj:kF (.type "object") "isjunk"=pure none:=by rw[jY,kH];kernel_rfl
theorem ob_auto:kF (.type "object") "autojunk"=pure none:=by rw[jY,kH];kernel_rfl
theorem iS:kF (.type "object") "matching_blocks"=pure none:=by rw[jY,kH];kernel_rfl
theorem ob_opc:kF (.type "object") "opcodes"=pure none:=by rw[jY,kH];kernel_rfl
theorem ob_full:kF (.type "object") "fullbcount"=pure none:=by rw[jY,kH];kernel_rfl
theorem sm_a (P:jT):smNs P "a"=none:=by kernel_rfl!
theorem sm_b (P:jT):smNs P "b"=none:=by kernel_rfl!
theorem sm_b2j (P:jT):smNs P "b2j"=none:=by kernel_rfl!
theorem sm_bjunk (P:jT):smNs P "bjunk"=none:=by kernel_rfl!
theorem sm_bpop (P:jT):smNs P "bpopular"=none:=by kernel_rfl!
theorem sm_isj (P:jT):smNs P "isjunk"=none:=by kernel_rfl!
theorem sm_auto (P:jT):smNs P "autojunk"=none:=by kernel_rfl!
theorem iQ (P:jT):smNs P "matching_blocks"=none:=by kernel_rfl!
theorem sm_opc (P:jT):smNs P "opcodes"=none:=by kernel_rfl!
theorem sm_full (P:jT):smNs P "fullbcount"=none:=by kernel_rfl!
theorem cI (P:jT):smNs P "__getattribute__"=none:=by kernel_rfl!
theorem gW (P:jT):smNs P "__getattr__"=none:=by kernel_rfl!
theorem dM (P:jT):smNs P "__setattr__"=none:=by kernel_rfl!
section
variable {w:jS}{A:jV}{h:kI}{g:Array jX}{d:kU}{t:Nat}{os:jU}{env:Env}{QF:kS→jP→Prop}{E:jL→jP→Prop}
theorem x_cont {pos:kW}{rest:List jW}(k:QF .cont ⟨h,g,d,t,os⟩):jN (jM PW w) A (kO (.Continue pos::rest) env) QF E ⟨h,g,d,t,os⟩:=wpAny_execs_cons (wpAny_Continue k)
theorem x_brk {pos:kW}{rest:List jW}(k:QF .brk ⟨h,g,d,t,os⟩):jN (jM PW w) A (kO (.Break pos::rest) env) QF E ⟨h,g,d,t,os⟩:=wpAny_execs_cons (wpAny_Break k)
end
theorem ma_keep (P:jT):keepIn (KF P) (.ref 135)=true:=by kernel_rfl!
section
variable {w:jS}{A:jV}{C:Cx}{m mg mb:kJ→Option jL}{B:Base}{M:List (jQ×kK)}
 {h:kI} {g:Array jX} {d:kU} {t:Nat} {os:jU} {env:Env} {Q:jL→jP→Prop} {QF:kS→jP→Prop} {E:jL→jP→Prop}
theorem x_wh0 {test:Expr}{body rest:List jW}{pos:kW}(P:Bool)(hP:P=false)
  (tst:∀d t,jN (jM PW w) A (isTrue test env (eval test env)) (Pu h g d os P) no ⟨h,g,d,t,os⟩)
  (fin:∀d t,jN (jM PW w) A (kO rest env) QF no ⟨h,g,d,t,os⟩):
  jN (jM PW w) A (kO (.While test body [] pos::rest) env) QF no ⟨h,g,d,t,os⟩:=
 x_wh (σ:=Unit) (fun _ h'=>h'=h) (fun _=>0) (fun _=>P) () rfl (fun _ h' d t e=>by subst e;exact tst d t) (fun _ _ _ _ _ e=>by rw[hP] at e;cases e) fun _ h' d t e _=>by subst e;exact fin d t
theorem f_cls {pos:kW}{f:jQ}{e:Expr}{rest:List Expr}(S:St C B h m M)(G:Gr w mg mb B)(hk:keepIn (KF w.params) (.ref f)=true)
  (k:jN (jM PW w) A (spliced (backTo pos (kD (e::rest) env))) (fun vs s₁=>(KF w.params).In s₁.heap∧jN (jM PW w) A (call (.ref f) vs) Q E s₁) E ⟨h,g,d,t,os⟩)
  (he:autoParam (kD (e::rest) env=(false,eval e env)::kD rest env) tR) (hplain:autoParam ((backTo pos (kD rest env)).any (·.1)=false) tR):
  jN (jM PW w) A (callWith pos (.ref f) [] (backTo pos (kD (e::rest) env)) []) Q E ⟨h,g,d,t,os⟩:=callWith_K (G.at S.b) hk k he hplain
end
section
variable {as bs:List Nat}{jk:Nat→Bool}
noncomputable def eqN (as bs:List Nat)(i j:Nat):Bool:=decide (as.getD i 0=bs.getD j 0)
noncomputable def jkN (as:List Nat)(jk:Nat→Bool)(i:Nat):Bool:=jk (as.getD i 0)
theorem in_bs {j:Nat}(h:j<bs.length):bs.contains (bs.getD j 0)=true:=by
 rw[qS,mR,mH h]
 exact pO h
theorem sw {i j:Nat}(h:j<bs.length):((bs.contains (bs.getD j 0)&&jk (bs.getD j 0))&&(eqN as bs i j&&true))=(eqN as bs i j&&(jkN as jk i&&true)):=by
 rw[in_bs h]
 unfold eqN jkN
 by_cases q:as.getD i 0=bs.getD j 0
 ·rw[decide_eq_true q,q];simp
 ·rw[decide_eq_false q];simp
theorem back_sw {low left i j t:Nat}(hj:j≤bs.length):bP (eqN as bs) (jkN as jk) low left i j t=(decide (low+t<i)&&(decide (left+t<j)&&((bs.contains (bs.getD (j-t-1) 0)&&jk (bs.getD (j-t-1) 0))&&(eqN as bs (i-t-1) (j-t-1)&&true)))):=by
 unfold bP
 by_cases q:left+t<j
 ·rw[sw (eQ q hj)]
 ·rw[decide_eq_false q];simp
theorem fwd_sw {high right i j t:Nat}(hj:right≤bs.length):fwdP (eqN as bs) (jkN as jk) high right i j t=(decide (i+t<high)&&(decide (j+t<right)&&((bs.contains (bs.getD (j+t) 0)&&jk (bs.getD (j+t) 0))&&(eqN as bs (i+t) (j+t)&&true)))):=by
 unfold fwdP
 by_cases q:j+t<right
 ·rw[sw (by lia)]
 ·rw[decide_eq_false q];simp
end
noncomputable def byTx (w:jS):Bool:=w.params.followText "set-order"
noncomputable abbrev set0 (w:jS):kK:={cls:=.type "set",dict:=none,data:=.set #[] 0 (.fresh 0 0 (!byTx w))}
section
variable {w:jS}{A:jV}{E:jL→jP→Prop}{h:kI}{g:Array jX}{d:kU}{t:Nat}{os:jU}
theorem set_made {Q₁:jL→jP→Prop}(k:Q₁ (.ref h.objs.size) ⟨h.push (set0 w),g,d,t,os⟩):
  kN (jM PW w) A (.call (.builtin "set.__new__") ⟨[.type "set"],[]⟩) (wants Q₁ E) ⟨h,g,d,t,os⟩:=by
 refine codeAny_call_builtin PySem.F.plain_set_new PySem.F.entry_set_new (wpAny_of_eq PySem.F.newCall_set_0 ?_)
 unfold Builtin.«set.__new__» Builtin.Frozenset.newClass
 have hsub:=sub_set_self
 wp_walk
 refine wpAny_askSetting (jO ?_)
 exact jK (wpAny_alloc (jO (jO k)))
theorem c_set0 {Q:jL→jP→Prop}(k:Q (.ref h.objs.size) ⟨h.push (set0 w),g,d,t,os⟩):jN (jM PW w) A (call (.type "set") []) Q E ⟨h,g,d,t,os⟩:=by
 injection k with w A E h g d t os Q
 refine jI2 ?_ PySem.F.called_set.mro;intro c tl;intro hmro
 have hmade:=PySem.F.called_set.made
 have hsub:=PySem.F.called_set.sub
 have h1:=PySem.F.called_set.notType
 have h2:=PySem.F.called_set.canCreate
 have hct:=PySem.F.typeCall_set_0
 refine wpAny_call (codeAny_of_tree (jO ⟨Code.quiet_builtin _ (by decide +kernel),codeAny_builtin PySem.F.entry_type_call ?_⟩))
 rw[Around.under_plain (weight_type_call_type "set" [] []) rfl]
 repeat (any_goals (first | assumption | wp_step))
 refine codeAny_mono (set_made (E:=E) (Q₁:=fun obj s₁=>obj=.ref h.objs.size∧s₁=⟨h.push (set0 w),g,d,t,os⟩) ⟨rfl,rfl⟩) fun r s₁ hr=>?_
 cases r with
 | error e=>exact hr
 | ok fl=>
 cases fl with
 | next=>exact hr.elim
 | brk=>exact hr.elim
 | cont=>exact hr.elim
 | ret obj=>
 obtain⟨rfl,rfl⟩:=hr
 have hT:Shared.TypeIs ⟨h.push (set0 w),g,d,t,os⟩ (.ref h.objs.size) "set":=⟨_,lT _ rfl,rfl⟩
 have hS:=lT h (o:=set0 w) rfl
 generalize hb:(!byTx w)=led at *
 generalize h.objs.size=a at *
 generalize h.push {cls:=.type "set",dict:=none,data:=.set #[] 0 (.fresh 0 0 led)}=h₁ at *
 have hli:=PySem.F.called_set.init.lookup
 have hbi:=PySem.F.called_set.init.bind (.ref a)
 repeat (any_goals (first | assumption | wp_step))
 refine codeAny_mono (codeAny_call_builtin (R:=wants (fun r s₂=>r=.none∧Q (.ref a) s₂) E) PySem.F.called_set.init.plain PySem.F.entry_set_init (check_set_init hT ?_)) fun r₂ s₂ hr₂=>?_
 ·unfold Builtin.«set.__init__» noKeywords
  wp_walk
  exact⟨rfl,k⟩
 ·cases r₂ with
  | error e=>exact hr₂
  | ok fl₂=>
  cases fl₂ with
  | next=>exact hr₂.elim
  | brk=>exact hr₂.elim
  | cont=>exact hr₂.elim
  | ret r=>
  obtain⟨rfl,hq⟩:=hr₂
  repeat (any_goals (first | assumption | wp_step))
end
theorem F2.perm {α β:Type}{R:α→β→Prop}{as as':List α}(p:as.Perm as'):∀{bs:List β},F2 R as bs→∃bs',F2 R as' bs'∧bs.Perm bs':=by
 induction p with
 | nil=>intro bs h;cases h;exact⟨[],⟨.nil,.rfl⟩⟩
 | cons x _ ih=>
  intro bs h
  cases h with
  | cons h1 h2=>refine jI1 ?_ (ih h2);intro bs';refine jG2 ?_;intro h3 p;exact⟨_::bs',⟨.cons h1 h3,p.cons _⟩⟩
 | swap x y l=>
  intro bs h
  cases h with
  | cons h1 h2=>
   cases h2 with
   | cons h2 h3=>exact⟨_,⟨.cons h2 (.cons h1 h3),.swap _ _ _⟩⟩
 | trans _ _ ih1 ih2=>
  intro bs h
  refine jI1 ?_ (ih1 h);intro b1;refine jG2 ?_;intro h1 p1
  refine jI1 ?_ (ih2 h1);intro b2;refine jG2 ?_;intro h2 p2
  exact⟨b2,⟨h2,p1.trans p2⟩⟩
theorem F2.mem {α β:Type}{R:α→β→Prop}{as:List α}{bs:List β}(h:F2 R as bs):(∀a∈as,∃b∈bs,R a b)∧∀b∈bs,∃a∈as,R a b:=by
 induction h with
 | nil=>exact⟨fun _ h=>(nomatch h),fun _ h=>(nomatch h)⟩
 | cons h1 _ ih=>
  refine⟨fun a ha=>?_,fun b hb=>?_⟩
  ·rcases lH.1 ha with rfl | ha
   ·exact⟨_,⟨kZ ..,h1⟩⟩
   ·refine jI1 ?_ (ih.1 a ha);intro b;refine jG2 ?_;intro hb r;exact⟨b,⟨lX _ hb,r⟩⟩
  ·rcases lH.1 hb with rfl | hb
   ·exact⟨_,⟨kZ ..,h1⟩⟩
   ·refine jI1 ?_ (ih.2 b hb);intro a;refine jG2 ?_;intro ha r;exact⟨a,⟨lX _ ha,r⟩⟩
noncomputable def Ent (w:jS)(md:Bool)(e:Int×jL)(k:Nat):Prop:=e.1=(kk w md).hash k∧El md k e.2
noncomputable def SetG (w:jS)(md:Bool)(o:kK)(ks:List Nat):Prop:=
 o.ExactSet∧∃es ep t,o.data=.set es ep t∧F2 (Ent w md) es.toList ks∧ks.Nodup∧t.fits es.size=true∧t.led=!byTx w∧(md=true→es.size≠0→t.plain=false)∧(md=false→es.size≤1)
theorem SetG.zero (w:jS)(md:Bool):SetG w md (set0 w) []:=⟨(jH3 rfl rfl rfl),jJ3 (#[]) 0 _ (jH7 rfl .nil oO rfl rfl (fun _ h=>absurd rfl h) (fun _=>lC _))⟩
theorem jB {w:jS}{md:Bool}{es:List (Int×jL)}{ks:List Nat}(h:F2 (Ent w md) es ks):ElemsOf (kk w md) es:=fun e he=>
 jI1 (fun k=>jG2 fun _ r=>⟨⟨k,hO r.2,r.1⟩,el_scan r.2⟩) (h.mem.1 e he)
theorem ents_is {w:jS}{md:Bool}{es:List (Int×jL)}{ks:List Nat}(h:F2 (Ent w md) es ks)(k:Nat):k∈ks↔∃e∈es,(kk w md).is k e.2=true:=by
 constructor
 ·intro hk;refine jI1 ?_ (h.mem.2 k hk);intro e;refine jG2 ?_;intro he r;exact⟨e,⟨he,hO r.2⟩⟩
 ·refine jI1 ?_;intro e;refine jG2 ?_;intro he hi
  refine jI1 ?_ (h.mem.1 e he);intro k';refine jG2 ?_;intro hk' r
  rw[(kk w md).inj _ _ _ hi (hO r.2)];exact hk'
theorem SetG.setOf {w:jS}{md:Bool}{o:kK}{ks:List Nat}{h:kI}{a:jQ}(x:SetG w md o ks)(ho:h.get? a=some o)(hl:ks.length<scanBound):h.SetOf (kk w md) a (fun k=>ks.contains k) ks.length:=by
 refine jG2 ?_ x;try clear x;intro hx;refine jI3 ?_;intro es ep t;refine jG5 ?_;intro hd hf _ hfit _
 have e:es.size=ks.length:=by rw[←hf.length];simp
 refine jJ4 o es ep t (jH8 ho hx hd (jB hf) (fun k=>?_) (by lia) hfit e)
 rw[qS];exact ents_is hf k
theorem lay_led (t:SetTable)(es:Array (Int×jL))(h:Int)(x:jL):(layNew t es h x).2.1.led=t.led:=by
 unfold layNew
 split
 ·show(SetTable.orStandIn _ _).led=_
  unfold SetTable.orStandIn
  split<;>rfl
 ·rfl
theorem lay_size (t:SetTable)(es:Array (Int×jL))(h:Int)(x:jL):(layNew t es h x).1.size=es.size+1:=by
 have:=(layNew_perm t es h x).length_eq
 simpa using this
theorem laid_led {mask finger moves:Nat}{led plain:Bool}{hs:Array Int}{r:SetTable×Array Nat}(h:SetTable.laid mask finger moves led plain hs=some r):r.1.led=led∧r.1.plain=plain:=by
 unfold SetTable.laid at h
 cases q:SetTable.layClean mask hs with
 | none=>rw[q] at h;cases h
 | some o=>rw[q] at h;cases h;exact⟨rfl,rfl⟩
theorem relay_led (t:SetTable)(es:Array (Int×jL))(n:Nat):(relayAll t es n).2.1.led=t.led∧((relayAll t es n).2.1.plain=true→t.plain=true):=by
 unfold relayAll
 split
 ·rename_i t' order hr
  have:=laid_led hr
  dsimp only
  split
  ·exact⟨this.1,fun h=>this.2▸h⟩
  ·exact⟨rfl,fun h=>(nomatch h)⟩
 ·exact⟨rfl,fun h=>(nomatch h)⟩
theorem byTx_led {w:jS}{md:Bool}{o:kK}{ks:List Nat}(x:SetG w md o ks):o.cls=.type "set":=x.1.1
section
variable {w:jS}{A:jV}{E:jL→jP→Prop}{h:kI}{g:Array jX}{d:kU}{t:Nat}{os:jU}
theorem store_set {a:jQ}{o:kK}{es es':Array (Int×jL)}{ep:Nat}{T T':SetTable}{Q:Unit→jP→Prop}(ho:h.get? a=some o)(hx:o.ExactSet)(hd:o.data=.set es ep T)(hz:es'.size≤kC)
  (k:∀h',h'.get? a=some {o with data:=.set es' (ep+1) T'}→Heap.SameBut a h h'→Q () ⟨h',g,d,t,os⟩):
  jN (jM PW w) A (storeSet a es' T') Q E ⟨h,g,d,t,os⟩:=by
 refine wpAny_storeSet_of (s:=⟨h,g,d,t,os⟩) ho hd (k _ ?_ (Heap.SameBut.update ..)) hz
 have:=nZ (Obj.putSet es' T') ho (by rw[putSet_of es' T' hd];rfl)
 rw[putSet_of es' T' hd] at this;exact this
theorem set_add {md:Bool}{a:jQ}{o:kK}{ks:List Nat}{k:Nat}{x:jL}{Q:jL→jP→Prop}(ho:h.get? a=some o)(hs:SetG w md o ks)(hx:El md k x)(hk:k∉ks)(h1:md=false→ks=[])(hl:ks.length≤1000)
  (q:∀h' o' ks',SetG w md o' ks'→ks'.Perm (ks++[k])→h'.get? a=some o'→Heap.SameBut a h h'→Q .none ⟨h',g,d,t+1,os⟩):
  jN (jM PW w) A (call (.builtin "set.add") [.ref a,x]) Q E ⟨h,g,d,t,os⟩:=by
 injection ho hs hx hk h1 hl q with w A E h g d t os md a o ks k x Q
 have hkey:=hO (w:=w) hx
 have hsc:=el_scan hx
 refine wpAny_call_entry PySem.F.slot_set_add ⟨o,ho,hs.1.1⟩ PySem.F.entry_set_add ?_ (PySem.F.args_set_add_2 _ _)
 unfold Builtin.«set.add» Builtin.Frozenset.oneOther
 simp only[List.isEmpty_nil,bind_assoc]
 unfold Builtin.Frozenset.addrOf setAdd
 refine jK (jO ?_)
 try dsimp only
 refine jK (jO ?_)
 try dsimp only
 refine jK (kB (jK ((kk w md).pyHash hkey ?_)))
 refine jG2 ?_ hs;try clear hs;intro hex;refine jI3 ?_;intro es ep T;refine jG7 ?_;intro hd hf hnd hfit hled hpl hone
 have esz:es.size=ks.length:=by rw[←hf.length];simp
 have hel:=jB hf
 have hb:es.size<scanBound:=by unfold scanBound;lia
 unfold setAddHashed setAddHashedIn
 refine kB (jK (wpAny_setState_of (s:=⟨h,g,d,t+1,os⟩) ho hd hfit ?_))
 dsimp only
 rw[byScan_of hsc hb hel]
 simp only[↓reduceIte]
 unfold setAddByScan
 refine jK (jK (wpAny_rule ?_))
 refine jK (wpAny_setScan_of (s:=⟨h,g,d,t+1,os⟩) hkey ho hd hfit hel ?_)
 have hno:es.toList.findIdx? (fun e=>(kk w md).is k e.2)=none:=by
  rw[List.findIdx?_eq_none_iff]
  intro e he
  cases qi:(kk w md).is k e.2 with
  | false=>rfl
  | true=>exact absurd ((ents_is hf k).2 ⟨e,he,qi⟩) hk
 rw[hno]
 dsimp only
 have hgw:∀(b:Bool) {A:jV} {s₁:jP} {Q':Unit→jP→Prop} {E:jL→jP→Prop},Q' () s₁→jN (jM PW w) A (match b with | true=>rule "set.scan.the-table-gave-way" | false=>pure ()) Q' E s₁:=
  fun b _ s₁ Q' _ hq=>by cases b<;>first | exact jO hq | exact wpAny_rule hq
 have hperm:=layNew_perm T es ((kk w md).hash k) x
 have hfits:=layNew_fits T es ((kk w md).hash k) x
 have hl1:=lay_led T es ((kk w md).hash k) x
 have hz1:=lay_size T es ((kk w md).hash k) x
 generalize hL:layNew T es ((kk w md).hash k) x=Lr at hperm hfits hl1 hz1⊢
 obtain⟨es1,t1,wasDummy,gave⟩:=Lr
 dsimp only at hperm hfits hl1 hz1⊢
 rw[Array.toList_push] at hperm
 refine jI1 ?_ ((hf.append (.cons (⟨rfl,hx⟩:Ent w md ((kk w md).hash k,x) k) .nil)).perm hperm.symm);intro ks1;refine jG2 ?_;intro hf1 hp1
 refine jK (hgw _ ?_)
 have fin:∀(gw:Bool→Sem Unit),(∀(b:Bool) {s₁:jP} {Q':Unit→jP→Prop},Q' () s₁→jN (jM PW w) A.in1 (gw b) Q' E s₁)→∀(t2:SetTable),t2.fits es1.size=true→t2.led=t1.led→(md=true→t2.plain=false)→jN (jM PW w) A.in1 (do
    storeSet a es1 t2
    if(!wasDummy&&t2.tooFull)=true then do
      gw (relayAll t2 es1 (SetTable.grown es1.size)).2.2
      storeSet a (relayAll t2 es1 (SetTable.grown es1.size)).1 (relayAll t2 es1 (SetTable.grown es1.size)).2.1
      pure (some true)
     else pure (some true)) (fun r s'=>r=some true∧Q .none s') E ⟨h,g,d,t+1,os⟩:=by
  intro gw hgw t2 f2 l2 p2
  have hlen:ks.length+1≤kC:=by rw[jZ];lia
  refine jK (store_set ho hex hd (by lia) fun h2 g2 s2=>?_)
  split
  ·have hp:=relayAll_perm t2 es1 (SetTable.grown es1.size)
   have hfr:=relayAll_fits t2 es1 (SetTable.grown es1.size)
   have hlr:=relay_led t2 es1 (SetTable.grown es1.size)
   generalize relayAll t2 es1 (SetTable.grown es1.size)=Rl at hp hfr hlr⊢
   obtain⟨es2,t3,gave2⟩:=Rl
   dsimp only at hp hfr hlr⊢
   have hz2:es2.size=es1.size:=by have:=hp.length_eq;simpa using this
   refine jI1 ?_ (hf1.perm hp.symm);intro ks2;refine jG2 ?_;intro hf2 hp2
   refine jK (hgw _ ?_)
   refine jK (store_set g2 (jH3 hex.1 hex.2.1 hex.2.2) rfl (by lia) fun h3 g3 s3=>?_)
   refine jO ⟨rfl,q h3 {o with data:=.set es2 (ep+1+1) t3} ks2 ⟨(jH3 hex.1 hex.2.1 hex.2.2),jJ3 es2 _ t3 (jH7 rfl hf2 ?_ hfr (by rw[hlr.1,l2,hl1,hled]) (fun e _=>?_) (fun e=>?_))⟩ (hp2.symm.trans hp1.symm) g3 (s2.trans s3)⟩
   ·exact(hp1.trans hp2).nodup (by rw[oD];exact jH3 hnd (by simp) (fun u hu v hv e=>hk (by rw[lA.1 hv] at e;exact e▸hu)))
   ·cases qp:t3.plain with
    | false=>rfl
    | true=>have:=hlr.2 qp;rw[p2 e] at this;cases this
   ·have hk0:ks.length=0:=by rw[h1 e];rfl
    lia
  ·refine jO ⟨rfl,q h2 {o with data:=.set es1 (ep+1) t2} ks1 ⟨(jH3 hex.1 hex.2.1 hex.2.2),jJ3 es1 _ t2 (jH7 rfl hf1 ?_ f2 (by rw[l2,hl1,hled]) (fun e _=>p2 e) (fun e=>?_))⟩ hp1.symm g2 s2⟩
   ·exact hp1.nodup (by rw[oD];exact jH3 hnd (by simp) (fun u hu v hv e=>hk (by rw[lA.1 hv] at e;exact e▸hu)))
   ·have hk0:ks.length=0:=by rw[h1 e];rfl
    lia
 split
 ·refine jK ?_
  rw[hashByValue_scannable 8 hsc]
  refine jO ?_
  refine jR (fin _ (fun b _ _ hq=>by cases b<;>first | exact jO hq | exact wpAny_rule hq) _ ?_ ?_ ?_) (fun r s' z=>by
   obtain⟨rfl,z⟩:=z
   exact jO (jO ⟨_,rfl,z⟩)) fun _ _ z=>z
  ·split
   ·exact hfits
   ·exact SetTable.fits_plain_off hfits
  ·split<;>rfl
  ·intro e
   subst e
   obtain⟨tk,rfl⟩:=hx
   rfl
 ·rename_i hpn
  refine jK (jO ?_)
  simp only[↓reduceIte]
  exact jR (fin _ (fun b _ _ hq=>by cases b<;>first | exact jO hq | exact wpAny_rule hq) _ hfits rfl fun _=>by simpa using hpn) (fun r s' z=>by
   obtain⟨rfl,z⟩:=z
   exact jO (jO ⟨_,rfl,z⟩)) fun _ _ z=>z
end
theorem dQ:Slot "set_iterator" "__next__" "set_iterator.__next__":=
 .of (owner:="set_iterator") (n:="__next__") (by rw[jY,kH];kernel_rfl) (by decide +kernel) (by decide +kernel) (by decide +kernel)
  (by first | exact .inl (by decide +kernel) | exact .inr (by decide +kernel)) (by rw[isSubtype_type];kernel_rfl)
theorem fX:entryFor table "set_iterator.__next__"=some Builtin.«set_iterator.__next__»:=entryFor_of_tree (by kernel_rfl)
theorem iA (a:jL):argsOk "set_iterator.__next__" ⟨[a],[]⟩:=by unfold argsOk;kernel_rfl
theorem st_iter_entry:entryFor table "set.__iter__"=some Builtin.«frozenset.__iter__»:=entryFor_alias (id':="frozenset.__iter__") (by kernel_rfl) rfl (by decide +kernel) (by kernel_rfl)
noncomputable abbrev itO (f:jL)(i:Nat)(a:jQ)(n ep:Nat):kK:={cls:=.type "set_iterator",data:=.fields #[f,.int i 0,.ref a,.int n 0,.int ep 0]}
theorem jA {α:Type}:∀{l:List α} {i:Nat} (h:i<l.length),(l[i]::l.eraseIdx i).Perm l:=by
 intro l
 induction l with
 | nil=>intro i h;simp at h
 | cons x r ih=>
  intro i h
  cases i with
  | zero=>exact .rfl
  | succ i=>
   rw[List.getElem_cons_succ,List.eraseIdx_cons_succ]
   exact(List.Perm.swap _ _ _).trans ((ih (by simpa using h)).cons _)
theorem go_perm {α:Type}(nx:Nat→Nat):∀(fuel k:Nat) (left:List α) (out:Array α),fuel=left.length→(pickOrder.go nx fuel k left out).toList.Perm (out.toList++left):=by
 intro fuel
 induction fuel with
 | zero=>intro k left out e;cases left with | nil=>unfold pickOrder.go;simp | cons _ _=>simp at e
 | succ n ih=>
  intro k left out e
  unfold pickOrder.go
  have hlt:nx k%left.length<left.length:=nS _ (by lia)
  rw[mH hlt]
  dsimp only
  refine(ih _ _ _ (by rw[List.length_eraseIdx_of_lt hlt];exact congrArg Nat.pred e)).trans ?_
  rw[Array.toList_push,nR]
  refine List.Perm.append_left _ ?_
  exact(jA hlt)
theorem pick_perm {α:Type}(nx:Nat→Nat)(xs:Array α):(pickOrder nx xs).toList.Perm xs.toList:=by
 unfold pickOrder
 have:=go_perm nx xs.size 0 xs.toList #[] (by simp)
 simpa using this
section
variable {w:jS}{A:jV}{E:jL→jP→Prop}{h:kI}{g:Array jX}{d:kU}{t:Nat}{os:jU}
theorem draw_order {α:Type}:∀(n:Nat) (xs:List α) {d:kU} {Q:List α→jP→Prop},n=xs.length→(∀ys d',ys.Perm xs→Q ys ⟨h,g,d',t,os⟩)→jN (jM PW w) A (drawOrder n xs) Q E ⟨h,g,d,t,os⟩:=by
 intro n
 induction n with
 | zero=>intro xs d Q e q;cases xs with | nil=>unfold drawOrder;exact jO (q _ _ .rfl) | cons _ _=>simp at e
 | succ n ih=>
  intro xs d Q e q
  cases xs with
  | nil=>simp at e
  | cons x r=>
   unfold drawOrder
   refine jK (fun Γ p hΓ=>?_)
   show Sem.wp _ _ (Sem.choose .order (x::r).length .pure) _ _ _ _
   rw[Sem.wp_choose]
   refine⟨by simp,?_⟩
   refine(?_:jN (jM PW w) A (Sem.pure _) _ E _) Γ p hΓ
   refine jO ?_
   generalize hi:(jM PW w).w.draws .order _%(x::r).length=i
   have hlt:i<(x::r).length:=hi▸nS _ (by simp)
   rw[mH hlt]
   dsimp only
   refine jK (ih _ (by rw[List.length_eraseIdx_of_lt hlt];simp at e⊢;omega) fun ys d' hp=>jO (q _ _ ?_))
   exact(hp.cons _).trans (jA hlt)
theorem si_item {a it:jQ}{o:kK}{es:Array (Int×jL)}{ep:Nat}{T:SetTable}{i sl nx n:Nat}{x:jL}{Q:Option jL→jP→Prop}
  (hi:h.get? it=some (itO (.int sl 0) i a n ep)) (ho:h.get? a=some o) (hd:o.data=.set es ep T) (hf:T.fits es.size=true) (hn:n=es.size)
  (hnx:∀{A:jV} {Q':Option (jL×Nat)→jP→Prop} {E:jL→jP→Prop},Q' (some (x,nx)) ⟨h,g,d,t,os⟩→jN (jM PW w) A (setNext a sl i ep) Q' E ⟨h,g,d,t,os⟩)
  (q:∀h',h'.get? it=some (itO (.int nx 0) (i+1) a n ep)→Heap.SameBut it h h'→Q (some x) ⟨h',g,d,t,os⟩):
  jN (jM PW w) A (pyNext (.ref it)) Q E ⟨h,g,d,t,os⟩:=by
 injection hi ho hd hf hn hnx q with w A E h g d t os a it o es ep T i sl nx n x Q
 unfold pyNext
 refine jK (wpAny_attempt (wpAny_callSpecial?_slot (name:=kY "__next__") ⟨_,hi,rfl⟩ dQ
  (wpAny_call_entry dQ ⟨_,hi,rfl⟩ fX ?_ (iA _))))
 unfold Builtin.«set_iterator.__next__»
 refine jK (jO ?_)
 refine jK (wpAny_fieldsOf hi rfl ?_)
 refine jK (wpAny_setEntries_of ho hd hf ?_)
 rw[hn]
 dsimp only
 rw[if_neg (by simp)]
 refine jK (hnx ?_)
 dsimp only
 refine jK (wpAny_setField_rec (s:=⟨h,g,d,t,os⟩) hi (by simp) fun h₁ e₁ s₁=>?_)
 refine jK (wpAny_setField_rec (s:=⟨h₁,g,d,t,os⟩) e₁ (by simp) fun h₂ e₂ s₂=>?_)
 refine jO ⟨_,rfl,jO (q h₂ ?_ (s₁.trans s₂))⟩
 rw[e₂,hn];simp[rawInt]
theorem iP {Q:Option jL→jP→Prop}{h₁:kI}(hh:A.handled=none)(k:∀h',(∀b o,h₁.get? b=some o→h'.get? b=some o)→Q none ⟨h',g,d,t,os⟩):
  jN (jM PW w) A.in1 (do raiseNew (←newExc (.type "StopIteration") [])) (fun fin s'=>∃v,fin=Fin.done (Flow.ret v)∧Q (some v) s') (fun e s'=>jN (jM PW w) A (do if ←isInstance e (.type "StopIteration") then pure none else throw e) Q E s') ⟨h₁,g,d,t,os⟩:=by
 refine jK ?_
 simp only[newExc,newTuple]
 refine jK (kP ?_ (by size_fits))
 refine jK (m:=firstArgMember _ _) (wpAny_of_eq (a:=Value.none) (by first | rfl | (simp only[firstArgMember];rfl)) ?_)
 refine kP ?_ (by size_fits)
 simp only[raiseNew]
 refine jK (wpAny_handled ?_)
 rw[show A.in1.handled=none from hh]
 refine jK (jO (wpAny_throw ?_))
 refine jK (wpAny_isInstance (T:="StopIteration") (b:=true) ⟨_,lT _ rfl,rfl⟩ isSubtype_stop ?_)
 exact jO (k _ fun b o e=>lS _ (lS _ e))
theorem si_end {a it:jQ}{o:kK}{es:Array (Int×jL)}{ep:Nat}{T:SetTable}{i sl n:Nat}{Q:Option jL→jP→Prop}(hh:A.handled=none)
  (hi:h.get? it=some (itO (.int sl 0) i a n ep)) (ho:h.get? a=some o) (hd:o.data=.set es ep T) (hf:T.fits es.size=true) (hn:n=es.size)
  (hnx:∀{A:jV} {Q':Option (jL×Nat)→jP→Prop} {E:jL→jP→Prop},Q' none ⟨h,g,d,t,os⟩→jN (jM PW w) A (setNext a sl i ep) Q' E ⟨h,g,d,t,os⟩)
  (q:∀h',(∀b o,b≠it→h.get? b=some o→h'.get? b=some o)→Q none ⟨h',g,d,t,os⟩):
  jN (jM PW w) A (pyNext (.ref it)) Q E ⟨h,g,d,t,os⟩:=by
 unfold pyNext
 refine jK (wpAny_attempt (wpAny_callSpecial?_slot (name:=kY "__next__") ⟨_,hi,rfl⟩ dQ
  (wpAny_call_entry dQ ⟨_,hi,rfl⟩ fX ?_ (iA _))))
 unfold Builtin.«set_iterator.__next__»
 refine jK (jO ?_)
 refine jK (wpAny_fieldsOf hi rfl ?_)
 refine jK (wpAny_setEntries_of ho hd hf ?_)
 rw[hn]
 dsimp only
 rw[if_neg (by simp)]
 refine jK (hnx ?_)
 dsimp only
 refine jK (wpAny_setField_rec (s:=⟨h,g,d,t,os⟩) hi (by simp) fun h₁ e₁ s₁=>?_)
 refine jR (iP (E:=E) hh fun h' k=>q h' fun b o hb e=>k _ _ ((s₁.2 b hb).trans e)) (fun fin s' z=>?_) fun _ _ z=>z
 refine jI1 ?_ z;try clear z;intro v;refine jG2 ?_;intro e1 e2
 exact⟨v,⟨e1,jO e2⟩⟩
theorem sd_item {a it tp:jQ}{o:kK}{es:Array (Int×jL)}{ep:Nat}{T:SetTable}{i n c:Nat}{e:Int×jL}{pl:List Nat}{Q:Option jL→jP→Prop}
  (hi:h.get? it=some (itO (.ref tp) i a n ep)) (ho:h.get? a=some o) (hd:o.data=.set es ep T) (hf:T.fits es.size=true) (hn:n=es.size)
  (ht:h.get? tp=some {cls:=.type "tuple",data:=.seq (pl.map fun(i:Nat)=>rawInt i).toArray c}) (hp:pl[i]? =some j) (hx:es[j]? =some e)
  (q:∀h',h'.get? it=some (itO (.ref tp) (i+1) a n ep)→Heap.SameBut it h h'→Q (some e.2) ⟨h',g,d,t,os⟩):
  jN (jM PW w) A (pyNext (.ref it)) Q E ⟨h,g,d,t,os⟩:=by
 injection hi ho hd hf hn ht hp hx q with w A E h g d t os j a it tp o es ep T i n c e pl Q
 unfold pyNext
 refine jK (wpAny_attempt (wpAny_callSpecial?_slot (name:=kY "__next__") ⟨_,hi,rfl⟩ dQ
  (wpAny_call_entry dQ ⟨_,hi,rfl⟩ fX ?_ (iA _))))
 unfold Builtin.«set_iterator.__next__»
 refine jK (jO ?_)
 refine jK (wpAny_fieldsOf hi rfl ?_)
 refine jK (wpAny_setEntries_of ho hd hf ?_)
 rw[hn]
 dsimp only
 rw[if_neg (by simp)]
 refine jK (wpAny_seqItems (s:=⟨h,g,d,t,os⟩) ht rfl ?_)
 dsimp only
 have hpi:((pl.map fun(i:Nat)=>rawInt i).toArray)[((i:Nat):Int).toNat]? =some (.int j 0):=by
  simp[hp,rawInt]
 rw[hpi]
 dsimp only
 unfold setNextDrawn
 refine jK (jK (wpAny_setState_of (s:=⟨h,g,d,t,os⟩) ho hd hf ?_))
 dsimp only
 rw[nY,nY,if_neg (by simp),hx]
 refine jO (jK (wpAny_setField_rec (s:=⟨h,g,d,t,os⟩) hi (by simp) fun h₁ e₁ s₁=>?_))
 refine jO ⟨_,rfl,jO (q h₁ ?_ s₁)⟩
 rw[e₁,hn];simp[rawInt]
theorem sd_end {a it tp:jQ}{o:kK}{es:Array (Int×jL)}{ep:Nat}{T:SetTable}{i n c:Nat}{pl:List Nat}{Q:Option jL→jP→Prop}(hh:A.handled=none)
  (hi:h.get? it=some (itO (.ref tp) i a n ep)) (ho:h.get? a=some o) (hd:o.data=.set es ep T) (hf:T.fits es.size=true) (hn:n=es.size)
  (ht:h.get? tp=some {cls:=.type "tuple",data:=.seq (pl.map fun(i:Nat)=>rawInt i).toArray c}) (hp:pl[i]? =none)
  (q:∀h',(∀b o,b≠it→h.get? b=some o→h'.get? b=some o)→Q none ⟨h',g,d,t,os⟩):
  jN (jM PW w) A (pyNext (.ref it)) Q E ⟨h,g,d,t,os⟩:=by
 injection hh hi ho hd hf hn ht hp q with w A E h g d t os a it tp o es ep T i n c pl Q
 unfold pyNext
 refine jK (wpAny_attempt (wpAny_callSpecial?_slot (name:=kY "__next__") ⟨_,hi,rfl⟩ dQ
  (wpAny_call_entry dQ ⟨_,hi,rfl⟩ fX ?_ (iA _))))
 unfold Builtin.«set_iterator.__next__»
 refine jK (jO ?_)
 refine jK (wpAny_fieldsOf hi rfl ?_)
 refine jK (wpAny_setEntries_of ho hd hf ?_)
 rw[hn]
 dsimp only
 rw[if_neg (by simp)]
 refine jK (wpAny_seqItems (s:=⟨h,g,d,t,os⟩) ht rfl ?_)
 dsimp only
 have hpi:((pl.map fun(i:Nat)=>rawInt i).toArray)[((i:Nat):Int).toNat]? =none:=by
  simp at hp;simp[hp]
 rw[hpi]
 dsimp only
 refine jK (wpAny_setField_rec (s:=⟨h,g,d,t,os⟩) hi (by simp) fun h₁ e₁ s₁=>?_)
 refine jK (wpAny_setField_rec (s:=⟨h₁,g,d,t,os⟩) e₁ (by simp) fun h₂ e₂ s₂=>?_)
 have s₃:=s₁.trans s₂
 refine jR (iP (E:=E) hh fun h' k=>q h' fun b o hb e=>k _ _ ((s₃.2 b hb).trans e)) (fun fin s' z=>?_) fun _ _ z=>z
 refine jI1 ?_ z;try clear z;intro v;refine jG2 ?_;intro e1 e2
 exact⟨v,⟨e1,jO e2⟩⟩
theorem sn_text {a:jQ}{o:kK}{es:Array (Int×jL)}{ep i sl:Nat}{T:SetTable}{Q:Option (jL×Nat)→jP→Prop}(ho:h.get? a=some o)(hd:o.data=.set es ep T)(hf:T.fits es.size=true)(hb:byTx w=true)
  (q:Q (((pickOrder (w.params.setOrder a ep) es)[i]?).map fun e=>(e.2,sl)) ⟨h,g,d,t,os⟩):jN (jM PW w) A (setNext a sl i ep) Q E ⟨h,g,d,t,os⟩:=by
 unfold setNext
 refine jK (wpAny_setState_of (s:=⟨h,g,d,t,os⟩) ho hd hf ?_)
 unfold setsByText
 refine jK (jK (wpAny_askSetting (jO ?_)))
 dsimp only
 rw[if_pos (show(jM PW w).w.params.followText "set-order"=true from hb),if_neg (by simp)]
 unfold setWalk
 refine jK (jK (wpAny_setState_of (s:=⟨h,g,d,t,os⟩) ho hd hf ?_))
 unfold setsByText
 refine jK (jK (wpAny_askSetting (jO ?_)))
 dsimp only
 rw[if_pos (show(jM PW w).w.params.followText "set-order"=true from hb)]
 refine jK (wpAny_askSetting (jO ?_))
 exact jO q
theorem sn_small {a:jQ}{o:kK}{es:Array (Int×jL)}{ep i sl:Nat}{T:SetTable}{Q:Option (jL×Nat)→jP→Prop}(ho:h.get? a=some o)(hd:o.data=.set es ep T)(hf:T.fits es.size=true)(hb:byTx w=false)(hl:T.led=true)(hz:es.size≤1)
  (q:Q (match es[SetTable.below T.place sl]?,T.place[SetTable.below T.place sl]? with
   | some (_,x),some j=>some (x,j+1)
   | _,_=>none) ⟨h,g,d,t,os⟩):jN (jM PW w) A (setNext a sl i ep) Q E ⟨h,g,d,t,os⟩:=by
 injection ho hd hf hb hl hz q with w A E h g d t os a o es ep i sl T Q
 unfold setNext
 refine jK (wpAny_setState_of (s:=⟨h,g,d,t,os⟩) ho hd hf ?_)
 unfold setsByText
 refine jK (jK (wpAny_askSetting (jO ?_)))
 dsimp only
 rw[if_neg (show ¬(jM PW w).w.params.followText "set-order"=true from by rw[show(jM PW w).w.params.followText "set-order"=false from hb];exact qQ)]
 split
 ·rename_i hq
  have hq':(!T.plain&&decide (es.size>1))=true:=hq
  simp at hq';lia
 refine jK ?_
 show jN _ _ (if(!T.led&&!es.isEmpty)=true then _ else _) _ _ _
 rw[if_neg (by rw[hl];simp)]
 exact jO (jO q)
theorem st_turns {md:Bool}{a it:jQ}{o:kK}{es:Array (Int×jL)}{ep:Nat}{T:SetTable}{x:kJ}{px:kW}(hh:A.handled=none)(hd:o.data=.set es ep T)(hf:T.fits es.size=true)(hne:a≠it)(ord:List Nat)(sl:Nat→Nat)(hn:ord.length=es.size)
  (hnx:∀(i k:Nat),ord[i]? =some k→∃v,El md k v∧∀(s:jP) {A:jV} {Q':Option (jL×Nat)→jP→Prop} {E:jL→jP→Prop},s.heap.get? a=some o→Q' (some (v,sl (i+1))) s→jN (jM PW w) A (setNext a (sl i) i ep) Q' E s)
  (hend:∀(s:jP) {A:jV} {Q':Option (jL×Nat)→jP→Prop} {E:jL→jP→Prop},s.heap.get? a=some o→Q' none s→jN (jM PW w) A (setNext a (sl es.size) es.size ep) Q' E s):
  KTurns PW w A (.Name x px) it [it,a] [it] es.size (fun i v _=>∃k,ord[i]? =some k∧El md k v)
   (fun i v h=>(∃k,ord[i]? =some k∧El md k v)∧h.get? it=some (itO (.int (sl (i+1)) 0) (i+1) a es.size ep)∧h.get? a=some o)
   (fun i h=>h.get? it=some (itO (.int (sl i) 0) i a es.size ep)∧h.get? a=some o) where
 sub:=fun b hb=>by rw[lA.1 hb];exact kZ ..
 frame:=fun i h h' st hk=>⟨hk it (kZ ..) _ st.1,hk a (lX _ (lA.2 rfl)) _ st.2⟩
 item:=fun i s Q E hi st hQ=>by
  obtain⟨h,g,d,t,os⟩:=s
  have hlt:i<ord.length:=hn▸hi
  have hk:ord[i]? =some ord[i]:=mH hlt
  refine jI1 ?_ (hnx i _ hk);intro v;refine jG2 ?_;intro hv hx
  refine si_item st.1 st.2 hd hf rfl (fun {A Q' E} z=>hx _ st.2 z) fun h' e' hs=>?_
  exact hQ v h' t (jH3 ⟨_,hk,hv⟩ e' ((hs.2 a hne).trans st.2)) fun b o hb e=>(hs.2 b fun q=>hb (by simp[q])).trans e
 go:=fun i v s Q E hm hQ=>jO (hQ s.heap hm.1 hm.2 fun _ _ _ e=>e)
 done:=fun s Q E st hQ=>by
  obtain⟨h,g,d,t,os⟩:=s
  exact si_end hh st.1 st.2 hd hf rfl (fun {A Q' E} z=>hend _ st.2 z) fun h' hk=>hQ h' t fun b o hb e=>hk b o (fun q=>hb (by simp[q])) e
theorem sd_turns {md:Bool}{a it tp:jQ}{o:kK}{es:Array (Int×jL)}{ep c:Nat}{T:SetTable}{x:kJ}{px:kW}(hh:A.handled=none)(hd:o.data=.set es ep T)(hf:T.fits es.size=true)(hne:a≠it)(hne2:tp≠it)(ord pl:List Nat)(hn:ord.length=es.size)(hn2:pl.length=es.size)
  (hnx:∀(i k:Nat),ord[i]? =some k→∃(j:Nat) (e:Int×jL),pl[i]? =some j∧es[j]? =some e∧El md k e.2):
  KTurns PW w A (.Name x px) it [it,a,tp] [it] es.size (fun i v _=>∃k,ord[i]? =some k∧El md k v)
   (fun i v h=>(∃k,ord[i]? =some k∧El md k v)∧h.get? it=some (itO (.ref tp) (i+1) a es.size ep)∧h.get? a=some o∧h.get? tp=some {cls:=.type "tuple",data:=.seq (pl.map fun(i:Nat)=>rawInt i).toArray c})
   (fun i h=>h.get? it=some (itO (.ref tp) i a es.size ep)∧h.get? a=some o∧h.get? tp=some {cls:=.type "tuple",data:=.seq (pl.map fun(i:Nat)=>rawInt i).toArray c}) where
 sub:=fun b hb=>by rw[lA.1 hb];exact kZ ..
 frame:=fun i h h' st hk=>jH3 (hk it (by simp) _ st.1) (hk a (by simp) _ st.2.1) (hk tp (by simp) _ st.2.2)
 item:=fun i s Q E hi st hQ=>by
  obtain⟨h,g,d,t,os⟩:=s
  have hlt:i<ord.length:=hn▸hi
  have hk:ord[i]? =some ord[i]:=mH hlt
  refine jI2 ?_ (hnx i _ hk);intro j e;refine jG3 ?_;intro hj he hv
  refine sd_item st.1 st.2.1 hd hf rfl st.2.2 hj he fun h' e' hs=>?_
  exact hQ _ h' t (jH4 ⟨_,hk,hv⟩ e' ((hs.2 a hne).trans st.2.1) ((hs.2 tp hne2).trans st.2.2)) fun b o hb e=>(hs.2 b fun q=>hb (by simp[q])).trans e
 go:=fun i v s Q E hm hQ=>jO (hQ s.heap hm.1 hm.2 fun _ _ _ e=>e)
 done:=fun s Q E st hQ=>by
  obtain⟨h,g,d,t,os⟩:=s
  exact sd_end hh st.1 st.2.1 hd hf rfl st.2.2 (oS (by lia)) fun h' hk=>hQ h' t fun b o hb e=>hk b o (fun q=>hb (by simp[q])) e
theorem set_walk {md:Bool}{a:jQ}{o:kK}{ks:List Nat}{x:kJ}{px:kW}{Q:jL→jP→Prop}(ho:h.get? a=some o)(hs:SetG w md o ks)(hl:ks.length≤1000)(hh:A.handled=none)
  (q:∀h' d' (it:jQ) (fp:List jQ) (ord:List Nat) (n:Nat) Md Z,n=ks.length→ord.Perm ks→KTurns PW w A (.Name x px) it fp [it] n (fun i v _=>∃k,ord[i]? =some k∧El md k v) Md Z→
   h.objs.size≤it→(∀b∈fp,b=a∨(h.objs.size≤b∧b≤it))→it∈fp→(∀i h,Z i h→∀b∈fp,∃o,h.get? b=some o)→Z 0 h'→(∀b o,h.get? b=some o→h'.get? b=some o)→Q (.ref it) ⟨h',g,d',t,os⟩):
  jN (jM PW w) A (pyIter (.ref a)) Q E ⟨h,g,d,t,os⟩:=by
 injection ho hs hl hh q with w A E h g d t os md a o ks x px Q
 have hs':=hs
 refine jG2 ?_ hs';try clear hs';intro hex;refine jI3 ?_;intro es ep T;refine jG7 ?_;intro hd hF hnd hfit hled hpl hone
 have esz:es.size=ks.length:=by rw[←hF.length];simp
 have hlt:a<h.objs.size:=lM ho
 refine wpAny_pyIter_slot ⟨o,ho,hex.1⟩ PySem.F.slot_set_iter (wpAny_call_entry PySem.F.slot_set_iter ⟨o,ho,hex.1⟩ st_iter_entry ?_ (PySem.F.args_set_iter_1 _))
 unfold Builtin.«frozenset.__iter__» Builtin.Frozenset.slot0 Builtin.Frozenset.addrOf Builtin.Frozenset.sizeOf
 refine jK (jO ?_)
 refine jK (jK (wpAny_setEntries_of (s:=⟨h,g,d,t,os⟩) ho hd hfit (jO ?_)))
 unfold setDrawn
 refine jK (jK (wpAny_setState_of (s:=⟨h,g,d,t,os⟩) ho hd hfit ?_))
 unfold setsByText
 refine jK (jK (wpAny_askSetting (jO ?_)))
 refine jO ?_
 have made:∀(h₁:kI) (d₁:kU) (f:jL),h₁.get? a=some o→(∀b o,h.get? b=some o→h₁.get? b=some o)→Q (.ref h₁.objs.size) ⟨h₁.push (itO f 0 a es.size ep),g,d₁,t,os⟩→
   jN (jM PW w) A.in1 (do let e ←setEpoch a;let f ←newFields "set_iterator" [f,rawInt 0,.ref a,rawInt es.size,rawInt e];ret f)
    (fun fin s'=>∃v,fin=Fin.done (Flow.ret v)∧∃T' r,s'.TypeIs v T'∧kF (.type T') (kY "__next__")=pure (some r)∧Q v s') E ⟨h₁,g,d₁,t,os⟩:=by
  intro h₁ d₁ f ho₁ hk₁ hq
  refine jK (wpAny_setEpoch_of (s:=⟨h₁,g,d₁,t,os⟩) ho₁ hd hfit ?_)
  refine jK (kP ?_ (by size_fits))
  exact jO ⟨_,⟨rfl,jJ2 "set_iterator" _ (jH3 ⟨_,lT _ rfl,rfl⟩ dQ.lookup hq)⟩⟩
 have plain:∀(ord:List Nat) (sl:Nat→Nat),ord.Perm ks→sl 0=0→
   (∀(i k:Nat),ord[i]? =some k→∃v,El md k v∧∀(s:jP) {A:jV} {Q':Option (jL×Nat)→jP→Prop} {E:jL→jP→Prop},s.heap.get? a=some o→Q' (some (v,sl (i+1))) s→jN (jM PW w) A (setNext a (sl i) i ep) Q' E s)→
   (∀(s:jP) {A:jV} {Q':Option (jL×Nat)→jP→Prop} {E:jL→jP→Prop},s.heap.get? a=some o→Q' none s→jN (jM PW w) A (setNext a (sl es.size) es.size ep) Q' E s)→
   Q (.ref h.objs.size) ⟨h.push (itO (.int 0 0) 0 a es.size ep),g,d,t,os⟩:=by
  intro ord sl hp hs0 hnx hend
  refine q _ d h.objs.size [h.objs.size,a] ord es.size _ _ esz hp (st_turns hh hd hfit (lN hlt) ord sl (by rw[esz,hp.length_eq]) hnx hend) (lE _) (fun b hb=>?_) (kZ ..) (fun i h st b hb=>?_) ⟨by rw[hs0];exact lT _ rfl,lS _ ho⟩ fun b o e=>lS _ e
  ·rcases lH.1 hb with rfl | hb
   ·exact .inr ⟨lE _,lE _⟩
   ·exact .inl (lA.1 hb)
  ·rcases lH.1 hb with rfl | hb
   ·exact⟨_,st.1⟩
   ·rw[lA.1 hb];exact⟨_,st.2⟩
 split
 ·rename_i hq
  have hq':(!byTx w&&(!T.plain&&decide (es.size>1)))=true:=hq
  simp only[oX,Bool.not_eq_true',decide_eq_true_eq] at hq'
  refine jG3 ?_ hq';try clear hq';intro hb hp0 hz
  refine jK (draw_order _ _ (by simp) fun ys d' hp=>?_)
  have hyl:ys.length=es.size:=by rw[hp.length_eq];simp
  refine jK (kP ?_ (by show(List.map (fun(i:Nat)=>rawInt i) ys).toArray.size≤_;rw[lY,lZ,hyl,esz,jZ];lia))
  refine made _ d' _ (lS _ ho) (fun b o e=>lS _ e) ?_
  have hsz:(h.push {cls:=.type "tuple",data:=.seq (List.map (fun(i:Nat)=>rawInt i) ys).toArray}).objs.size=h.objs.size+1:=mK ..
  rw[hsz]
  have hmap:(lW es.size).map (fun j=>ks.getD j 0)=ks:=by
   apply List.ext_getElem
   ·simp only[lZ,oA];exact esz
   ·intro n h1 h2;simp[h2]
  have hne1:a≠h.objs.size+1:=lN (mZ hlt)
  have hne2:h.objs.size≠h.objs.size+1:=lN (nE _)
  refine q _ d' (h.objs.size+1) [h.objs.size+1,a,h.objs.size] (ys.map fun j=>ks.getD j 0) es.size _ _ esz ?_ (sd_turns (c:=0) hh hd hfit hne1 hne2 (ys.map fun j=>ks.getD j 0) ys (by simp[hyl]) hyl ?_) (by lia) (fun b hb=>?_) (kZ ..) (fun i h st b hb=>?_) (jH3 (by rw[←hsz];exact lT _ rfl) (lS _ (lS _ ho)) (lS _ (lT _ rfl))) fun b o e=>lS _ (lS _ e)
  ·have:=hp.map (fun j=>ks.getD j 0);rwa [hmap] at this
  ·intro i k hk
   rw[oZ] at hk
   cases hy:ys[i]? with
   | none=>rw[hy] at hk;cases hk
   | some j=>
    rw[hy] at hk
    have hj:j<ks.length:=by
     have:j∈lW es.size:=hp.mem_iff.1 (qB hy)
     rw[nB] at this;lia
    have hkj:ks[j]? =some k:=by
     rw[mH hj]
     simpa[hj] using hk
    refine jI1 ?_ (hF.get' hkj);intro e;refine jG2 ?_;intro he hr
    exact jJ2 j e (jH3 rfl (by simpa using he) hr.2)
  ·rcases lH.1 hb with rfl | hb
   ·exact .inr ⟨by lia,lE _⟩
   ·rcases lH.1 hb with rfl | hb
    ·exact .inl rfl
    ·rw[lA.1 hb];exact .inr ⟨lE _,lV _⟩
  ·rcases lH.1 hb with rfl | hb
   ·exact⟨_,st.1⟩
   ·rcases lH.1 hb with rfl | hb
    ·exact⟨_,st.2.1⟩
    ·rw[lA.1 hb];exact⟨_,st.2.2⟩
 ·rename_i hq
  have hq':¬(!byTx w&&(!T.plain&&decide (es.size>1)))=true:=hq
  refine jK (jO ?_)
  refine made h d _ ho (fun _ _ e=>e) ?_
  cases hb:byTx w with
  | true=>
   refine jI1 ?_ (hF.perm (pick_perm (w.params.setOrder a ep) es).symm);intro ord;refine jG2 ?_;intro hF' hp
   refine plain ord (fun _=>0) hp.symm rfl (fun i k hk=>?_) fun s {A Q' E} ho hq=>?_
   ·refine jI1 ?_ (hF'.get' hk);intro e;refine jG2 ?_;intro he hr
    refine⟨e.2,⟨hr.2,fun s {A Q' E} ho hq=>?_⟩⟩
    obtain⟨h,g,d,t,os⟩:=s
    refine sn_text ho hd hfit hb ?_
    rw[show(pickOrder (w.params.setOrder a ep) es)[i]? =some e by simpa using he]
    exact hq
   ·obtain⟨h,g,d,t,os⟩:=s
    refine sn_text ho hd hfit hb ?_
    have:(pickOrder (w.params.setOrder a ep) es).size=es.size:=by
     have:=(pick_perm (w.params.setOrder a ep) es).length_eq
     simpa using this
    rw[qT (by lia)]
    exact hq
  | false=>
   have hz:es.size≤1:=by
    cases md with
    | false=>exact hone rfl
    | true=>
     refine Decidable.byContradiction fun hz=>hq' ?_
     rw[hb,hpl rfl (by omega)]
     simp;lia
   have hle:T.led=true:=by rw[hled,hb];rfl
   have hps:T.place.size=es.size:=by
    unfold SetTable.fits at hfit
    simp at hfit;exact hfit.1
   refine plain ks (fun i=>if i=0 then 0 else T.place.getD 0 0+1) .rfl rfl (fun i k hk=>?_) fun s {A Q' E} ho hq=>?_
   ·have hi:i=0:=by
     have:=(nF.1 hk).1;lia
    subst hi
    refine jI1 ?_ (hF.get' hk);intro e;refine jG2 ?_;intro he hr
    refine⟨e.2,⟨hr.2,fun s {A Q' E} ho hq=>?_⟩⟩
    obtain⟨h,g,d,t,os⟩:=s
    refine sn_small ho hd hfit hb hle hz ?_
    obtain⟨pl⟩:=id T
    have hone':T.place.size=1:=by
     have:=(nF.1 hk).1;lia
    have hbel:SetTable.below T.place 0=0:=by
     unfold SetTable.below;rw[hone'];simp[SetTable.below.go]
    rw[show(if(0:Nat)=0 then 0 else T.place.getD 0 0+1)=0 from rfl,hbel]
    rw[show es[0]? =some e by simpa using he,rD (by lia)]
    have:T.place.getD 0 0=T.place[0]:=by simp[Array.getD,hone']
    rw[show(if(0:Nat)+1=0 then 0 else T.place.getD 0 0+1)=T.place.getD 0 0+1 from rfl,this] at hq
    exact hq
   ·obtain⟨h,g,d,t,os⟩:=s
    refine sn_small ho hd hfit hb hle hz ?_
    have hge:es.size≤SetTable.below T.place (if es.size=0 then 0 else T.place.getD 0 0+1):=by
     by_cases h0:es.size=0
     ·omega
     ·have h1:T.place.size=1:=by lia
      rw[if_neg h0]
      generalize hg:T.place.getD 0 0=p
      have e2:∀dflt,T.place.getD 0 dflt=p:=fun dflt=>by
       simp[Array.getD,h1] at hg⊢;exact hg
      have hb1:SetTable.below T.place (p+1)=1:=by
       unfold SetTable.below;rw[h1];simp[SetTable.below.go,e2]
      rw[hb1];omega
    rw[qT hge]
    exact hq
end
section
variable {w:jS}{A:jV}{C:Cx}{m mg mb:kJ→Option jL}{B:Base}{M:List (jQ×kK)}
 {h:kI} {g:Array jX} {d:kU} {t:Nat} {os:jU} {env:Env} {Q:jL→jP→Prop} {QF:kS→jP→Prop} {QB:Bool→jP→Prop} {QU:Unit→jP→Prop} {QP:jL×List jL→jP→Prop} {E:jL→jP→Prop}
 {K:Type} [DecidableEq K] {knd:KeyKind PW w K}
theorem St.out1 {M':List (jQ×kK)}{pa:jQ}{po:kK}{B':Base}{h':kI}{m':kJ→Option jL}(S:St C B h m ((pa,po)::M))(S':St C B' h' m' M')(e:h'.get? pa=some po)(n:B' pa=none)(a:∀p∈M',p.1≠pa):St C B' h' m' ((pa,po)::M'):={S' with
 m:=fun p hp=>by
  rcases lH.1 hp with rfl | hp
  ·have:=S.m (pa,po) (kZ ..);exact jH4 e this.2.1 this.2.2.1 n
  ·exact S'.m p hp
 nd:=by
  rw[mD,nW]
  refine⟨fun q=>?_,S'.nd⟩
  refine jI1 ?_ (mC.1 q);intro p;refine jG2 ?_;intro hp e
  exact a p hp e
 ow:=fun p hp=>by
  rcases lH.1 hp with rfl | hp
  ·exact S.ow (pa,po) (kZ ..)
  ·exact S'.ow p hp}
theorem for_turnsP {target:Expr}{body rest:List jW}{I T pa:jQ}{po:kK}{fp wr:List jQ}{n:Nat}{P Md:Nat→jL→kI→Prop}{Z:Nat→kI→Prop}(W:KTurns PW w A target I fp wr n P Md Z)
  (S:St C B h m ((pa,po)::M)) (hpf:pa∈fp) (hpw:pa∉wr) (F:Fits C fp wr T) (live:∀i h,Z i h→∀b∈fp,∃o,h.get? b=some o) (hM:∀p∈M,p.1∉fp) (hB:∀b∈wr,B b=none) (z0:Z 0 h)
  (J:Nat→Inv) (h0:J 0 B m M)
  (turn:∀i v C' B' h' m' M' d t,i<n→P i v h'→J i B' m' M'→St C' B' h' m' M'→C'.L=C.L∧C'.B₀=B'∧C'.W=C.W→Le B B'→
   jN (jM PW w) A (assign target env v) (fun _ s₂=>jN (jM PW w) A (kO body env) (Turn C' g os (J (i+1)) (fun _ _ _=>False) (fun _ _ _ _=>False)) no s₂) no ⟨h',g,d,t,os⟩)
  (fin:∀h d t B' m' M',St C B' h m' ((pa,po)::M')→Le B B'→J n B' m' M'→jN (jM PW w) A (kO rest env) QF no ⟨h,g,d,t,os⟩):
  kN (jM PW w) A (.forLoop target (.ref I) body [] env) (fun r s'=>match r with | .ok fl=>After w A env rest QF fl s' | .error _=>False) ⟨h,g,d,t,os⟩:=by
 injection W S hpf hpw F live hM hB z0 h0 turn fin with w A C m B M h g d t os env QF target body rest I T pa po fp wr n P Md Z J
 have hLw:C.L∉wr:=fun q=>F.L (F.sub _ q)
 have S0:=S
 have A0:=S.m (pa,po) (kZ ..)
 have Sd:St C B h m M:=S.drop (qU _ _)
 have F2:Fits C fp (pa::wr) T:={F with
  sub:=fun b hb=>by
   rcases lH.1 hb with rfl | hb
   ·exact hpf
   ·exact F.sub b hb
  wD:=fun b hb=>by
   rcases lH.1 hb with rfl | hb
   ·exact A0.2.1
   ·exact F.wD b hb}
 refine codeAny_forLoop_any (fun k s=>∃i h' d' t' B' m' M',k=n+1-i∧i≤n∧s=⟨h',g,d',t',os⟩∧St C B' h' m' M'∧Z i h'∧(∀p∈M',p.1∉fp)∧(∀b∈wr,B' b=none)∧J i B' m' M'∧C.top<h'.objs.size∧Le B B'∧h'.get? pa=some po∧B' pa=none) ?_ (n+1)
  (jJ7 0 h d t B m M (jH12 rfl (lC _) rfl Sd z0 hM hB h0 S.tlt (Le.refl _) A0.1 A0.2.2.2))
 intro k s;refine jI7 ?_;intro i h' d' t' B' m' M';refine jG12 ?_;intro zz1 hi zz2 S' z hM' hB' hJ _ hle hpg hpn;obtain rfl:=zz1;obtain rfl:=zz2
 rename_i yy0;clear yy0;injection hi S' z hM' hB' hJ hle hpg hpn with i h' d' t' B' m' M'
 have hMw:∀p∈M',p.1∉wr:=fun p hp q=>hM' p hp (F.sub _ q)
 have hB2:∀b∈pa::wr,B' b=none:=fun b hb=>by
  rcases lH.1 hb with rfl | hb
  ·exact hpn
  ·exact hB' b hb
 by_cases hlt:i<n
 ·refine W.item i _ _ _ hlt z fun v h₀ tk₁ hMd k₀=>?_
  refine W.go i v _ _ _ hMd fun h₁ hP z₁ k₁=>?_
  have S₁:St C B' h₁ m' M':=S'.turn (fun b o hb e=>k₁ b o hb (k₀ b o hb e)) hLw hMw hB' F.wD
  have hp1:h₁.get? pa=some po:=k₁ _ _ hpw (k₀ _ _ hpw hpg)
  have S₂:=S₁.inn F2 (live _ _ z₁) hM' hB2
  refine jR (turn i v _ B' h₁ m' M' d' tk₁ hlt hP hJ S₂ (jH3 rfl rfl rfl) hle) (fun _ s₂ x=>jR x (fun fl s₃ y=>?_) fun _ _ x=>x.elim) fun _ _ x=>x.elim
  have next:(∃h' d' t' Bx m' M',s₃=⟨h',g,d',t',os⟩∧St (C.into fp (pa::wr) T h₁ B') Bx h' m' M'∧J (i+1) Bx m' M')→
    ∃m,m<n+1-i∧∃i h' d' t' B' m' M',m=n+1-i∧i≤n∧s₃=⟨h',g,d',t',os⟩∧St C B' h' m' M'∧Z i h'∧(∀p∈M',p.1∉fp)∧(∀b∈wr,B' b=none)∧J i B' m' M'∧C.top<h'.objs.size∧Le B B'∧h'.get? pa=some po∧B' pa=none:=by
   refine jI6 ?_;intro h₃ d₃ t₃ B₃ m₃ M₃;refine jG3 ?_;intro e S₃ j₃
   exact⟨n+1-(i+1),⟨by exact ar_1 (mZ hlt),jJ7 (i+1) h₃ d₃ t₃ B₃ m₃ M₃ (jH12 rfl hlt e (S₃.outt S₁) (W.frame _ _ _ z₁ fun b hb o e=>S₃.fr b o (.inl hb) (by simpa[Cx.into,hb] using e)) (fun p hp q=>(S₃.m p hp).2.1 (.inl q)) (fun b hb=>(S₃.v b (.inl (lX _ hb))).1) j₃ ((S₃.outt S₁).tlt) (hle.trans S₃.up) (S₃.fr pa po (.inl hpf) (by simpa[Cx.into,hpf] using hp1)) ((S₃.v pa (.inl (kZ ..))).1))⟩⟩
  cases fl with
  | next=>exact next y
  | cont=>exact next y
  | brk=>refine jI6 ?_ y;try clear y;intro _ _ _ _ _ _;refine jG3 ?_;intro _ _ x;exact x.elim
  | ret v=>refine jI6 ?_ y;try clear y;intro _ _ _ _ _ _;refine jG3 ?_;intro _ _ x;exact x.elim
 ·have hin:i=n:=by lia
  subst hin
  refine W.done _ _ _ z fun h₁ tk₁ k₁=>wpAny_execs_nil (fin _ _ _ _ _ _ (S0.out1 (S'.turn k₁ hLw hMw hB' F.wD) (k₁ _ _ hpw hpg) hpn fun p hp q=>hM' p hp (q▸hpf)) hle hJ)
theorem n_set (S:St C B h m M)(k:∀h' a,St C B h' m ([]++(a,set0 w)::M)→Q (.ref a) ⟨h',g,d,t,os⟩):jN (jM PW w) A (call (.type "set") []) Q E ⟨h,g,d,t,os⟩:=
 c_set0 (k _ _ (S.own _ rfl))
theorem gm_sadd {md:Bool}{a:jQ}{o:kK}{ks:List Nat}{pl:Sem Bool}(S:St C B h m M)(hm:(a,o)∈M)(hs:SetG w md o ks)(hl:ks.length≤1000)(k:QP (.builtin "set.add",[.ref a]) ⟨h,g,d,t,os⟩):
  jN (jM PW w) A (getMethod (.ref a) "add" pl) QP E ⟨h,g,d,t,os⟩:=getMethod_set_add (s:=⟨h,g,d,t,os⟩) (hs.setOf (S.m _ hm).1 (by unfold scanBound;lia)) k
theorem s_add {md:Bool}{M₁ M₂:List (jQ×kK)}{a:jQ}{o:kK}{ks:List Nat}{k:Nat}{x:jL}(S:St C B h m (M₁++(a,o)::M₂))(hs:SetG w md o ks)(hx:El md k x)(hk:k∉ks)(h1:md=false→ks=[])(hl:ks.length≤1000)
  (q:∀h' t' o' ks',SetG w md o' ks'→ks'.Perm (ks++[k])→St C B h' m (M₁++(a,o')::M₂)→Q .none ⟨h',g,d,t',os⟩):
  jN (jM PW w) A (call (.builtin "set.add") [.ref a,x]) Q E ⟨h,g,d,t,os⟩:=
 set_add (S.m (a,o) (lJ _ (kZ ..))).1 hs hx hk h1 hl fun h' o' ks' i p e s=>q h' _ o' ks' i p (S.chg s e)
theorem SetG.setB {md:Bool}{a:jQ}{o:kK}{ks:List Nat}{f:Nat→Bool}(hs:SetG w md o ks)(hb:B a=some o)(hl:ks.length≤1000)(hf:∀k,f k=ks.contains k):SetB w md B a f:=
 jJ2 o ks.length ⟨hb,fun h e=>by rw[show f=fun k=>ks.contains k from funext hf];exact hs.setOf e (by unfold scanBound;lia)⟩
theorem for_set {md:Bool}{x:kJ}{px:kW}{body rest:List jW}{a:jQ}{o:kK}{ks:List Nat}(S:St C B h m M)(hb:B a=some o)(hs:SetG w md o ks)(hl:ks.length≤1000)(hh:A.handled=none)
  (J:List Nat→Inv) (h0:J [] B m M)
  (turn:∀(ord:List Nat) (i k:Nat) v C' B' h' m' M' d t,ord.Perm ks→ord[i]? =some k→El md k v→J (ord.take i) B' m' M'→St C' B' h' m' M'→C'.L=C.L∧C'.B₀=B'∧C'.W=C.W→Le B B'→
   jN (jM PW w) A (assign (.Name x px) env v) (fun _ s₂=>jN (jM PW w) A (kO body env) (Turn C' g os (J (ord.take (i+1))) (fun _ _ _=>False) (fun _ _ _ _=>False)) no s₂) no ⟨h',g,d,t,os⟩)
  (fin:∀(ord:List Nat) h d t B' m' M',ord.Perm ks→St C B' h m' M'→Le B B'→J ord B' m' M'→jN (jM PW w) A (kO rest env) QF no ⟨h,g,d,t,os⟩):
  fJ w A env (.Name x px) body rest QF (.ref a) ⟨h,g,d,t,os⟩:=by
 injection S hb hs hl hh h0 turn fin with w A C m B M h g d t os env QF md x px body rest a o ks J
 refine set_walk (x:=x) (px:=px) (S.b _ _ hb) hs hl hh fun h' d' it fp ord n Md Z hn hp W hit hfp hif live z0 kp=>?_
 have S':St C B h' m M:=S.kp ⟨kp⟩
 have hlt:a<h.objs.size:=S.blt hb
 have fresh:∀b∈fp,(∃o,B b=some o)∨h.objs.size≤b:=fun b hb'=>(hfp b hb').elim (fun e=>.inl ⟨o,e▸hb⟩) fun e=>.inr e.1
 have F:Fits C fp [it] it:={
  mem:=.inr hif
  sub:=fun b hb=>by rw[lA.1 hb];exact hif
  L:=fun hx=>by
   rcases fresh _ hx with ⟨o,e⟩ | e
   ·have:=(S.v _ S.lv).1;rw[e] at this;cases this
   ·exact absurd S.lt (lU.2 e)
  le:=fun b hb'=>by
   rcases hfp b hb' with e | e
   ·rw[e];exact lL (lP hlt hit)
   ·exact e.2
  top:=lL (lP S.tlt hit)
  wD:=fun b hb' q=>by rw[lA.1 hb'] at q;exact absurd (S.dlt q) (lU.2 hit)}
 have hMf:∀p∈M,p.1∉fp:=fun p hp' q=>by
  rcases fresh _ q with ⟨o,e⟩ | e
  ·have:=(S.m p hp').2.2.2;rw[e] at this;cases this
  ·exact absurd (lM (S.m p hp').1) (lU.2 e)
 have hBw:∀b∈[it],B b=none:=fun b hb'=>by
  rw[lA.1 hb']
  cases q:B it with
  | none=>rfl
  | some o=>exact absurd (S.blt q) (lU.2 hit)
 refine gQ W S' F live hMf hBw z0 (fun i=>J (ord.take i)) (fun _ _ _=>False) (fun _ _ _ _=>False) h0 (fun i v C' B' h' m' M' d t hi hP j S' e' l=>?_) (fun h d t B' m' M' S' l j=>?_) (fun _ _ _ _ _ _ _ _ _ x=>x.elim)
 ·refine jI1 ?_ hP;try clear hP;intro k;refine jG2 ?_;intro hk hv
  exact turn ord i k v C' B' h' m' M' d t hp hk hv j S' e' l
 ·rcases j with j | j
  ·exact fin ord h d t B' m' M' hp S' l (by rw[pA (by rw[hp.length_eq,hn];exact lE _)] at j;exact j)
  ·exact j.elim
theorem hH {a:jQ}{o:kK}{kvs:List (K×jL)}{pl:Sem Bool}{name:kJ}{id:String}(slot:Slot "dict" name id)(ty:typeOf (.builtin id)=pure (.type "method_descriptor"))(S:St C B h m M)(hm:(a,o)∈M)(ho:o.IsDictOf knd kvs)
  (k:QP (.builtin id,[.ref a]) ⟨h,g,d,t,os⟩):jN (jM PW w) A (getMethod (.ref a) name pl) QP E ⟨h,g,d,t,os⟩:=by
 refine jG3 ?_ (dZ ho);intro h1 h2 h3
 exact getMethod_builtin ⟨o,(S.m _ hm).1,h1⟩ PySem.F.plainAttrs_dict slot ty (fun b q=>by cases q;exact⟨o,⟨(S.m _ hm).1,h2⟩⟩) k
theorem d_setd {M₁ M₂:List (jQ×kK)}{a:jQ}{o:kK}{kvs:List (K×jL)}{k:K}{key dflt:jL}(S:St C B h m (M₁++(a,o)::M₂))(ho:o.IsDictOf knd kvs)(hk:knd.is k key=true)(hn:(a==sysModules)=false)(hsz:kvs.length≤kC)
  (q1:∀v t',valueAt kvs k=some v→Q v ⟨h,g,d,t',os⟩)
  (q2:∀h' t' o',valueAt kvs k=none→o'.IsDictOf knd (stored kvs k dflt)→St C B h' m (M₁++(a,o')::M₂)→Q dflt ⟨h',g,d,t',os⟩):
  jN (jM PW w) A (call (.builtin "dict.setdefault") [.ref a,key,dflt]) Q E ⟨h,g,d,t,os⟩:=by
 refine jG3 ?_ (dZ ho);intro h1 h2 h3
 have hm:(a,o)∈M₁++(a,o)::M₂:=lJ _ (kZ ..)
 refine call_meetsIn PySem.F.slot_dict_setdefault ⟨o,(S.m _ hm).1,h1⟩ PySem.F.entry_dict_setdefault (PySem.F.args_dict_setdefault_3 _ _ _) (kt_meets_setdefault knd a hk hn dflt) ⟨kvs,jH4 (eJ S hm ho) hsz (fun v e=>q1 v _ e) (fun e h' hd hs=>?_)⟩
 refine jI1 ?_ (qA.1 hd);intro o';refine jG2 ?_;intro e' i
 exact q2 h' _ o' e i (S.chg hs e')
theorem d_del {M₁ M₂:List (jQ×kK)}{a:jQ}{o:kK}{kvs:List (K×jL)}{k:K}{key:jL}(S:St C B h m (M₁++(a,o)::M₂))(ho:o.IsDictOf knd kvs)(hk:knd.is k key=true)(hsz:kvs.length≤kC)(hs:(valueAt kvs k).isSome=true)
  (q:∀h' t' o',o'.IsDictOf knd (without kvs k)→St C B h' m (M₁++(a,o')::M₂)→QU () ⟨h',g,d,t',os⟩):
  jN (jM PW w) A (delItem (.ref a) key) QU E ⟨h,g,d,t,os⟩:=by
 refine jG3 ?_ (dZ ho);intro h1 h2 h3
 have hm:(a,o)∈M₁++(a,o)::M₂:=lJ _ (kZ ..)
 have hT:Shared.TypeIs ⟨h,g,d,t,os⟩ (.ref a) "dict":=⟨o,(S.m _ hm).1,h1⟩
 refine wpAny_delItem_slot hT (by decide) PySem.F.slot_dict_delitem ?_
 refine call_meetsIn PySem.F.slot_dict_delitem hT PySem.F.entry_dict_delitem (PySem.F.args_dict_delitem_2 _ _) (meets_dict_delitem_pairs knd a hk) ⟨kvs,jH4 (eJ S hm ho) hsz hs (fun h' hd hs=>?_)⟩
 refine jI1 ?_ (qA.1 hd);intro o';refine jG2 ?_;intro e' i
 exact q h' _ o' i (S.chg hs e')
theorem x_del {o i:Expr}{p pos:kW}{rest:List jW}
  (k:jN (jM PW w) A (eval o env) (fun ov s₁=>jN (jM PW w) A (eval i env) (fun iv s₂=>jN (jM PW w) A (delItem ov iv) (fun _ s₃=>jN (jM PW w) A (kO rest env) QF E s₃) E s₂) E s₁) E ⟨h,g,d,t,os⟩):
  jN (jM PW w) A (kO (.Delete [.Subscript o i p] pos::rest) env) QF E ⟨h,g,d,t,os⟩:=
 wpAny_execs_cons (wpAny_Delete (wpAny_deleteEach_cons (wpAny_delete_Subscript (jR k (fun _ _ k1=>jR k1 (fun _ _ k2=>jR k2 (fun _ _ k3=>wpAny_deleteEach_nil k3) fun _ _ x=>x) fun _ _ x=>x) fun _ _ x=>x))))
theorem for_keys {target:Expr}{body rest:List jW}{a:jQ}{o:kK}{kvs:List (K×jL)}(S:St C B h m ((a,o)::M))(ho:o.IsDictOf knd kvs)(hn:(a==sysModules)=false)(hh:A.handled=none)
  (J:Nat→Inv) (h0:J 0 B m M) (hJ:∀i B B' m M,J i B m M→Le B B'→J i B' m M)
  (turn:∀i k x v C' B' h' m' M' d t,kvs[i]? =some (k,x)→knd.is k v=true→J i B' m' M'→St C' B' h' m' M'→C'.L=C.L∧C'.B₀=B'∧C'.W=C.W→Le B B'→
   jN (jM PW w) A (assign target env v) (fun _ s₂=>jN (jM PW w) A (kO body env) (Turn C' g os (J (i+1)) (fun _ _ _=>False) (fun _ _ _ _=>False)) no s₂) no ⟨h',g,d,t,os⟩)
  (fin:∀h d t B' m' M',St C B' h m' ((a,o)::M')→Le B B'→J kvs.length B' m' M'→jN (jM PW w) A (kO rest env) QF no ⟨h,g,d,t,os⟩)
  (ht:autoParam (∀i v,kE target (.ref i) v=pure ()) tR):
  jN (jM PW w) A (call (.builtin "dict.keys") [.ref a]) (fJ w A env target body rest QF) no ⟨h,g,d,t,os⟩:=by
 refine jG3 ?_ (dZ ho);intro h1 h2 h3
 have hm:(a,o)∈(a,o)::M:=kZ ..
 have hD:=eJ S hm ho
 refine call_meetsIn PySem.F.slot_dict_keys ⟨o,(S.m _ hm).1,h1⟩ PySem.F.entry_dict_keys (PySem.F.args_dict_keys_1 _) (kdl_meets_keys knd a hn) ⟨⟨kvs,hD⟩,?_⟩
 have S1:=S.froz {cls:=.type "dict_keys",data:=.fields #[.ref a]} rfl
 have le1:Le B _:=aV {cls:=.type "dict_keys",data:=.fields #[.ref a]} S.freshB
 have hv:KdlKeysView (h.push {cls:=.type "dict_keys",data:=.fields #[.ref a]}) h.objs.size a:=⟨_,jH3 (lT _ rfl) rfl rfl⟩
 have h01:=hJ 0 _ _ _ _ h0 le1
 generalize Base.put B h.objs.size {cls:=.type "dict_keys",data:=.fields #[.ref a]}=B1 at S1 le1 h01
 generalize h.push {cls:=.type "dict_keys",data:=.fields #[.ref a]}=h₁ at S1 hv⊢
 generalize h.objs.size=v at hv⊢
 obtain⟨ep,hat⟩:=(eJ S1 hm ho).dictAt
 refine kdl_pyIter_keys (s:=⟨h₁,g,d,t,os⟩) hv hat ?_
 have alt:a<h₁.objs.size:=lM (S1.m _ hm).1
 have T:=S1.kp (Kp.push h₁ {cls:=.type "dict_keyiterator",data:=.fields #[.ref a,.int 0 0,.int kvs.length 0,.int ep 0]})
 have F:Fits C [h₁.objs.size,a] [h₁.objs.size] h₁.objs.size:={
  mem:=.inr (kZ ..)
  sub:=fun b hb=>by rw[lA.1 hb];exact kZ ..
  L:=fun hx=>by
   rcases lH.1 hx with e | e
   ·exact absurd S1.lt (by rw[e];exact lO _)
   ·exact(S1.m _ hm).2.2.1 (lA.1 e▸S1.lv)
  le:=fun b hb'=>by
   rcases lH.1 hb' with e | e
   ·exact mB e
   ·rw[lA.1 e];exact lL alt
  top:=lL S1.tlt
  wD:=fun b hb' q=>by rw[lA.1 hb'] at q;exact absurd (S1.dlt q) (lO _)}
 refine for_turnsP (KTurns.ofWalks (Walks.dictKeys hh h₁.objs.size a (lN alt) kvs ep) fun i v s Q E st hq=>by rw[ht];exact jO hq) T (by simp) (by simp;exact lN alt) F (fun i h z b hb=>?_) (fun p hp q=>?_) (fun b hb=>by rw[lA.1 hb];exact S1.freshB)
  ⟨⟨_,jH3 (lT _ rfl) rfl rfl⟩,hat.at' fun o e=>lS _ e⟩ J h01 (fun i v C' B' h' m' M' d t hi hP j S' e' l=>?_) (fun h d t B' m' M' S' l j=>fin h d t B' m' M' S' (le1.trans l) j)
 ·rcases lH.1 hb with q | q
  ·refine jI1 ?_ z.1;intro o;refine jG2 ?_;intro ho _;exact⟨o,q▸ho⟩
  ·refine jI2 ?_ z.2;intro o es;refine jG2 ?_;intro ho _;exact⟨o,lA.1 q▸ho⟩
 ·rcases lH.1 q with q | q
  ·exact S1.freshM p (lX _ hp) q
  ·have:=S1.nd
   rw[mD,nW] at this
   have e:p.1=a:=lA.1 q
   have hp2:p.1∈M.map Prod.fst:=mF hp
   rw[e] at hp2
   exact this.1 hp2
 ·refine jI2 ?_ hP;try clear hP;intro k x;refine jG2 ?_;intro hx hk
  exact turn i k x v C' B' h' m' M' d t hx hk j S' e' (le1.trans l)
theorem for_enum {md:Bool}{elts:List Expr}{kk':Nat}{tpos:kW}{body rest:List jW}{vb:jL}{bs:List Nat}(S:St C B h m M)(hv:SeqV md B vb bs)(hh:A.handled=none)
  (J:Nat→Inv) (h0:J 0 B m M)
  (turn:∀i k T u x C' B' h' m' M' d t,bs[i]? =some k→El md k x→h'.IsTuple T #[.int i u,x]→J i B' m' M'→St C' B' h' m' M'→C'.L=C.L∧C'.B₀=B'∧C'.W=C.W→Le B B'→
   jN (jM PW w) A (assign (.Tuple elts kk' tpos) env (.ref T)) (fun _ s₂=>jN (jM PW w) A (kO body env) (Turn C' g os (J (i+1)) (fun _ _ _=>False) (fun _ _ _ _=>False)) no s₂) no ⟨h',g,d,t,os⟩)
  (fin:∀h d t B' m' M',St C B' h m' M'→Le B B'→J bs.length B' m' M'→jN (jM PW w) A (kO rest env) QF no ⟨h,g,d,t,os⟩):
  jN (jM PW w) A (call (.type "enumerate") [vb]) (fJ w A env (.Tuple elts kk' tpos) body rest QF) no ⟨h,g,d,t,os⟩:=by
 injection S hv hh h0 turn fin with w A C m B M h g d t os env QF md elts kk' tpos body rest vb bs J
 have go:∀(h':kI) (fp:List jQ) (P:Nat→jL→Prop) (Z:Nat→kI→Prop),Draws PW w A.in1 h.objs.size fp bs.length P Z→h.objs.size∈fp→(∀b∈fp,b=h.objs.size∨∃o,B b=some o)→(∀i h,Z i h→∀b∈fp,∃o,h.get? b=some o)→Z 0 h'→IsEnum h' (h.objs.size+1) h.objs.size 0 .none→(∀b o,h.get? b=some o→h'.get? b=some o)→(∀i x,P i x→∃k,bs[i]? =some k∧El md k x)→
   fJ w A env (.Tuple elts kk' tpos) body rest QF (.ref (h.objs.size+1)) ⟨h',g,d,t,os⟩:=by
  intro h' fp P Z D hif hfp live z0 he kp hP
  injection D hif hfp live z0 he kp hP with h' fp P Z
  refine wpAny_pyIter_enum (s:=⟨h',g,d,t,os⟩) he ?_
  have S':=S.kp ⟨kp⟩
  have big:∀b∈(h.objs.size+1)::fp,h.objs.size≤b∨∃o,B b=some o:=fun b hb=>by
   rcases lH.1 hb with rfl | hb
   ·exact .inl (lV _)
   ·rcases hfp b hb with rfl | x
    ·exact .inl (lE _)
    ·exact .inr x
  have hef:h.objs.size+1∉fp:=fun q=>by
   rcases hfp _ q with e | ⟨o,e⟩
   ·exact absurd e (Nat.succ_ne_self _)
   ·exact absurd (S.blt e) (lU.2 (lV _))
  have F:Fits C ((h.objs.size+1)::fp) [h.objs.size+1,h.objs.size] (h.objs.size+1):={
   mem:=.inr (kZ ..)
   sub:=fun b hb=>by
    rcases lH.1 hb with rfl | hb
    ·exact kZ ..
    ·rw[lA.1 hb];exact lX _ hif
   L:=fun hx=>by
    rcases big _ hx with e | ⟨o,e⟩
    ·exact absurd S.lt (lU.2 e)
    ·have:=(S.v _ S.lv).1;rw[e] at this;cases this
   le:=fun b hb'=>by
    rcases lH.1 hb' with rfl | hb'
    ·exact lE _
    ·rcases hfp b hb' with rfl | ⟨o,e⟩
     ·exact lV _
     ·exact lL (mZ (S.blt e))
   top:=lL (mZ S.tlt)
   wD:=fun b hb' q=>by
    have:h.objs.size≤b:=by
     rcases lH.1 hb' with rfl | hb'
     ·exact lV _
     ·rw[lA.1 hb'];exact lE _
    exact absurd (S.dlt q) (lU.2 this)}
  have hMf:∀p∈M,p.1∉(h.objs.size+1)::fp:=fun p hp' q=>by
   rcases big _ q with e | ⟨o,e⟩
   ·exact absurd (lM (S.m p hp').1) (lU.2 e)
   ·have:=(S.m p hp').2.2.2;rw[e] at this;cases this
  have hBw:∀b∈[h.objs.size+1,h.objs.size],B b=none:=fun b hb'=>by
   have:h.objs.size≤b:=by
    rcases lH.1 hb' with rfl | hb'
    ·exact lV _
    ·rw[lA.1 hb'];exact lE _
   cases q:B b with
   | none=>rfl
   | some o=>exact absurd (S.blt q) (lU.2 this)
  refine gQ (KTurns.ofWalksU (WalksT.toU (WalksT.enumerateD D (h.objs.size+1) (Nat.succ_ne_self _) hef hif))) S' F (fun i h z b hb=>?_) hMf hBw ⟨⟨_,he⟩,z0⟩ J (fun _ _ _=>False) (fun _ _ _ _=>False) h0 (fun i v C' B' h' m' M' d t hi hP' j S' e' l=>?_) (fun h d t B' m' M' S' l j=>?_) (fun _ _ _ _ _ _ _ _ _ x=>x.elim)
  ·rcases lH.1 hb with rfl | hb
   ·obtain⟨⟨_,z⟩,_⟩:=z;exact⟨_,z⟩
   ·exact live _ _ z.2 b hb
  ·refine jI2 ?_ hP';try clear hP';intro T vals;refine jG3 ?_;intro zz1 zz2 hT;obtain rfl:=zz1;revert zz2;refine jI2 ?_;intro u x;refine jG2 ?_;intro hx zz3;obtain rfl:=zz3
   refine jI1 ?_ (hP i x hx);intro k;refine jG2 ?_;intro hk hel
   exact turn i k T u x C' B' h' m' M' d t hk hel hT j S' e' l
  ·rcases j with j | j
   ·exact fin h d t B' m' M' S' l j
   ·exact j.elim
 have hh1:A.in1.handled=none:=hh
 cases md with
 | false=>
  refine jI2 ?_ hv;try clear hv;intro a vs;refine jG3 ?_;intro zz4 zz5 hF;obtain rfl:=zz4;obtain⟨n,e⟩:=zz5
  have hl:Lst B a vs:=⟨n,e⟩
  refine call_enumerate_list (s:=⟨h,g,d,t,os⟩) (hl.at S) fun h' he hit hz kp=>?_
  have hne:a≠h.objs.size:=lN (S.blt e)
  have hsz:vs.toArray.size=bs.length:=by rw[lY,hF.length]
  have D:=Draws.list (prog:=PW) (w:=w) hh1 h.objs.size a hne vs.toArray
  rw[hsz] at D
  refine go h' [h.objs.size,a] _ _ D (kZ ..) (fun b hb=>?_) (fun i h z b hb=>?_) ⟨hit,(hl.at S).at fun o e=>kp _ _ e⟩ he kp (fun i x hx=>?_)
  ·rcases lH.1 hb with rfl | hb
   ·exact .inl rfl
   ·rw[lA.1 hb];exact .inr ⟨_,e⟩
  ·rcases lH.1 hb with rfl | hb
   ·refine jI1 ?_ z.1;intro o;refine jG2 ?_;intro ho _;exact⟨o,ho⟩
   ·refine jI1 ?_ z.2;intro o;refine jG2 ?_;intro ho _;exact⟨o,lA.1 hb▸ho⟩
  ·refine jI1 ?_ (hF.get (by simpa using hx));intro k;refine jG2 ?_;intro hk r
   exact⟨k,⟨hk,r⟩⟩
 | true=>
  obtain⟨tk,rfl⟩:=hv
  refine call_enumerate_str (s:=⟨h,g,d,t,os⟩) fun h' he hit hz kp=>?_
  have hsz:(⟨bs.toArray⟩:kJ).cps.size=bs.length:=lY ..
  have one:∀ty,h'.IsStrIter h.objs.size ty ⟨bs.toArray⟩ tk 0→Draws PW w A.in1 h.objs.size [h.objs.size] bs.length (fun i v=>∃c u,(⟨bs.toArray⟩:kJ).cps[i]? =some c∧v=.str ⟨#[c]⟩ u) (fun i h₁=>h₁.IsStrIter h.objs.size ty ⟨bs.toArray⟩ tk i)→
    fJ w A env (.Tuple elts kk' tpos) body rest QF (.ref (h.objs.size+1)) ⟨h',g,d,t,os⟩:=fun ty hit D=>
   go h' [h.objs.size] _ _ D (lA.2 rfl) (fun b hb=>.inl (lA.1 hb)) (fun i h z b hb=>jI1 (fun o=>jG2 fun ho _=>⟨o,lA.1 hb▸ho⟩) z) hit he kp fun i x ⟨c,u,hc,e⟩=>⟨c,by simpa using hc,u,e⟩
  unfold strIterType at hit
  split at hit
  ·exact one _ hit (hsz▸Draws.strAscii (prog:=PW) (w:=w) hh1 h.objs.size ⟨bs.toArray⟩ tk)
  ·exact one _ hit (hsz▸Draws.strWide (prog:=PW) (w:=w) hh1 h.objs.size ⟨bs.toArray⟩ tk)
theorem g_tupH {elts:List Expr}{x1:Nat}{pos:kW}{a:jQ}{vs:List jL}(S:St C B h m M)(ht:h.IsTuple a vs.toArray)(hh:A.handled=none)
  (k:∀h',St C B h' m M→jN (jM PW w) A (assignInOrder ((assignEach elts env).map (·.2)) vs) QU E ⟨h',g,d,t,os⟩)
  (hn:autoParam ((assignEach elts env).length=vs.length) tR) (hstar:autoParam ((assignEach elts env).findIdx? (·.1)=none) tR):
  jN (jM PW w) A (assign (.Tuple elts x1 pos) env (.ref a)) QU E ⟨h,g,d,t,os⟩:=
 assign_Tuple_tuple hh ht (by rw[hn];simp) hstar fun h' e=>by
  have:=k h' (S.kp (Kp.ext e))
  simpa using this
end
abbrev Ix:=List (Nat×jQ×List jL×Nat)
noncomputable def ixM (ix:Ix):List (jQ×kK):=ix.map fun e=>(e.2.1,lstO e.2.2.1 e.2.2.2)
noncomputable def ixK (ix:Ix):List (Nat×jL):=ix.map fun e=>(e.1,.ref e.2.1)
structure IxOk (ix:Ix)(bs:List Nat):Prop where
 nd:(ix.map (·.1)).Nodup
 vs:∀e∈ix,F2 NV e.2.2.1 (poss bs e.1)
 mem:∀k,k∈bs↔k∈ix.map (·.1)
theorem ixM_app (a b:Ix):ixM (a++b)=ixM a++ixM b:=by unfold ixM;rw[mP]
theorem ixK_app (a b:Ix):ixK (a++b)=ixK a++ixK b:=by unfold ixK;rw[mP]
theorem iH {ix:Ix}{k:Nat}(h:valueAt (ixK ix) k=none):k∉ix.map (·.1):=by
 intro hm
 refine jI1 ?_ (mC.1 hm);intro e;refine jG2 ?_;intro he zz1;obtain rfl:=zz1
 unfold valueAt at h
 rw[Option.map_eq_none_iff,List.find?_eq_none] at h
 exact h (e.1,.ref e.2.1) (mC.2 ⟨e,he,rfl⟩) (by simp)
theorem ix_some {ix:Ix}{k:Nat}{v:jL}(h:valueAt (ixK ix) k=some v):∃e∈ix,e.1=k∧v=.ref e.2.1:=by
 unfold valueAt at h
 rw[Option.map_eq_some_iff] at h
 refine jI1 ?_ h;try clear h;intro p;refine jG2 ?_;intro hp zz2;obtain rfl:=zz2
 have h1:=List.mem_of_find?_eq_some hp
 have h2:=List.find?_some hp
 refine jI1 ?_ (mC.1 h1);intro e;refine jG2 ?_;intro he zz3;obtain rfl:=zz3
 exact⟨e,jH3 he (by simpa using h2) rfl⟩
theorem ix_stored {ix:Ix}{k:Nat}{a:jQ}(h:valueAt (ixK ix) k=none):stored (ixK ix) k (.ref a)=ixK (ix++[(k,a,[],0)]):=by
 unfold stored
 rw[if_neg]
 ·rw[ixK_app];rfl
 ·intro hq
  refine jI1 ?_ (List.any_eq_true.1 hq);intro p;refine jG2 ?_;intro hp e
  refine jI1 ?_ (mC.1 hp);intro x;refine jG2 ?_;intro hx zz4;obtain rfl:=zz4
  exact iH h (mC.2 ⟨x,hx,by simpa using e⟩)
theorem nodup_fst {β:Type}{l:List (Nat×β)}(nd:(l.map (·.1)).Nodup){e e':Nat×β}(he:e∈l)(he':e'∈l)(q:e.1=e'.1):e=e':=by
 induction l with
 | nil=>cases he
 | cons x r ih=>
  rw[mD,nW] at nd
  rcases lH.1 he with h1 | h1
  ·rcases lH.1 he' with h2 | h2
   ·rw[h1,h2]
   ·exact absurd (by rw[←h1,q];exact mF h2) nd.1
  ·rcases lH.1 he' with h2 | h2
   ·exact absurd (by rw[←h2,←q];exact mF h1) nd.1
   ·exact ih nd.2 h1 h2
theorem ix_get {ix:Ix}(nd:(ix.map (·.1)).Nodup){e:Nat×jQ×List jL×Nat}(he:e∈ix):valueAt (ixK ix) e.1=some (.ref e.2.1):=by
 cases h:valueAt (ixK ix) e.1 with
 | none=>exact absurd (mF he) (iH h)
 | some v=>
  refine jI1 ?_ (ix_some h);intro e';refine jG3 ?_;intro he' e1 zz5;obtain rfl:=zz5
  have:e'=e:=nodup_fst nd he' he e1
  rw[this]
theorem poss_snoc (bs:List Nat)(k k':Nat):poss (bs++[k]) k'=poss bs k'++if k=k' then [bs.length] else []:=by
 unfold poss
 rw[lR,mG,List.range_succ,List.filter_append]
 congr 1
 ·refine List.filter_congr fun j hj=>?_
  rw[nB] at hj
  rw[mR,mR,oR hj]
 ·have e:(bs++[k]).getD bs.length 0=k:=by simp
  rw[List.filter_cons,e]
  by_cases h:k=k'
  ·simp[h]
  ·simp[h]
theorem poss_none {bs:List Nat}{k:Nat}(h:k∉bs):poss bs k=[]:=by
 unfold poss
 rw[List.filter_eq_nil_iff]
 intro j hj e
 rw[nB] at hj
 refine h ?_
 have:bs.getD j 0=k:=by simpa using e
 rw[←this,mR,mH hj]
 exact pO hj
theorem IxOk.step {ix ix1 l1 l2:Ix}{e:Nat×jQ×List jL×Nat}{bs:List Nat}{k:Nat}{a:jQ}{u:Tok}{n':Nat}(x:IxOk ix bs)(hk:e.1=k)(hs:ix1=l1++e::l2)(h:ix1=ix∨(k∉ix.map (·.1)∧ix1=ix++[(k,a,[],0)]))(hin:ix1=ix→k∈bs):
  IxOk (l1++(e.1,e.2.1,e.2.2.1++[.int (bs.length:Nat) u],n')::l2) (bs++[k]):=by
 injection x hk hs h hin with ix ix1 l1 l2 e bs k a u n'
 have nd1:(ix1.map (·.1)).Nodup:=by
  rcases h with h | ⟨h,h'⟩
  ·rw[h];exact x.nd
  ·rw[h',mP,oD]
   exact jH3 x.nd (by simp) (fun a ha b hb e=>h (by
    have:b=k:=by simpa using hb
    rw[←this,←e];exact ha))
 have vs1:∀e∈ix1,F2 NV e.2.2.1 (poss bs e.1):=by
  rcases h with h | ⟨h,h'⟩
  ·rw[h];exact x.vs
  ·rw[h']
   intro e he
   rcases lQ.1 he with he | he
   ·exact x.vs e he
   ·rw[lA.1 he]
    rw[poss_none fun q=>h ((x.mem k).1 q)];exact .nil
 have mem1:∀k',k'∈bs++[k]↔k'∈ix1.map (·.1):=by
  intro k'
  rcases h with h | ⟨h,h'⟩
  ·rw[h,←x.mem,lQ,lA]
   exact⟨fun q=>q.elim id fun q=>q▸hin h,.inl⟩
  ·rw[h',mP,lQ,lQ,←x.mem];simp
 have keys:(l1++(e.1,e.2.1,e.2.2.1++[Value.int (bs.length:Nat) u],n')::l2).map (·.1)=ix1.map (·.1):=by rw[hs];simp
 refine⟨by rw[keys];exact nd1,fun e' he'=>?_,fun k'=>by rw[keys];exact mem1 k'⟩
 have hnd:∀e''∈l1++l2,e''.1≠k:=by
  rw[hs,mP,mD,oD] at nd1
  intro e'' h'' q
  rcases lQ.1 h'' with h'' | h''
  ·exact nd1.2.2 e''.1 (mF h'') e.1 (kZ ..) (q.trans hk.symm)
  ·exact(nW.1 nd1.2.1).1 (by rw[hk,←q];exact mF h'')
 rw[poss_snoc]
 have other:e'∈l1++l2→F2 NV e'.2.2.1 (poss bs e'.1++if k=e'.1 then [bs.length] else []):=fun q=>by
  rw[if_neg fun w=>hnd e' q w.symm,nD]
  refine vs1 e' ?_
  rw[hs]
  rcases lQ.1 q with q | q
  ·exact mJ _ q
  ·exact lJ _ (lX _ q)
 rcases lQ.1 he' with q | q
 ·exact other (mJ _ q)
 ·rcases lH.1 q with rfl | q
  ·dsimp only
   rw[if_pos hk.symm]
   exact(vs1 e (by rw[hs];exact lJ _ (kZ ..))).snoc ⟨u,rfl⟩
  ·exact other (lJ _ q)
section
variable {C:Cx}{B:Base}{h:kI}{m:kJ→Option jL}{M:List (jQ×kK)}
theorem St.perm {M':List (jQ×kK)}(S:St C B h m M)(p:M.Perm M'):St C B h m M':={S with
 m:=fun x hx=>S.m x (p.mem_iff.2 hx)
 nd:=(p.map Prod.fst).nodup_iff.1 S.nd
 ow:=fun x hx=>S.ow x (p.mem_iff.2 hx)}
theorem St.keepIx {dx:jQ}:∀{ix:Ix} {B:Base},St C B h m (M++ixM ix)→(∀a,a≠dx→¬C.W a)→(∃o,(dx,o)∈M)→∃B',Le B B'∧(∀e∈ix,Lst B' e.2.1 e.2.2.1)∧St C B' h m M:=by
 intro ix
 induction ix with
 | nil=>intro B S _ _;exact⟨B,jH3 (Le.refl _) (fun _ h=>(nomatch h)) (by simpa[ixM] using S)⟩
 | cons e r ih=>
  intro B S hW hd
  have S1:St C B h m (M++(e.2.1,lstO e.2.2.1 e.2.2.2)::ixM r):=S
  have hne:e.2.1≠dx:=fun q=>by
   obtain⟨o,ho⟩:=hd
   exact S1.apart (dx,o) (mJ _ ho) q.symm
  have S2:=S1.keep (hW _ hne)
  refine jI1 ?_ (ih S2 hW hd);intro B';refine jG3 ?_;intro l hl S3
  have le1:Le B (Base.put B e.2.1 (lstO e.2.2.1 e.2.2.2)):=aV _ (S1.m _ (lJ _ (kZ ..))).2.2.2
  refine⟨B',jH3 (le1.trans l) (fun e' he'=>?_) S3⟩
  rcases lH.1 he' with rfl | he'
  ·exact⟨_,l _ _ (aM _ _ _)⟩
  ·exact hl e' he'
end
noncomputable def JkV (w:jS)(md:Bool)(B:Base)(vj:jL)(jk:Nat→Bool):Prop:=
 (vj=.none∧∀k,jk k=false)∨∃f o fd,vj=.ref f∧B f=some o∧o.cls=.type "function"∧o.data=.func fd∧
  ∀{A:jV} {s:jP} {B':Base} {k:Nat} {x:jL},Le B B'→(∀a o,B' a=some o→s.heap.get? a=some o)→Room A 4→El md k x→jN (jM PW w) A (call (.ref f) [x]) (Ends B' s fun v _=>v=.bool (jk k)) no s
theorem JkV.le {w:jS}{md:Bool}{B B':Base}{vj:jL}{jk:Nat→Bool}(x:JkV w md B vj jk)(l:Le B B'):JkV w md B' vj jk:=by
 rcases x with x | ⟨f,o,fd,e,hb,hc,hd,k⟩
 ·exact .inl x
 ·exact .inr (jJ3 f o fd (jH5 e (l _ _ hb) hc hd (fun l' hB hr hx=>k (l.trans l') hB hr hx)))
theorem JkV.hand {w:jS}{md:Bool}{B:Base}{vj:jL}{jk:Nat→Bool}(x:JkV w md B vj jk):handedOut vj=pure vj:=by
 rcases x with ⟨rfl,_⟩ | ⟨f,o,fd,rfl,_⟩<;>rfl
theorem bT {x y:kJ}{v:jL}{L:List (kJ×jL)}(h:x≠y):pB x ((y,v)::L)=pB x L:=by rw[nJ,beq_eq_false_iff_ne.2 h]
theorem ixK_keys (ix:Ix):(ixK ix).map (·.1)=ix.map (·.1):=by unfold ixK;rw[nP];rfl
theorem fn_bool:kF (.type "function") "__bool__"=pure none:=by rw[jY,kH];kernel_rfl
theorem fn_len:kF (.type "function") "__len__"=pure none:=by rw[jY,kH];kernel_rfl
section
variable {w:jS}{A:jV}{C:Cx}{m mg mb:kJ→Option jL}{B:Base}{M:List (jQ×kK)}
 {h:kI} {g:Array jX} {d:kU} {t:Nat} {os:jU} {env:Env} {Q:jL→jP→Prop} {QF:kS→jP→Prop} {QB:Bool→jP→Prop} {QU:Unit→jP→Prop} {E:jL→jP→Prop}
theorem t_fn {f:jQ}{o:kK}(ho:h.get? f=some o)(hc:o.cls=.type "function")(k:QB true ⟨h,g,d,t,os⟩):jN (jM PW w) A (truthy (.ref f)) QB E ⟨h,g,d,t,os⟩:=by
 unfold truthy
 refine jK (wpAny_callSpecial?_none (s:=⟨h,g,d,t,os⟩) ⟨o,ho,hc⟩ fn_bool ?_)
 refine jK (wpAny_specialOf (s:=⟨h,g,d,t,os⟩) ⟨o,ho,hc⟩ fn_len ?_)
 exact jO k
theorem t_none (k:QB false ⟨h,g,d,t,os⟩):jN (jM PW w) A (truthy .none) QB E ⟨h,g,d,t,os⟩:=jO k
theorem f_typ0 {pos:kW}{T:String}(k:jN (jM PW w) A (call (.type T) []) Q E ⟨h,g,d,t,os⟩):
  jN (jM PW w) A (callWith pos (.type T) [] (backTo pos (kD [] env)) []) Q E ⟨h,g,d,t,os⟩:=PySem.callWith_type (args:=[]) rfl (PySem.evalArgs_none (by simpa using k))
theorem setd_ix {md:Bool}{db dx a:jQ}{o od:kK}{ix:Ix}{k:Nat}{x:jL}(S:St C B h m ((a,lstO [] 0)::(db,o)::(dx,od)::ixM ix))(hdo:o.IsDictOf (kk w md) (ixK ix))(hn:(db==sysModules)=false)(hx:El md k x)(hl:ix.length≤1000)(nd:(ix.map (·.1)).Nodup)
  (q:∀h' t' o' ix1 l1 l2 e,o'.IsDictOf (kk w md) (ixK ix1)→ix1=l1++e::l2→e.1=k→(ix1=ix∨(k∉ix.map (·.1)∧ix1=ix++[(k,a,[],0)]))→(ix1=ix→k∈ix.map (·.1))→ix1.length≤ix.length+1→St C B h' m (((db,o')::(dx,od)::ixM l1)++(e.2.1,lstO e.2.2.1 e.2.2.2)::ixM l2)→Q (.ref e.2.1) ⟨h',g,d,t',os⟩):
  jN (jM PW w) A (call (.builtin "dict.setdefault") [.ref db,x,.ref a]) Q E ⟨h,g,d,t,os⟩:=by
 refine d_setd (M₁:=[(a,lstO [] 0)]) (M₂:=(dx,od)::ixM ix) S hdo (hO hx) hn (by unfold ixK;rw[lZ,jZ];lia) (fun v t' e=>?_) (fun h' t' o' e i S=>?_)
 ·refine jI1 ?_ (ix_some e);intro en;refine jG3 ?_;intro he zz1 zz2;obtain rfl:=zz1;obtain rfl:=zz2
  refine jI2 ?_ (List.append_of_mem he);intro l1 l2;intro hs
  refine q h t' o ix l1 l2 en hdo hs rfl (.inl rfl) (fun _=>mF he) (lV _) ?_
  have S1:St C B h m ((db,o)::(dx,od)::ixM ix):=S.drop (qU _ _)
  rw[hs,ixM_app] at S1
  exact S1
 ·rw[ix_stored e] at i
  refine q h' t' o' (ix++[(k,a,[],0)]) ix [] (k,a,[],0) i rfl rfl (.inr ⟨iH e,rfl⟩) (fun e'=>?_) (by simp) ?_
  ·have:=congrArg List.length e';simp at this
  ·refine S.perm ?_
   show((a,lstO [] 0)::(db,o')::(dx,od)::ixM ix).Perm (((db,o')::(dx,od)::ixM ix)++[(a,lstO [] 0)])
   exact(List.perm_append_comm (l₁:=[(a,lstO [] 0)]) (l₂:=(db,o')::(dx,od)::ixM ix))
end
theorem hV {K:Type}[DecidableEq K](kvs:List (K×jL))(k j:K):valueAt (without kvs k) j=if j=k then none else valueAt kvs j:=by
 unfold valueAt without
 induction kvs with
 | nil=>simp
 | cons p r ih=>
  rw[List.filter_cons]
  by_cases h:p.1=k
  ·rw[if_neg (by simp[h]),ih]
   by_cases hj:j=k
   ·rw[if_pos hj,if_pos hj]
   ·rw[if_neg hj,if_neg hj,rE (by simp;intro e;exact hj (e.symm.trans h))]
  ·rw[if_pos (by simp[h])]
   by_cases hp:p.1=j
   ·rw[List.find?_cons_of_pos (by simp[hp]),List.find?_cons_of_pos (by simp[hp]),if_neg (fun e=>h (hp.trans e))]
   ·rw[rE (by simp[hp]),rE (by simp[hp]),ih]
section
variable {w:jS}{A:jV}{s:jP}{mg mb:kJ→Option jL}{B:Base}
theorem c_chain {md:Bool}{x dx:jQ}{od:kK}{L:List (kJ×jL)}{vb vj:jL}{bs:List Nat}{jk:Nat→Bool}
  (hx:InsB B x dx) (hd:s.heap.get? dx=some od) (hdB:B dx=none) (ho:NsO od (vars L)) (hsz:L.length≤50)
  (lb:L.lookup (kY "b")=some vb) (lj:L.lookup (kY "isjunk")=some vj) (lau:L.lookup (kY "autojunk")=some (.bool true))
  (sb:SeqV md B vb bs) (hj:JkV w md B vj jk) (hone:md=false→∀k l,jk k=true→jk l=true→k=l) (hs2:bs.length≤100)
  (G:Gr w mg mb B) (hB:∀a o,B a=some o→s.heap.get? a=some o) (hr:Room A 10):
  jN (jM PW w) A (call (.ref 188) [.ref x]) (dF B s dx fun v B' od'=>v=.none∧∃db jb pb,NsO od' (vars ((kY "bpopular",.ref pb)::(kY "bjunk",.ref jb)::(kY "b2j",.ref db)::L))∧B2J w md B' db bs jk∧SetB w md B' jb (fun k=>bs.contains k&&jk k)) no s:=by
 refine' gI (o:=o_188 w.params) (binds:=[(kY "self",.ref x)]) G hB hd hdB hr.d' ?ho ?hd ?hcd ?hb ?c1 ?c2 ?c3 ?c4 ?c5 ?_
 case ho=>exact rfl
 case hd=>exact rfl
 case hcd=>exact rfl
 case hb=>exact BindsTo.of_eq rfl
 case c1=>decide
 case c2=>exact locs rfl
 case c3=>exact rfl
 case c4=>exact rfl
 case c5=>exact rfl
 intro C h t e1 e2 S e3 e4
 have hh:=hr.h
 generalize hEe:envX _ _ C.L _ _ []=env
 have hE:aP C env:=hEe▸⟨rfl,rfl,rfl,rfl⟩
 subst hEe
 change St C B h (vars [(kY "self",.ref x)]) ([]++(dx,od)::[]) at S
 clear hd hdB hB;injection hx ho hsz lb lj lau sb hj hone hs2 G hr e1 e2 e3 e4 hh hE S with w A s mg mb B md x dx od L vb vj bs jk C h t
 refine aY (cX (aA S hE (by exact rfl) ?_))
 refine dK S G hx (kZ ..) ho ob_b (sm_b _) (cI _) lb (fC sb) ?_;intro _
 refine aD S hE ?_;clear S;intro h t S
 refine fQ (e_dict0 S G ?_);clear S;intro h db hdb S
 refine fS (aA S hE (by exact rfl) ?_)
 refine cO (M₁:=[(db,eA)]) (M₂:=[]) S G hx ho ob_b2j (sm_b2j _) (dM _) (by lia) ?_;clear S;intro h t od1 ho1 S
 refine aK (aD S hE ?_);clear S;intro h t S
 replace S:=S.few (.cons (x:=kY "b2j") rfl (.cons (x:=kY "b") rfl (.cons (x:=kY "self") rfl (.nil))))
 refine eD (aR (cM (v:=.type "enumerate") S hE G (iV _) rfl ?_))
 refine dX (aB (aA S hE (by exact rfl) ?_))
 refine aC (for_enum S sb hh (fun i B' m' M'=>∃o ix,M'=(db,o)::(dx,od1)::ixM ix∧m'=vars [(kY "b2j",.ref db),(kY "b",vb),(kY "self",.ref x)]∧o.IsDictOf (kk w md) (ixK ix)∧IxOk ix (bs.take i)∧ix.length≤i) ?_ ?_ ?_)
 ·exact jJ2 eA [] (jH5 rfl rfl (jC _) ⟨oO,fun _ h=>(nomatch h),fun k=>by simp⟩ (lE _))
 ·intro i k T u xv C' B' h m' M' d t hk hel hT;refine jI2 ?_;intro o ix;refine jG5 ?_;intro zz3 zz4 hdo hix hlen;obtain rfl:=zz3;obtain rfl:=zz4;intro S;rintro⟨eL,eB⟩;intro le
  rename_i yy0;clear yy0;clear ho1 eB;injection hdb hk hel hT hdo hix hlen S eL le with db od1 i k T u xv C' B' h d t o ix
  have hi:i<bs.length:=(nF.1 hk).1
  have hE':aP C' _:=⟨hE.k,hE.l.trans eL.symm,hE.g,hE.b⟩
  replace G:=G.le le
  refine g_tupH (vs:=[.int i u,xv]) S hT hh ?_;clear S;intro h S
  refine aL (aK (aD S hE' ?_));clear S;intro h t S
  refine aL (aK (aD S hE' ?_));clear S;intro h t S
  refine cK (aY (aU (aA S hE' (by exact rfl) ?_)))
  refine hH PySem.F.slot_dict_setdefault PySem.F.type_dict_setdefault S (kZ ..) hdo ?_
  refine dI (aB (aA S hE' (by exact rfl) ?_))
  refine aB (bA (aC (fR S (lC _) ?_)));clear S;intro h a S
  refine aC (setd_ix S hdo hdb hel (by lia) hix.nd ?_);clear S;intro h t o' ix1 l1 l2 e hdo' hs hek hor hin hl1 S
  refine aD S hE' ?_;clear S;intro h t S
  refine aZ (aU (aA S hE' (by exact rfl) ?_))
  refine cA (M:=((db,o')::(dx,od1)::ixM l1)++_::ixM l2) S (lJ _ (kZ ..)) ?_
  refine dI (aB (aA S hE' (by exact rfl) ?_))
  refine aC ?_
  have hvl:e.2.2.1.length≤kC:=by
   have:(poss (bs.take i) e.1).length≤(bs.take i).length:=by
    unfold poss;exact lB (rF _ _) (by rw[oA];exact lE _)
   rw[jZ]
   rcases hor with q | ⟨q1,q2⟩
   ·have:=(hix.vs e (by rw[←q,hs];exact lJ _ (kZ ..))).length
    rw[nG] at *;lia
   ·have he:e∈ix++[(k,a,[],0)]:=by rw[←q2,hs];exact lJ _ (kZ ..)
    rcases lQ.1 he with he | he
    ·have:=(hix.vs e he).length
     rw[nG] at *;lia
    ·rw[lA.1 he];exact lC _
  refine bV (M₁:=(db,o')::(dx,od1)::ixM l1) (M₂:=ixM l2) S hvl ?_;clear S;intro h n S
  refine aJ ?_
  replace S:=S.few (.cons (x:=kY "b2j") rfl (.cons (x:=kY "b") rfl (.cons (x:=kY "self") rfl (.nil))))
  have htk:(bs.take i).length=i:=by rw[nG];lia
  have htk1:bs.take (i+1)=bs.take i++[k]:=by rw[nH,hk];rfl
  refine jJ6 h _ _ _ _ _ (jH3 rfl S (jJ2 o' (l1++(e.1,e.2.1,e.2.2.1++[.int (i:Nat) u],n)::l2) (jH5 (by rw[ixM_app];rfl) rfl ?_ ?_ ?_)))
  ·have:ixK (l1++(e.1,e.2.1,e.2.2.1++[Value.int (i:Nat) u],n)::l2)=ixK ix1:=by rw[hs];simp[ixK]
   rw[this];exact hdo'
  ·rw[htk1]
   have:=hix.step (u:=u) (n':=n) hek hs hor fun q=>(hix.mem k).2 (hin q)
   rw[htk] at this;exact this
  ·have:(l1++(e.1,e.2.1,e.2.2.1++[Value.int (i:Nat) u],n)::l2).length=ix1.length:=by rw[hs];simp
   rw[this];lia
 intro h d t B1 m' M' S le;refine jI2 ?_;intro o ix;refine jG5 ?_;intro zz5 zz6 hdo hix hlen;obtain rfl:=zz5;obtain rfl:=zz6
 rename_i yy0;clear yy0;injection hdb ho1 le hdo hix hlen S with db od1 h d t B1 o ix
 replace hx:=hx.le le
 replace G:=G.le le
 replace sb:=sb.le le
 replace hj:=hj.le le
 rw[oH] at hix
 refine jI1 ?_ (St.keepIx (M:=[(db,o),(dx,od1)]) S e4.2 ⟨od1,by simp⟩);intro B2;refine jG3 ?_;intro le hls S
 replace hx:=hx.le le
 replace G:=G.le le
 replace sb:=sb.le le
 replace hj:=hj.le le
 refine fQ (aR (cM (v:=.type "set") S hE G (glob_set _) rfl ?_))
 refine f_typ0 (n_set S ?_);clear S;intro h jb S
 refine fS (aA S hE (by exact rfl) ?_)
 refine cO (M₁:=[(jb,set0 w),(db,o)]) (M₂:=[]) S G hx ho1 ob_bjunk (sm_bjunk _) (dM _) (by simp;lia) ?_;clear S;intro h t od2 ho2 S
 refine aK (aD S hE ?_);clear S;intro h t S
 refine aY (cX (aA S hE (by exact rfl) ?_))
 refine dK S G hx (by simp) ho2 ob_isj (sm_isj _) (cI _) (by rw[bT (by decide +kernel),bT (by decide +kernel)];exact lj) hj.hand ?_;intro _
 refine aD S hE ?_;clear S;intro h t S
 have hkeys:∀k,k∈(ixK ix).map (·.1)↔k∈bs:=fun k=>by rw[ixK_keys];exact(hix.mem k).symm
 have hknd:((ixK ix).map (·.1)).Nodup:=by rw[ixK_keys];exact hix.nd
 have hjd:jb≠dx:=fun q=>S.apart (M₁:=[]) (M₂:=[(db,o),(dx,od2)]) (dx,od2) (by simp) q.symm
 have hdd:db≠dx:=fun q=>S.apart (M₁:=[(jb,set0 w)]) (M₂:=[(dx,od2)]) (dx,od2) (by simp) q.symm
 refine fW S (fun B' m' M'=>∃ob kvs,M'=[(db,ob),(dx,od2)]∧m'=vars [(kY "junk",.ref jb),(kY "b2j",.ref db),(kY "b",vb),(kY "self",.ref x)]∧SetB w md B' jb (fun k=>bs.contains k&&jk k)∧ob.IsDictOf (kk w md) kvs∧∀k,valueAt kvs k=if k∈bs∧jk k=true then none else valueAt (ixK ix) k) ?_ ?_
 ·rcases id hj with ⟨rfl,hjk⟩ | ⟨f,of,fd,rfl,hf,hfc,hfd,hcall⟩
  ·refine bH false ?_ (fun c=>nomatch c) (fun c t=>?_)
   ·refine dL (aA S hE (by exact rfl) ?_)
    refine t_none ?_
    exact pu rfl
   refine aJ (aJ ?_)
   have S1:=St.keep (M₁:=[]) (M₂:=[(db,o),(dx,od2)]) S (e4.2 _ hjd)
   have lb1:Le B2 (Base.put B2 jb (set0 w)):=aV _ (S.m (jb,set0 w) (by simp)).2.2.2
   replace S:=S1
   replace S:=S.few (.cons (x:=kY "junk") rfl (.cons (x:=kY "b2j") rfl (.cons (x:=kY "b") rfl (.cons (x:=kY "self") rfl (.nil)))))
   exact jJ6 h _ _ _ _ _ (jH4 rfl S lb1 (jJ2 o _ (jH5 rfl rfl ((SetG.zero w md).setB (aM _ _ _) (lC _) (fun k=>by rw[hjk];simp)) hdo (fun k=>by rw[hjk];simp))))
  ·refine bH true ?_ (fun c t=>?_) (fun c=>nomatch c)
   ·refine dL (aA S hE (by exact rfl) ?_)
    refine t_fn (S.b _ _ hf) hfc ?_
    exact pu rfl
   replace S:=S.perm (List.Perm.swap (db,o) (jb,set0 w) [(dx,od2)])
   replace S:=S.few (.cons (x:=kY "isjunk") rfl (.cons (x:=kY "junk") rfl (.cons (x:=kY "b2j") rfl (.cons (x:=kY "b") rfl (.cons (x:=kY "self") rfl (.nil))))))
   refine eD (aU (aA S hE (by exact rfl) ?_))
   refine hH PySem.F.slot_dict_keys PySem.F.type_dict_keys S (kZ ..) hdo ?_
   refine f_m0 (for_keys S hdo hdb hh (fun i B' m' M'=>∃oj ks,M'=[(jb,oj),(dx,od2)]∧m'=vars [(kY "isjunk",.ref f),(kY "junk",.ref jb),(kY "b2j",.ref db),(kY "b",vb),(kY "self",.ref x)]∧SetG w md oj ks∧(∀k,k∈ks↔k∈((ixK ix).map fun p:Nat×jL=>p.1).take i∧jk k=true)∧ks.length≤i) ?_ (fun _ _ _ _ _ x _=>x) ?_ ?_)
   ·exact jJ2 (set0 w) [] (jH5 rfl rfl (SetG.zero w md) (fun k=>by simp) (lE _))
   ·intro i k xv v C' B' h m' M' d t hxi hel;refine jI2 ?_;intro oj ks;refine jG5 ?_;intro zz7 zz8 hsg hks hkl;obtain rfl:=zz7;obtain rfl:=zz8;intro S;rintro⟨eL,eB⟩;intro le
    rename_i yy0 _ _ _ _ _ _ _ _ _ yy1;clear yy1 yy0;clear hls hx ho2 hjd lj hfc eB;injection G sb hj hf hfd hcall hxi hel hsg hks hkl S eL le with B2 jb od2 f of fd i k xv v C' B' h d t oj ks
    have hkx:((ixK ix).map (·.1))[i]? =some k:=by rw[oZ,hxi];rfl
    have hil:i<ix.length:=by
     have:=(nF.1 hxi).1;unfold ixK at this;rwa [lZ] at this
    replace hel:=is_el hel
    have hE':aP C' _:=⟨hE.k,hE.l.trans eL.symm,hE.g,hE.b⟩
    replace hf:=le _ _ hf
    replace G:=G.le le
    replace sb:=sb.le le
    replace hj:=hj.le le
    refine aK (aD S hE' ?_);clear S;intro h t S
    refine x_ifq (dL (aR (aA S hE' (by exact rfl) ?_)))
    refine cZ hfd ?_
    refine aB (aA S hE' (by exact rfl) ?_)
    refine aC ?_
    refine⟨S.b _ _ hf,use S (hcall le S.b ((hr.le (j:=5) (by decide)).deeper) hel) ?_⟩
    rintro _ h d t B3 S le3 rfl
    injection S le3 with h d t B3
    refine aI ?_
    have hkn:k∉ks:=fun q=>by
     have:=((hks k).1 q).1
     obtain⟨n,hn,hnk⟩:=rG this
     rw[nG] at hn
     obtain⟨h1,h2⟩:=nF.1 hkx
     rw[List.getElem_take] at hnk
     exact absurd ((oU.1 hknd n i (by lia) h1 (by lia)) (hnk.trans h2.symm)) id
    have htk:((ixK ix).map (·.1)).take (i+1)=((ixK ix).map (·.1)).take i++[k]:=by rw[nH,hkx];rfl
    refine⟨fun hq=>?_,fun hq=>?_⟩
    ·refine aZ (aU (aA S hE' (by exact rfl) ?_))
     refine gm_sadd S (kZ ..) hsg (by lia) ?_
     refine dI (aB (aA S hE' (by exact rfl) ?_))
     refine aC (s_add (M₁:=[]) (M₂:=[(dx,od2)]) S hsg hel hkn (fun e=>?_) (by lia) ?_)
     ·cases hks0:ks with
      | nil=>rfl
      | cons k' r=>
       have:k'∈ks:=by rw[hks0];exact kZ ..
       exact absurd (hone e k' k ((hks k').1 this).2 hq▸this) hkn
     clear S;intro h t o' ks' hsg' hp S
     refine aJ (aJ ?_)
     replace S:=S.few (.cons (x:=kY "isjunk") rfl (.cons (x:=kY "junk") rfl (.cons (x:=kY "b2j") rfl (.cons (x:=kY "b") rfl (.cons (x:=kY "self") rfl (.nil))))))
     refine jJ6 h _ _ _ _ _ (jH3 rfl S (jJ2 o' ks' (jH5 rfl rfl hsg' (fun k'=>?_) (by rw[hp.length_eq,lR,mG];lia))))
     rw[hp.mem_iff,lQ,lA,hks,htk,lQ,lA]
     exact⟨fun q=>q.elim (fun q=>⟨.inl q.1,q.2⟩) fun q=>⟨.inr q,q▸hq⟩,fun q=>q.1.elim (fun q1=>.inl ⟨q1,q.2⟩) .inr⟩
    ·refine aJ (aJ ?_)
     replace S:=S.few (.cons (x:=kY "isjunk") rfl (.cons (x:=kY "junk") rfl (.cons (x:=kY "b2j") rfl (.cons (x:=kY "b") rfl (.cons (x:=kY "self") rfl (.nil))))))
     refine jJ6 h _ _ _ _ _ (jH3 rfl S (jJ2 oj ks (jH5 rfl rfl hsg (fun k'=>?_) (by lia))))
     rw[hks,htk,lQ,lA]
     exact⟨fun q=>⟨.inl q.1,q.2⟩,fun q=>⟨q.1.elim id fun e=>(by rw[e,hq] at q;exact(nomatch q.2)),q.2⟩⟩
   ·intro h d t B3 m' M' S le3;refine jI2 ?_;intro oj ks;refine jG5 ?_;intro zz9 zz10 hsg hks hkl;obtain rfl:=zz9;obtain rfl:=zz10
    rename_i yy0;clear yy0;clear le hls hx sb ho2 lj hj hf hfc hfd hcall;injection G hjd le3 hsg hks hkl S with B2 jb od2 f of fd h d t B3 oj ks
    replace G:=G.le le3
    have hksl:ks.length≤100:=by
     have:(ixK ix).length=ix.length:=by unfold ixK;rw[lZ]
     lia
    have hks2:∀k,k∈ks↔k∈bs∧jk k=true:=fun k=>by
     rw[hks,pA (by simp),hkeys]
    have hknd2:ks.Nodup:=by refine jG2 ?_ hsg;try clear hsg;intro _;refine jI3 ?_;intro _ _ _;refine jG4 ?_;intro _ _ n _;exact n
    have hjbn:B3 jb=none:=(S.m (jb,oj) (by simp)).2.2.2
    have S1:=St.keep (M₁:=[(db,o)]) (M₂:=[(dx,od2)]) S (e4.2 _ hjd)
    have lb1:Le B3 (Base.put B3 jb oj):=aV _ hjbn
    have hjb1:Base.put B3 jb oj jb=some oj:=aM _ _ _
    generalize Base.put B3 jb oj=B4 at S1 lb1 hjb1
    replace S:=S1
    replace G:=G.le lb1
    refine eD (aA S hE (by exact rfl) ?_)
    refine for_set S hjb1 hsg (by lia) hh (fun l B' m' M'=>∃ob kvs,M'=[(db,ob),(dx,od2)]∧m'=vars [(kY "isjunk",.ref f),(kY "junk",.ref jb),(kY "b2j",.ref db),(kY "b",vb),(kY "self",.ref x)]∧ob.IsDictOf (kk w md) kvs∧(∀k,valueAt kvs k=if k∈l then none else valueAt (ixK ix) k)∧kvs.length≤1000) ?_ ?_ ?_
    ·exact jJ2 o _ (jH5 rfl rfl hdo (fun k=>by simp) (by unfold ixK;rw[lZ];lia))
    ·intro ord i k v C' B' h m' M' d t hp hk hel;refine jI2 ?_;intro ob kvs;refine jG5 ?_;intro zz11 zz12 hob hkv hkvl;obtain rfl:=zz11;obtain rfl:=zz12;intro S;rintro⟨eL,eB⟩;intro le
     rename_i yy0;clear yy0;clear S1 lb1 hjb1 eB;injection G hp hk hel hob hkv hkvl S eL le with B4 ord i k v C' B' h d t ob kvs
     have hE':aP C' _:=⟨hE.k,hE.l.trans eL.symm,hE.g,hE.b⟩
     replace G:=G.le le
     refine aK (aD S hE' ?_);clear S;intro h t S
     refine x_del (aA S hE' (by exact rfl) ?_)
     refine aA S hE' (by exact rfl) ?_
     have hond:ord.Nodup:=hp.nodup_iff.2 hknd2
     obtain⟨h1,h2⟩:=nF.1 hk
     have hni:k∉ord.take i:=fun q=>by
      obtain⟨n,hn,hnk⟩:=rG q
      rw[nG] at hn
      rw[List.getElem_take] at hnk
      exact absurd ((oU.1 hond n i (by lia) h1 (by lia)) (hnk.trans h2.symm)) id
     have hkin:k∈bs:=((hks2 k).1 (hp.mem_iff.1 (qB hk))).1
     have hsome:(valueAt kvs k).isSome=true:=by
      rw[hkv,if_neg hni]
      cases hv:valueAt (ixK ix) k with
      | some v=>rfl
      | none=>exact absurd ((hix.mem k).1 hkin) (iH hv)
     refine d_del (M₁:=[]) (M₂:=[(dx,od2)]) S hob (hO hel) (by rw[jZ];lia) hsome ?_;clear S;intro h t ob' hob' S
     refine aJ ?_
     replace S:=S.few (.cons (x:=kY "isjunk") rfl (.cons (x:=kY "junk") rfl (.cons (x:=kY "b2j") rfl (.cons (x:=kY "b") rfl (.cons (x:=kY "self") rfl (.nil))))))
     refine jJ6 h _ _ _ _ _ (jH3 rfl S (jJ2 ob' _ (jH5 rfl rfl hob' (fun k'=>?_) (lB (by unfold without;exact rF _ _) hkvl))))
     rw[hV,hkv,nH,hk]
     by_cases q:k'=k
     ·subst q;simp
     ·simp[q]
    ·intro ord h d t B' m' M' hp S le;refine jI2 ?_;intro ob kvs;refine jG5 ?_;intro zz13 zz14 hob hkv hkvl;obtain rfl:=zz13;obtain rfl:=zz14
     rename_i yy0;clear yy0;clear S1 G hkvl;injection lb1 hjb1 hp le hob hkv S with B4 ord h d t B' ob kvs
     refine aJ (aJ ?_)
     replace S:=S.few (.cons (x:=kY "junk") rfl (.cons (x:=kY "b2j") rfl (.cons (x:=kY "b") rfl (.cons (x:=kY "self") rfl (.nil)))))
     refine jJ6 h _ _ _ _ _ (jH4 rfl S ((le3.trans lb1).trans le) (jJ2 ob kvs (jH5 rfl rfl ((hsg.setB hjb1 (by lia) (fun k=>?_)).le le) hob (fun k=>?_))))
     ·rw[lI,oX,qS,qS,hks2]
     ·rw[hkv]
      by_cases q:k∈bs∧jk k=true
      ·rw[if_pos q,if_pos (hp.mem_iff.2 ((hks2 k).2 q))]
      ·rw[if_neg q,if_neg fun z=>q ((hks2 k).1 (hp.mem_iff.1 z))]
 intro h d t B3 m' M' S le;refine jI2 ?_;intro ob kvs;refine jG5 ?_;intro zz15 zz16 hset hob hkv;obtain rfl:=zz15;obtain rfl:=zz16
 rename_i yy0 _ _ _ _ _ _ _ _ yy1;clear yy1 yy0;clear hj hjd;injection hls hx G sb ho2 le hset hob hkv S with B2 jb od2 h d t B3 ob kvs
 replace hx:=hx.le le
 replace G:=G.le le
 replace sb:=sb.le le
 refine fQ (aR (cM (v:=.type "set") S hE G (glob_set _) rfl ?_))
 refine f_typ0 (n_set S ?_);clear S;intro h pb S
 refine fS (aA S hE (by exact rfl) ?_)
 refine cO (M₁:=[(pb,set0 w),(db,ob)]) (M₂:=[]) S G hx ho2 ob_bpop (sm_bpop _) (dM _) (by simp;lia) ?_;clear S;intro h t od3 ho3 S
 refine aK (aD S hE ?_);clear S;intro h t S
 refine aY (aR (cM (v:=.builtin "len") S hE G (cJ _) rfl ?_))
 refine eE (aB (aA S hE (by exact rfl) ?_))
 refine aC (r_len S sb (by lia) ?_);intro u _
 refine aD S hE ?_;clear S;intro h t S
 refine bH (true&&(false&&true)) ?_ (fun c=>nomatch c) (fun c t=>?_)
 ·refine bI ?_ (fun _ t=>?_)
  ·refine dL (cX (aA S hE (by exact rfl) ?_))
   refine dK S G hx (by simp) ho3 ob_auto (sm_auto _) (cI _) (by rw[bT (by decide +kernel),bT (by decide +kernel),bT (by decide +kernel)];exact lau) rfl ?_;intro _
   refine aI ?_
   exact pu rfl
  ·refine bI ?_ (fun _ t=>?_)
   ·refine aQ (aA S hE (by exact rfl) ?_)
    refine aF ?_;intro uu1 _
    refine c_ge (aI ?_)
    exact pu (decide_eq_false (by lia))
   ·exact dG
 refine aJ (aJ ?_)
 have S1:=St.keep (M₁:=[(pb,set0 w)]) (M₂:=[(dx,od3)]) S (e4.2 _ hdd)
 have lb1:Le B3 (Base.put B3 db ob):=aV _ (S.m (db,ob) (by simp)).2.2.2
 refine S1.endsM e1 e2 e3 e4 (by simp) ⟨rfl,jJ3 db jb pb (jH3 ho3 ⟨kvs,⟨hdb,ob,aM _ _ _,hob⟩,fun k=>⟨fun hk=>?_,fun hk=>?_⟩⟩ (hset.le lb1))⟩
 ·rw[hkv,if_neg fun q=>by rw[hk.2] at q;exact nomatch q.2]
  refine jI1 ?_ (mC.1 ((hix.mem k).1 hk.1));intro e;refine jG2 ?_;intro he zz17;obtain rfl:=zz17
  exact jJ2 e.2.1 e.2.2.1 (jH3 (ix_get hix.nd he) (((hls e he).le le).le lb1) (hix.vs e he))
 ·rw[hkv]
  by_cases q:k∈bs∧jk k=true
  ·rw[if_pos q]
  ·rw[if_neg q]
   cases hv:valueAt (ixK ix) k with
   | none=>rfl
   | some v=>
    refine jI1 ?_ (ix_some hv);intro e;refine jG3 ?_;intro he zz18 _;obtain rfl:=zz18
    have hin:=(hix.mem e.1).2 (mF he)
    refine absurd ⟨hin,?_⟩ hk
    cases hq:jk e.1 with
    | false=>rfl
    | true=>exact absurd ⟨hin,hq⟩ q
end
theorem sm_sq1 (P:jT):smNs P "set_seq1"=some (.ref 174):=by kernel_rfl!
theorem sm_sq2 (P:jT):smNs P "set_seq2"=some (.ref 181):=by kernel_rfl!
theorem sm_sqs (P:jT):smNs P "set_seqs"=some (.ref 167):=by kernel_rfl!
theorem sm_chain (P:jT):smNs P "_SequenceMatcher__chain_b"=some (.ref 188):=by kernel_rfl!
theorem sm_flm (P:jT):smNs P "find_longest_match"=some (.ref 196):=by kernel_rfl!
theorem sm_gmb (P:jT):smNs P "get_matching_blocks"=some (.ref 203):=by kernel_rfl!
theorem sm_gop (P:jT):smNs P "get_opcodes"=some (.ref 210):=by kernel_rfl!
theorem sm_init (P:jT):smNs P "__init__"=some (.ref 160):=by kernel_rfl!
theorem ob_sq1:kF (.type "object") "set_seq1"=pure none:=by rw[jY,kH];kernel_rfl
theorem ob_sq2:kF (.type "object") "set_seq2"=pure none:=by rw[jY,kH];kernel_rfl
theorem ob_sqs:kF (.type "object") "set_seqs"=pure none:=by rw[jY,kH];kernel_rfl
theorem ob_chain:kF (.type "object") "_SequenceMatcher__chain_b"=pure none:=by rw[jY,kH];kernel_rfl
theorem ob_flm:kF (.type "object") "find_longest_match"=pure none:=by rw[jY,kH];kernel_rfl
theorem ob_gmb:kF (.type "object") "get_matching_blocks"=pure none:=by rw[jY,kH];kernel_rfl
theorem ob_gop:kF (.type "object") "get_opcodes"=pure none:=by rw[jY,kH];kernel_rfl
theorem kp_174 (P:jT):keepIn (KF P) (.ref 174)=true:=by kernel_rfl!
theorem kp_181 (P:jT):keepIn (KF P) (.ref 181)=true:=by kernel_rfl!
theorem kp_167 (P:jT):keepIn (KF P) (.ref 167)=true:=by kernel_rfl!
theorem kp_188 (P:jT):keepIn (KF P) (.ref 188)=true:=by kernel_rfl!
theorem kp_196 (P:jT):keepIn (KF P) (.ref 196)=true:=by kernel_rfl!
theorem kp_203 (P:jT):keepIn (KF P) (.ref 203)=true:=by kernel_rfl!
theorem kp_210 (P:jT):keepIn (KF P) (.ref 210)=true:=by kernel_rfl!
theorem kp_242 (P:jT):keepIn (KF P) (.ref 242)=true:=by kernel_rfl!
theorem seq_nn {md:Bool}{B:Base}{v:jL}{ks:List Nat}(x:SeqV md B v ks):v≠.none:=by
 cases md with
 | false=>refine jI2 ?_ x;try clear x;intro a vs;refine jG2 ?_;intro zz1 _;obtain rfl:=zz1;exact fun e=>nomatch e
 | true=>obtain⟨t,rfl⟩:=x;exact fun e=>nomatch e
section
variable {w:jS}{A:jV}{C:Cx}{m mg mb:kJ→Option jL}{B:Base}{M:List (jQ×kK)}
 {h:kI} {g:Array jX} {d:kU} {t:Nat} {os:jU} {env:Env} {Q:jL→jP→Prop} {QF:kS→jP→Prop} {E:jL→jP→Prop}
theorem f_meth {pos:kW}{f:jQ}{first:List jL}{e:Expr}{rest:List Expr}(S:St C B h m M)(G:Gr w mg mb B)(hk:keepIn (KF w.params) (.ref f)=true)
  (k:jN (jM PW w) A (spliced (backTo pos (kD (e::rest) env))) (fun vs s₁=>(KF w.params).In s₁.heap∧jN (jM PW w) A (call (.ref f) (first++vs)) Q E s₁) E ⟨h,g,d,t,os⟩)
  (he:autoParam (kD (e::rest) env=(false,eval e env)::kD rest env) tR) (hplain:autoParam ((backTo pos (kD rest env)).any (·.1)=false) tR):
  jN (jM PW w) A (callWith pos (.ref f) first (backTo pos (kD (e::rest) env)) []) Q E ⟨h,g,d,t,os⟩:=callWith_K (G.at S.b) hk k he hplain
theorem iK {pos:kW}{f:jQ}{first:List jL}(S:St C B h m M)(G:Gr w mg mb B)(hk:keepIn (KF w.params) (.ref f)=true)
  (k:jN (jM PW w) A (call (.ref f) first) Q E ⟨h,g,d,t,os⟩):
  jN (jM PW w) A (callWith pos (.ref f) first (backTo pos (kD [] env)) []) Q E ⟨h,g,d,t,os⟩:=callWith_K0 (s:=⟨h,g,d,t,os⟩) (G.at S.b) hk (by rw[nD];exact k)
end
section
variable {w:jS}{A:jV}{s:jP}{mg mb:kJ→Option jL}{B:Base}
theorem c_seq1 {x dx:jQ}{od:kK}{L:List (kJ×jL)}{va:jL}
  (hx:InsB B x dx) (hd:s.heap.get? dx=some od) (hdB:B dx=none) (ho:NsO od (vars L)) (hsz:L.length≤50)
  (la:L.lookup (kY "a")=some .none) (hv:va≠.none)
  (G:Gr w mg mb B) (hB:∀a o,B a=some o→s.heap.get? a=some o) (hr:Room A 1):
  jN (jM PW w) A (call (.ref 174) [.ref x,va]) (dF B s dx fun v _ od'=>v=.none∧NsO od' (vars ((kY "opcodes",.none)::(kY "matching_blocks",.none)::(kY "a",va)::L))) no s:=by
 refine' gI (o:=o_174 w.params) (binds:=[(kY "self",.ref x),(kY "a",va)]) G hB hd hdB hr.d' ?ho ?hd ?hcd ?hb ?c1 ?c2 ?c3 ?c4 ?c5 ?_
 case ho=>exact rfl
 case hd=>exact rfl
 case hcd=>exact rfl
 case hb=>exact BindsTo.of_eq rfl
 case c1=>decide
 case c2=>exact locs rfl
 case c3=>exact rfl
 case c4=>exact rfl
 case c5=>exact rfl
 intro C h t e1 e2 S e3 e4
 generalize hEe:envX _ _ C.L _ _ []=env
 have hE:aP C env:=hEe▸⟨rfl,rfl,rfl,rfl⟩
 subst hEe
 change St C B h (vars [(kY "a",va),(kY "self",.ref x)]) ([]++(dx,od)::[]) at S
 clear hd hdB hB hr;injection hx ho hsz la hv G e1 e2 e3 e4 hE S with w A s mg mb B x dx od L va C h t
 refine aZ (bW ?_);intro _ _
 refine bH false ?_ (fun c=>nomatch c) (fun c t=>?_)
 ·refine aQ (aA S hE (by exact rfl) ?_)
  refine cX (aA S hE (by exact rfl) ?_)
  refine dK S G hx (kZ ..) ho ob_a (sm_a _) (cI _) la rfl ?_;intro _
  refine is_none_ne hv ?_
  refine aI ?_
  exact pu rfl
 refine aJ (gJ (aA S hE (by exact rfl) ?_))
 refine aA S hE (by exact rfl) ?_
 refine cO (M₁:=[]) (M₂:=[]) S G hx ho ob_a (sm_a _) (dM _) (by lia) ?_;clear S;intro h t od1 ho1 S
 refine fQ (dJ (fS (aA S hE (by exact rfl) ?_)))
 refine cO (M₁:=[]) (M₂:=[]) S G hx ho1 iS (iQ _) (dM _) (by simp;lia) ?_;clear S;intro h t od2 ho2 S
 refine fS (aA S hE (by exact rfl) ?_)
 refine cO (M₁:=[]) (M₂:=[]) S G hx ho2 ob_opc (sm_opc _) (dM _) (by simp;lia) ?_;clear S;intro h t od3 ho3 S
 refine aJ ?_
 exact S.endsM e1 e2 e3 e4 (kZ ..) ⟨rfl,ho3⟩
theorem c_seq2 {md:Bool}{x dx:jQ}{od:kK}{L:List (kJ×jL)}{vb vj:jL}{bs:List Nat}{jk:Nat→Bool}
  (hx:InsB B x dx) (hd:s.heap.get? dx=some od) (hdB:B dx=none) (ho:NsO od (vars L)) (hsz:L.length≤40)
  (lb:L.lookup (kY "b")=some .none) (lj:L.lookup (kY "isjunk")=some vj) (lau:L.lookup (kY "autojunk")=some (.bool true)) (lc:L.lookup (kY "_SequenceMatcher__chain_b")=none)
  (sb:SeqV md B vb bs) (hj:JkV w md B vj jk) (hone:md=false→∀k l,jk k=true→jk l=true→k=l) (hs2:bs.length≤100)
  (G:Gr w mg mb B) (hB:∀a o,B a=some o→s.heap.get? a=some o) (hr:Room A 11):
  jN (jM PW w) A (call (.ref 181) [.ref x,vb]) (dF B s dx fun v B' od'=>v=.none∧∃db jb pb,NsO od' (vars ((kY "bpopular",.ref pb)::(kY "bjunk",.ref jb)::(kY "b2j",.ref db)::(kY "fullbcount",.none)::(kY "opcodes",.none)::(kY "matching_blocks",.none)::(kY "b",vb)::L))∧B2J w md B' db bs jk∧SetB w md B' jb (fun k=>bs.contains k&&jk k)) no s:=by
 refine' gI (o:=o_181 w.params) (binds:=[(kY "self",.ref x),(kY "b",vb)]) G hB hd hdB hr.d' ?ho ?hd ?hcd ?hb ?c1 ?c2 ?c3 ?c4 ?c5 ?_
 case ho=>exact rfl
 case hd=>exact rfl
 case hcd=>exact rfl
 case hb=>exact BindsTo.of_eq rfl
 case c1=>decide
 case c2=>exact locs rfl
 case c3=>exact rfl
 case c4=>exact rfl
 case c5=>exact rfl
 intro C h t e1 e2 S e3 e4
 generalize hEe:envX _ _ C.L _ _ []=env
 have hE:aP C env:=hEe▸⟨rfl,rfl,rfl,rfl⟩
 subst hEe
 change St C B h (vars [(kY "b",vb),(kY "self",.ref x)]) ([]++(dx,od)::[]) at S
 clear hd hdB hB;injection hx ho hsz lb lj lau lc sb hj hone hs2 G hr e1 e2 e3 e4 hE S with w A s mg mb B md x dx od L vb vj bs jk C h t
 refine aZ (bW ?_);intro _ _
 refine bH false ?_ (fun c=>nomatch c) (fun c t=>?_)
 ·refine aQ (aA S hE (by exact rfl) ?_)
  refine cX (aA S hE (by exact rfl) ?_)
  refine dK S G hx (kZ ..) ho ob_b (sm_b _) (cI _) lb rfl ?_;intro _
  refine is_none_ne (seq_nn sb) ?_
  refine aI ?_
  exact pu rfl
 refine aJ (gJ (aA S hE (by exact rfl) ?_))
 refine aA S hE (by exact rfl) ?_
 refine cO (M₁:=[]) (M₂:=[]) S G hx ho ob_b (sm_b _) (dM _) (by lia) ?_;clear S;intro h t od1 ho1 S
 refine fQ (dJ (fS (aA S hE (by exact rfl) ?_)))
 refine cO (M₁:=[]) (M₂:=[]) S G hx ho1 iS (iQ _) (dM _) (by simp;lia) ?_;clear S;intro h t od2 ho2 S
 refine fS (aA S hE (by exact rfl) ?_)
 refine cO (M₁:=[]) (M₂:=[]) S G hx ho2 ob_opc (sm_opc _) (dM _) (by simp;lia) ?_;clear S;intro h t od3 ho3 S
 refine gJ (dJ (aA S hE (by exact rfl) ?_))
 refine cO (M₁:=[]) (M₂:=[]) S G hx ho3 ob_full (sm_full _) (dM _) (by simp;lia) ?_;clear S;intro h t od4 ho4 S
 refine aZ (aU (aA S hE (by exact rfl) ?_))
 refine eF (of:=o_188 w.params) S G hx (kZ ..) ho4 (sm_chain _) rfl rfl (cI _) (gW _) (by rw[bT (by decide +kernel),bT (by decide +kernel),bT (by decide +kernel),bT (by decide +kernel)];exact lc) ob_chain ?_
 refine iK S G (kp_188 _) ?_
 have A4:=S.m (dx,od4) (kZ ..)
 refine useM (M₁:=[]) (M₂:=[]) S (c_chain hx A4.1 A4.2.2.2 ho4 (by simp;lia) (by exact rfl) (by rw[bT (by decide +kernel),bT (by decide +kernel),bT (by decide +kernel),bT (by decide +kernel)];exact lj) (by rw[bT (by decide +kernel),bT (by decide +kernel),bT (by decide +kernel),bT (by decide +kernel)];exact lau) sb hj hone hs2 G S.b hr.deeper) ?_
 intro v h d t B' od5 S le;refine jG2 ?_;intro zz2;refine jI3 ?_;intro db jb pb;refine jG3 ?_;intro ho5 hb hs;obtain rfl:=zz2
 rename_i yy0 _ yy1;clear yy1;clear ho1 ho2 ho3 ho4 A4 le;injection S ho5 hb hs with od1 od2 od3 yy0 od4 h d t B' od5 db jb pb
 refine aJ ?_
 exact S.endsM e1 e2 e3 e4 (kZ ..) ⟨rfl,jJ3 db jb pb (jH3 ho5 hb hs)⟩
end
noncomputable def smL (vj va vb:jL)(db jb pb:jQ):List (kJ×jL):=[(kY "bpopular",.ref pb),(kY "bjunk",.ref jb),(kY "b2j",.ref db),(kY "fullbcount",.none),(kY "opcodes",.none),(kY "matching_blocks",.none),(kY "b",vb),(kY "opcodes",.none),(kY "matching_blocks",.none),(kY "a",va),(kY "autojunk",.bool true),(kY "b",.none),(kY "a",.none),(kY "isjunk",vj)]
section
variable {w:jS}{A:jV}{s:jP}{mg mb:kJ→Option jL}{B:Base}
theorem c_seqs {md:Bool}{x dx:jQ}{od:kK}{L:List (kJ×jL)}{va vb vj:jL}{bs:List Nat}{jk:Nat→Bool}
  (hx:InsB B x dx) (hd:s.heap.get? dx=some od) (hdB:B dx=none) (ho:NsO od (vars L)) (hsz:L.length≤30)
  (la:L.lookup (kY "a")=some .none) (lb:L.lookup (kY "b")=some .none) (lj:L.lookup (kY "isjunk")=some vj) (lau:L.lookup (kY "autojunk")=some (.bool true)) (lc:L.lookup (kY "_SequenceMatcher__chain_b")=none) (l1:L.lookup (kY "set_seq1")=none) (l2:L.lookup (kY "set_seq2")=none)
  (hva:va≠.none) (sb:SeqV md B vb bs) (hj:JkV w md B vj jk) (hone:md=false→∀k l,jk k=true→jk l=true→k=l) (hs2:bs.length≤100)
  (G:Gr w mg mb B) (hB:∀a o,B a=some o→s.heap.get? a=some o) (hr:Room A 12):
  jN (jM PW w) A (call (.ref 167) [.ref x,va,vb]) (dF B s dx fun v B' od'=>v=.none∧∃db jb pb,NsO od' (vars ((kY "bpopular",.ref pb)::(kY "bjunk",.ref jb)::(kY "b2j",.ref db)::(kY "fullbcount",.none)::(kY "opcodes",.none)::(kY "matching_blocks",.none)::(kY "b",vb)::(kY "opcodes",.none)::(kY "matching_blocks",.none)::(kY "a",va)::L))∧B2J w md B' db bs jk∧SetB w md B' jb (fun k=>bs.contains k&&jk k)) no s:=by
 refine' gI (o:=o_167 w.params) (binds:=[(kY "self",.ref x),(kY "a",va),(kY "b",vb)]) G hB hd hdB hr.d' ?ho ?hd ?hcd ?hb ?c1 ?c2 ?c3 ?c4 ?c5 ?_
 case ho=>exact rfl
 case hd=>exact rfl
 case hcd=>exact rfl
 case hb=>exact BindsTo.of_eq rfl
 case c1=>decide
 case c2=>exact locs rfl
 case c3=>exact rfl
 case c4=>exact rfl
 case c5=>exact rfl
 intro C h t e1 e2 S e3 e4
 generalize hEe:envX _ _ C.L _ _ []=env
 have hE:aP C env:=hEe▸⟨rfl,rfl,rfl,rfl⟩
 subst hEe
 change St C B h (vars [(kY "b",vb),(kY "a",va),(kY "self",.ref x)]) ([]++(dx,od)::[]) at S
 clear hd hdB hB;injection hx ho hsz la lb lj lau lc l1 l2 hva sb hj hone hs2 G hr e1 e2 e3 e4 hE S with w A s mg mb B md x dx od L va vb vj bs jk C h t
 refine aZ (bW ?_);intro _ _
 refine aZ (aU (aA S hE (by exact rfl) ?_))
 refine eF (of:=o_174 w.params) S G hx (kZ ..) ho (sm_sq1 _) rfl rfl (cI _) (gW _) l1 ob_sq1 ?_
 refine f_meth S G (kp_174 _) ?_
 refine aB (aA S hE (by exact rfl) ?_)
 refine aC ?_
 have A1:=S.m (dx,od) (kZ ..)
 refine⟨G.at S.b,useM (M₁:=[]) (M₂:=[]) S (c_seq1 hx A1.1 A1.2.2.2 ho (by lia) la hva G S.b ((hr.le (j:=2) (by decide)).deeper)) ?_⟩
 rintro v h d t B' od1 S le ⟨rfl,ho1⟩
 replace hx:=hx.le le
 replace G:=G.le le
 replace sb:=sb.le le
 replace hj:=hj.le le
 refine aZ (aU (aA S hE (by exact rfl) ?_))
 refine eF (of:=o_181 w.params) S G hx (kZ ..) ho1 (sm_sq2 _) rfl rfl (cI _) (gW _) (by rw[bT (by decide +kernel),bT (by decide +kernel),bT (by decide +kernel)];exact l2) ob_sq2 ?_
 refine f_meth S G (kp_181 _) ?_
 refine aB (aA S hE (by exact rfl) ?_)
 refine aC ?_
 have A2:=S.m (dx,od1) (kZ ..)
 refine⟨G.at S.b,useM (M₁:=[]) (M₂:=[]) S (c_seq2 hx A2.1 A2.2.2.2 ho1 (by simp;lia) (by rw[bT (by decide +kernel),bT (by decide +kernel),bT (by decide +kernel)];exact lb) (by rw[bT (by decide +kernel),bT (by decide +kernel),bT (by decide +kernel)];exact lj) (by rw[bT (by decide +kernel),bT (by decide +kernel),bT (by decide +kernel)];exact lau) (by rw[bT (by decide +kernel),bT (by decide +kernel),bT (by decide +kernel)];exact lc) sb hj hone hs2 G S.b hr.deeper) ?_⟩
 intro v h d t B'' od2 S le;refine jG2 ?_;intro zz1;refine jI3 ?_;intro db jb pb;refine jG3 ?_;intro ho2 hb hs;obtain rfl:=zz1
 rename_i yy0 _ _ yy1 yy2;clear yy2 yy1;clear ho1 hx G sb hj A2 le;injection S ho2 hb hs with yy0 B' od1 h d t B'' od2 db jb pb
 refine aJ ?_
 exact S.endsM e1 e2 e3 e4 (kZ ..) ⟨rfl,jJ3 db jb pb (jH3 ho2 hb hs)⟩
theorem c_init {md:Bool}{x dx:jQ}{od:kK}{va vb vj:jL}{bs:List Nat}{jk:Nat→Bool}
  (hx:InsB B x dx) (hd:s.heap.get? dx=some od) (hdB:B dx=none) (ho:NsO od (vars []))
  (hva:va≠.none) (sb:SeqV md B vb bs) (hj:JkV w md B vj jk) (hone:md=false→∀k l,jk k=true→jk l=true→k=l) (hs2:bs.length≤100)
  (G:Gr w mg mb B) (hB:∀a o,B a=some o→s.heap.get? a=some o) (hr:Room A 13):
  jN (jM PW w) A (call (.ref 160) [.ref x,vj,va,vb]) (dF B s dx fun v B' od'=>v=.none∧∃db jb pb,NsO od' (vars (smL vj va vb db jb pb))∧B2J w md B' db bs jk∧SetB w md B' jb (fun k=>bs.contains k&&jk k)) no s:=by
 refine' gI (o:=o_160 w.params) (binds:=[(kY "self",.ref x),(kY "isjunk",vj),(kY "a",va),(kY "b",vb),(kY "autojunk",.bool true)]) G hB hd hdB hr.d' ?ho ?hd ?hcd ?hb ?c1 ?c2 ?c3 ?c4 ?c5 ?_
 case ho=>exact rfl
 case hd=>exact rfl
 case hcd=>exact rfl
 case hb=>exact BindsTo.of_defaults rfl (hB _ _ (G.K 153 _ rfl)) rfl rfl rfl
 case c1=>decide
 case c2=>exact locs rfl
 case c3=>exact rfl
 case c4=>exact rfl
 case c5=>exact rfl
 intro C h t e1 e2 S e3 e4
 generalize hEe:envX _ _ C.L _ _ []=env
 have hE:aP C env:=hEe▸⟨rfl,rfl,rfl,rfl⟩
 subst hEe
 change St C B h (vars [(kY "autojunk",.bool true),(kY "b",vb),(kY "a",va),(kY "isjunk",vj),(kY "self",.ref x)]) ([]++(dx,od)::[]) at S
 clear hd hdB hB;injection hx ho hva sb hj hone hs2 G hr e1 e2 e3 e4 hE S with w A s mg mb B md x dx od va vb vj bs jk C h t
 refine aZ (bW ?_);intro _ _
 refine gJ (aA S hE (by exact rfl) ?_)
 refine aA S hE (by exact rfl) ?_
 refine cO (M₁:=[]) (M₂:=[]) S G hx ho ob_isj (sm_isj _) (dM _) (by decide) ?_;clear S;intro h t od1 ho1 S
 refine fQ (dJ (fS (aA S hE (by exact rfl) ?_)))
 refine cO (M₁:=[]) (M₂:=[]) S G hx ho1 ob_a (sm_a _) (dM _) (by simp) ?_;clear S;intro h t od2 ho2 S
 refine fS (aA S hE (by exact rfl) ?_)
 refine cO (M₁:=[]) (M₂:=[]) S G hx ho2 ob_b (sm_b _) (dM _) (by simp) ?_;clear S;intro h t od3 ho3 S
 refine gJ (aA S hE (by exact rfl) ?_)
 refine aA S hE (by exact rfl) ?_
 refine cO (M₁:=[]) (M₂:=[]) S G hx ho3 ob_auto (sm_auto _) (dM _) (by simp) ?_;clear S;intro h t od4 ho4 S
 refine aZ (aU (aA S hE (by exact rfl) ?_))
 refine eF (of:=o_167 w.params) S G hx (kZ ..) ho4 (sm_sqs _) rfl rfl (cI _) (gW _) (by exact rfl) ob_sqs ?_
 refine f_meth S G (kp_167 _) ?_
 refine aB (aA S hE (by exact rfl) ?_)
 refine aB (aA S hE (by exact rfl) ?_)
 refine aC ?_
 have A1:=S.m (dx,od4) (kZ ..)
 refine⟨G.at S.b,useM (M₁:=[]) (M₂:=[]) S (c_seqs hx A1.1 A1.2.2.2 ho4 (by simp) (by exact rfl) (by exact rfl) (by exact rfl) (by exact rfl) (by exact rfl) (by exact rfl) (by exact rfl) hva sb hj hone hs2 G S.b hr.deeper) ?_⟩
 intro v h d t B'' od5 S le;refine jG2 ?_;intro zz2;refine jI3 ?_;intro db jb pb;refine jG3 ?_;intro ho5 hb hs;obtain rfl:=zz2
 rename_i yy0 _ yy1;clear yy1;clear ho1 ho2 ho3 ho4 A1 le;injection S ho5 hb hs with od1 od2 od3 yy0 od4 h d t B'' od5 db jb pb
 refine aJ ?_
 exact S.endsM e1 e2 e3 e4 (kZ ..) ⟨rfl,jJ3 db jb pb (jH3 ho5 hb hs)⟩
end
theorem ma_f12 (P:jT):findIn (KF P) (.ref 135) "__lt__"=some (some (.builtin "tuple.__lt__")):=by kernel_rfl!
noncomputable abbrev mtO (dd:jQ)(n:Nat)(vs:List jL):kK:=⟨.ref 135,some dd,.seq vs.toArray n,#[]⟩
noncomputable def lex (a b:Nat×Nat×Nat):Bool:=decide (a.1<b.1∨a.1=b.1∧(a.2.1<b.2.1∨a.2.1=b.2.1∧a.2.2<b.2.2))
theorem tlt_kind:builtinKind "tuple.__lt__"=some .slot:=by decide +kernel
theorem tlt_split:splitId "tuple.__lt__"=some ("tuple","__lt__"):=by decide +kernel
section
variable {w:jS}{A:jV}{E:jL→jP→Prop}{h:kI}{g:Array jX}{d:kU}{t:Nat}{os:jU}{Q:Bool→jP→Prop}{QV:jL→jP→Prop}
theorem m_step {a b:Nat}{u v:Tok}{r:List (jL×jL)}{Qf:Option PySem.Fin×Unit→jP→Prop}{K:jL×jL→Option PySem.Fin×Unit→Sem (ForInStep (Option PySem.Fin×Unit))}
  (hK:∀t (R:ForInStep (Option PySem.Fin×Unit)→jP→Prop),(a=b→∀t',R (.yield (none,())) ⟨h,g,d,t',os⟩)→(a≠b→∀t',R (.done (some (.done (.ret (.bool (decide (a<b))))),())) ⟨h,g,d,t',os⟩)→jN (jM PW w) A (K (.int (a:Nat) u,.int (b:Nat) v) (none,())) R E ⟨h,g,d,t,os⟩)
  (y:a=b→∀t',jN (jM PW w) A (forIn r (none,()) K) Qf E ⟨h,g,d,t',os⟩) (n:a≠b→∀t',Qf (some (.done (.ret (.bool (decide (a<b))))),()) ⟨h,g,d,t',os⟩):
  jN (jM PW w) A (forIn ((.int (a:Nat) u,.int (b:Nat) v)::r) (none,()) K) Qf E ⟨h,g,d,t,os⟩:=by
 rw[oV]
 exact jK (hK t _ (fun e t'=>y e t') fun e t'=>jO (n e t'))
theorem m_tlt {x y dx dy:jQ}{n k:Nat}{a1 a2 a3 b1 b2 b3:Nat}{u1 u2 u3 v1 v2 v3:Tok}(X:(KF w.params).In h)(hu:A.units+10<cLine)
  (hx:h.get? x=some (mtO dx n [.int a1 u1,.int a2 u2,.int a3 u3])) (hy:h.get? y=some (mtO dy k [.int b1 v1,.int b2 v2,.int b3 v3]))
  (q:∀t',QV (.bool (lex (a1,a2,a3) (b1,b2,b3))) ⟨h,g,d,t',os⟩):jN (jM PW w) A (call (.builtin "tuple.__lt__") [.ref x,.ref y]) QV E ⟨h,g,d,t,os⟩:=by
 injection X hu hx hy q with w A E h g d t os QV x y dx dy n k a1 a2 a3 b1 b2 b3 u1 u2 u3 v1 v2 v3
 have t1:Looks (jM PW w) h (typeOf (.ref x)) (.ref 135):=(Looks.ld (part:=none) hx).andThen .now
 have t2:Looks (jM PW w) h (typeOf (.ref y)) (.ref 135):=(Looks.ld (part:=none) hy).andThen .now
 have s1:=looks_subIn (M:=jM PW w) X (ma_f4 w.params)
 have j1:Looks (jM PW w) h (isInstance (.ref x) (.type "tuple")) true:=t1.andThen s1
 have j2:Looks (jM PW w) h (isInstance (.ref y) (.type "tuple")) true:=t2.andThen s1
 refine wpAny_call (codeAny_call_builtin PySem.F.slot_tuple_lt.plain PySem.F.entry_tuple_lt ?_)
 refine check_slot (i:="tuple.__lt__") (owner:="tuple") (n:="__lt__") (self:=.ref x) (rest:=[.ref y]) tlt_kind tlt_split j1 (PySem.F.args_tuple_lt_2 _ _) ?_
 refine jK (jO ?_)
 dsimp only
 refine jK (j2.at ?_)
 rw[if_neg (by decide)]
 unfold Builtin.Tuple.tupleItemsOf
 refine jK (jK (wpAny_seqItems (s:=⟨h,g,d,t,os⟩) hx rfl (jO ?_)))
 refine jK (jK (wpAny_seqItems (s:=⟨h,g,d,t,os⟩) hy rfl (jO ?_)))
 have one:∀{a b:Nat} {u v:Tok} (t:Nat) (R:ForInStep (Option PySem.Fin×Unit)→jP→Prop),(a=b→∀t',R (.yield (none,())) ⟨h,g,d,t',os⟩)→(a≠b→∀t',R (.done (some (.done (.ret (.bool (decide (a<b))))),())) ⟨h,g,d,t',os⟩)→
   jN (jM PW w) A.in1 (do
    let e ←eqBool (.int (a:Nat) u) (.int (b:Nat) v)
    if(!e)=true then do
     rule "tuple.compare.by-the-first-pair-that-differs"
     let r ←richCompare .Lt (.int (a:Nat) u) (.int (b:Nat) v)
     let r ←ret r
     pure (ForInStep.done (some r,()))
    else pure (ForInStep.yield (none,()))) R E ⟨h,g,d,t,os⟩:=by
  intro a b u v t R h1 h2
  refine jK (wpAny_eqBool_int ?_)
  by_cases e:a=b
  ·rw[if_neg (by simp[e])]
   exact jO (h1 e t)
  ·rw[if_pos (by simp;lia)]
   refine jK (wpAny_rule (jK ?_))
   refine(eX ?_:jN (jM PW w) A.in1 (compareOp .Lt (.int (a:Nat) u) (.int (b:Nat) v)) _ E _)
   refine jK (jO (jO ?_))
   have:decide ((a:Int)<(b:Int))=decide (a<b):=by rw[decide_eq_decide];exact mS
   rw[this];exact h2 e t
 simp only[List.zip_cons_cons,List.zip_nil_left]
 have fin:∀{r:jL} (b:Bool),r=.bool b→(b=lex (a1,a2,a3) (b1,b2,b3))→∀t',QV r ⟨h,g,d,t',os⟩:=fun b e1 e2 t'=>by rw[e1,e2];exact q t'
 refine jK (m_step one (fun e1 t=>m_step one (fun e2 t=>m_step one (fun e3 t=>?_) (fun n3 t=>?_)) (fun n2 t=>?_)) (fun n1 t=>?_))
 ·rw[List.forIn_nil]
  refine jO (jO ?_)
  refine fin false rfl ?_ t
  subst e1 e2 e3
  unfold lex;simp
 ·refine jO (fin _ rfl ?_ t)
  unfold lex;rw[decide_eq_decide];dsimp only;exact((ar_67 e1).trans (ar_67 e2)).symm
 ·refine jO (fin _ rfl ?_ t)
  unfold lex;rw[decide_eq_decide];dsimp only;exact(ar_68 n2).trans (ar_67 e1).symm
 ·refine jO (fin _ rfl ?_ t)
  unfold lex;rw[decide_eq_decide];dsimp only;exact ar_68 n1
theorem m_lt {x y dx dy:jQ}{n k:Nat}{a1 a2 a3 b1 b2 b3:Nat}{u1 u2 u3 v1 v2 v3:Tok}(X:(KF w.params).In h)(hu:A.units+10<cLine)
  (hx:h.get? x=some (mtO dx n [.int a1 u1,.int a2 u2,.int a3 u3])) (hy:h.get? y=some (mtO dy k [.int b1 v1,.int b2 v2,.int b3 v3]))
  (q:∀t',Q (lex (a1,a2,a3) (b1,b2,b3)) ⟨h,g,d,t',os⟩):jN (jM PW w) A (keyLt' oneType' (.ref x) (.ref y)) Q E ⟨h,g,d,t,os⟩:=by
 injection X hu hx hy q with w A E h g d t os Q x y dx dy n k a1 a2 a3 b1 b2 b3 u1 u2 u3 v1 v2 v3
 have t1:Looks (jM PW w) h (typeOf (.ref x)) (.ref 135):=(Looks.ld (part:=none) hx).andThen .now
 rw[keyLt'_oneType,oneLt'_eq]
 simp only[if_true]
 refine jK (wpAny_cRoomFor (by lia) ?_)
 have lt:=m_tlt (w:=w) (A:=A) (E:=E) (g:=g) (d:=d) (t:=t) (os:=os) X hu hx hy (QV:=fun v s'=>∃b,v=.bool b∧Q b s') (fun t'=>⟨_,rfl,q t'⟩)
 refine jK ?_
 simp only[callSpecialIfBound?,bindSpecialIfBound?]
 refine kB (jK (jK (jK (t1.at ((looks_findIn X (ma_f12 w.params)).at ?_)))))
 refine jK (wpAny_askSetting (wpAny_ite ?_))
 split
 ·refine jK (wpAny_of_eq (PySem.F.slot_tuple_lt.bind (.ref x)) (jO ?_))
  refine jK (jR lt (fun v s' hv=>?_) fun _ _ x=>x)
  refine jI1 ?_ hv;try clear hv;intro b;refine jG2 ?_;intro zz1 hq;obtain rfl:=zz1
  exact jO (jO hq)
 ·refine wpAny_tryCatch (jK (wpAny_of_eq (PySem.F.slot_tuple_lt.bind (.ref x)) (jO ?_)))
  refine jK (jR lt (fun v s' hv=>?_) fun _ _ x=>x)
  refine jI1 ?_ hv;try clear hv;intro b;refine jG2 ?_;intro zz2 hq;obtain rfl:=zz2
  exact jO (jO hq)
end
noncomputable def Mt (B:Base)(v:jL)(c:Nat×Nat×Nat):Prop:=∃x u1 u2 u3,v=.ref x∧MtO B x [.int (c.1:Nat) u1,.int (c.2.1:Nat) u2,.int (c.2.2:Nat) u3]
theorem Mt.le {B B':Base}{v:jL}{c:Nat×Nat×Nat}(x:Mt B v c)(l:Le B B'):Mt B' v c:=jI4 (fun a u1 u2 u3=>jG2 fun e i=>(jJ4 a u1 u2 u3 ⟨e,i.le l⟩)) x
theorem iT (a b:Nat×Nat×Nat)(h:lex a b=true):lex b a=false:=by unfold lex at *;simp at *;exact ar_70 h fun h=>ar_70 h lL
theorem lex_tr (a b c:Nat×Nat×Nat)(h:lex a b=true)(k:lex b c=true):lex a c=true:=by unfold lex at *;simp at *;exact ar_69 h k fun h k=>ar_69 h k Nat.lt_trans
theorem lex_tot (a b:Nat×Nat×Nat)(h:a≠b):lex a b=true∨lex b a=true:=by
 obtain⟨a1,a2,a3⟩:=a
 obtain⟨b1,b2,b3⟩:=b
 unfold lex;simp at *;exact ar_71 fun e=>ar_71 fun q=>Nat.lt_or_gt_of_ne (h e q)
theorem F2.map2 {α β γ:Type}{R:α→β→Prop}{f:γ→α}{g:γ→β}:∀{l:List γ},(∀x∈l,R (f x) (g x))→F2 R (l.map f) (l.map g):=by
 intro l
 induction l with
 | nil=>intro _;exact .nil
 | cons x r ih=>intro h;exact .cons (h x (kZ ..)) (ih fun y hy=>h y (lX _ hy))
section
variable {w:jS}{A:jV}{C:Cx}{m mg mb:kJ→Option jL}{B:Base}{M:List (jQ×kK)}
 {h:kI} {g:Array jX} {d:kU} {t:Nat} {os:jU} {env:Env} {Q:jL→jP→Prop} {QP:jL×List jL→jP→Prop} {E:jL→jP→Prop}
theorem l_sort {M₁ M₂:List (jQ×kK)}{a:jQ}{vs:List jL}{n:Nat}{ms:List (Nat×Nat×Nat)}(S:St C B h m (M₁++(a,lstO vs n)::M₂))(G:Gr w mg mb B)(hv:F2 (Mt B) vs ms)(hnd:ms.Nodup)(h64:ms.length<64)(hr:Room A 2)
  (q:∀h' t' n' vs' ms',F2 (Mt B) vs' ms'→ms'.Perm ms→ms'.Pairwise (fun a b=>lex a b=true)→St C B h' m (M₁++(a,lstO vs' n')::M₂)→Q .none ⟨h',g,d,t',os⟩):
  jN (jM PW w) A (call (.builtin "list.sort") [.ref a]) Q E ⟨h,g,d,t,os⟩:=by
 injection S G hv hnd h64 hr q with w A C m mg mb B h g d t os Q E M₁ M₂ a vs n ms
 have hl:=(S.m (a,lstO vs n) (lJ _ (kZ ..))).1
 have hvl:=hv.length
 refine wpAny_call_entry (s:=⟨h,g,d,t,os⟩) slot_list_sort ⟨_,hl,rfl⟩ entry_list_sort ?_ (args_list_sort _)
 rw[list_sort_plain]
 refine jK (listItems_at (s:=⟨h,g,d,t,os⟩) hl rfl ?_)
 refine jK (listUpdate_at (s:=⟨h,g,d,t,os⟩) hl rfl ?_ (by rw[lY,jZ];lia) (lC _))
 obtain⟨e1,ho1⟩:∃e1,(h.update a (Obj.mapSeq fun _=>(#[]:Array jL))).get? a=some (seqObj "list" #[] e1):=⟨_,get?_update_seq hl fun _=>#[]⟩
 have S1:St C B (h.update a (Obj.mapSeq fun _=>(#[]:Array jL))) m (M₁++(a,lstO [] e1)::M₂):=S.chg (Heap.SameBut.update ..) ho1
 refine jK (seqEpoch_at (s:=⟨_,g,d,t,os⟩) ho1 rfl ?_)
 refine jK (wpAny_newTuple ?_ (by show vs.length≤_;rw[jZ];lia))
 refine jK (wpAny_newList ?_ (lC _))
 refine kB ?_
 have S3:=(S1.kp (Kp.push _ (seqObj "tuple" vs.toArray 0))).kp (Kp.push _ (seqObj "list" #[] 0))
 show jN (jM PW w) A.in1 _ _ E ⟨((h.update a (Obj.mapSeq fun _=>(#[]:Array jL))).push (seqObj "tuple" vs.toArray 0)).push (seqObj "list" #[] 0),g,d,t,os⟩
 generalize ((h.update a (Obj.mapSeq fun _=>(#[]:Array jL))).push (seqObj "tuple" vs.toArray 0)).push (seqObj "list" #[] 0)=h3 at S3⊢
 have ho3:h3.get? a=some (seqObj "list" #[] e1):=(S3.m (a,lstO [] e1) (lJ _ (kZ ..))).1
 have fin:∀(vs':List jL) (ms':List (Nat×Nat×Nat)) (t':Nat),F2 (Mt B) vs' ms'→ms'.Perm ms→ms'.Pairwise (fun a b=>lex a b=true)→
   ∀h',h'.get? a=some (seqObj "list" vs'.toArray (e1+1))∨(∃c,h'.get? a=some (seqObj "list" vs'.toArray c))→Heap.SameBut a h3 h'→Q .none ⟨h',g,d,t',os⟩:=by
  intro vs' ms' t' f p pw h' e hs
  clear ho1 S1 ho3;injection S3 f p pw e hs with e1 h3 vs' ms' t' h'
  obtain⟨c,e⟩:∃c,h'.get? a=some (seqObj "list" vs'.toArray c):=e.elim (fun z=>⟨_,z⟩) id
  exact q h' t' c vs' ms' f p pw (S3.chg hs e)
 dsimp only
 by_cases h2:vs.toArray.size<2
 ·have h2':vs.length<2:=by rwa [lY] at h2
  rw[if_pos h2,if_pos h2]
  refine jK (jO ?_)
  rw[StateT.run_pure]
  refine jK (jO ?_)
  dsimp only
  refine jK (seqEpoch_at (s:=⟨h3,g,d,t,os⟩) ho3 rfl ?_)
  have hout:(arrOf (SortSt.mk' general' (vs.toArray.zip vs.toArray) #[] 7 none)).map (·.2)=vs.toArray:=by
   show(vs.toArray.zip vs.toArray).map (·.2)=vs.toArray
   apply Array.toList_inj.mp
   simp[List.map_snd_zip]
  rw[hout]
  refine jK (listUpdate_at (s:=⟨h3,g,d,t,os⟩) ho3 rfl ?_ (lC _) (by rw[lY,jZ];lia))
  simp only[bne_self_eq_false,oW,if_false]
  refine jO ⟨_,rfl,fin vs ms t hv .rfl ?_ _ (.inr ⟨_,get?_update_seq ho3 fun _=>vs.toArray⟩) (Heap.SameBut.update ..)⟩
  match ms,hvl with
  | [],_=>exact .nil
  | [x],_=>exact List.pairwise_singleton _ _
  | x::y::r,e=>simp at e;lia
 ·have h2':2≤vs.length:=by rw[lY] at h2;lia
  rw[if_neg h2,if_neg h2]
  have X:=G.at S3.b
  have elt:∀i,i<vs.length→Mt B (vs.getD i .none) (ms.getD i (0,0,0)):=fun i hi=>by
   have e1:vs[i]? =some (vs.getD i .none):=by rw[mH hi];simp[hi]
   refine jI1 ?_ (hv.get e1);intro c;refine jG2 ?_;intro hc r
   rw[show ms.getD i (0,0,0)=c by rw[mR,hc];rfl];exact r
  refine jK (kas_kind (T:=.ref 135) (s:=⟨h3,g,d,t,os⟩) h2' (fun v hvm=>?_) rfl rfl ?_)
  ·obtain⟨i,hi,rfl⟩:=rG hvm
   refine jI4 ?_ (elt i hi);intro x u1 u2 u3;refine jG2 ?_;intro e;refine jI2 ?_;intro dd k;intro eb
   have:vs[i]=.ref x:=by rw[←e];simp[hi]
   rw[this]
   exact(Looks.ld (part:=none) (S3.b _ _ eb)).andThen .now
  have est:SortSt.mk' oneType' (vs.toArray.zip vs.toArray) #[] 7 none=kas_st oneType' (pairsOf vs) (mE (lW vs.length)):=by
   have e:=kas_range (pairsOf vs)
   rw[pairsOf_size] at e
   show SortSt.mk' oneType' (pairsOf vs) #[] 7 none=SortSt.mk' oneType' ((mE (lW vs.length)).map (kas_item (pairsOf vs))) #[] 7 none
   rw[e]
  have O:Ord vs.length (fun i j=>lex (ms.getD i (0,0,0)) (ms.getD j (0,0,0))):=⟨fun i j=>iT _ _,fun i j k=>lex_tr _ _ _,fun i j hi hj ne=>by
   refine lex_tot _ _ fun e=>?_
   have hi':i<ms.length:=by lia
   have hj':j<ms.length:=by lia
   rw[mR,mR,mH hi',mH hj'] at e
   simp only[Option.getD_some] at e
   rcases Nat.lt_or_gt_of_ne ne with z | z
   ·exact oU.1 hnd i j hi' hj' z e
   ·exact oU.1 hnd j i hj' hi' z e.symm⟩
  refine jI1 ?_ (ev_sort O h2');intro p;refine jG3 ?_;intro ev hp hup
  have ask:(kas_sort vs.length).kasWp (kas_ask PW w A.in1 oneType' vs) (fun p' s'=>p'=p∧∃t',s'=⟨h3,g,d,t',os⟩) ⟨h3,g,d,t,os⟩:=by
   refine ev.wp (I:=fun s'=>∃t',s'=⟨h3,g,d,t',os⟩) ?_ ⟨t,rfl⟩ fun s' hs'=>⟨rfl,hs'⟩
   rintro i j s C hi hj ⟨t',rfl⟩ hC
   refine jI4 ?_ (elt i hi);intro x u1 u2 u3;refine jG2 ?_;intro ex;refine jI2 ?_;intro dx kx;intro bx
   refine jI4 ?_ (elt j hj);intro y v1 v2 v3;refine jG2 ?_;intro ey;refine jI2 ?_;intro dy ky;intro by'
   unfold kas_ask
   rw[ex,ey]
   exact m_lt X (by have:=hr.u;have e:A.in1.units≤A.units+1:=lE _;lia) (S3.b _ _ bx) (S3.b _ _ by') fun t''=>hC _ ⟨t'',rfl⟩
  rw[kas_ask_eq] at ask
  have run:=kas_runs (E:=E) (Q:=fun _ st' s'=>arrOf st'=p.map (kas_item (pairsOf vs))∧failedOf st'=none∧∃t',s'=⟨h3,g,d,t',os⟩)
   h2' (by lia) (fun p' st' s' a1 a2 a3 a4=>jH3 (by rw[a2,a4.1]) a3 a4.2) ask
  rw[←est] at run
  refine jK (jR run ?_ fun _ _ e=>e)
  rintro⟨⟨⟩,st'⟩;intro s';refine jG3 ?_;intro har hf;refine jI1 ?_;intro t';intro zz1;obtain rfl:=zz1
  dsimp only
  have hout:(arrOf st').map (·.2)=mE (p.toList.map fun i=>vs.getD i Value.none):=by
   apply Array.toList_inj.mp
   rw[har,Array.map_map,Array.toList_map]
   exact qV fun i _=>by show(kas_item (pairsOf vs) i).2=_;rw[kas_item_eq]
  have hpl:p.toList.length=vs.length:=by rw[hp.length_eq];simp
  rw[hout]
  refine jK (seqEpoch_at (s:=⟨h3,g,d,t',os⟩) ho3 rfl ?_)
  refine jK (listUpdate_at (s:=⟨h3,g,d,t',os⟩) ho3 rfl ?_ (lC _) (by rw[lY,lZ,hpl,jZ];lia))
  rw[hf]
  simp only[bne_self_eq_false,oW,if_false]
  refine jO ⟨_,rfl,fin _ (p.toList.map fun i=>ms.getD i (0,0,0)) t' (F2.map2 fun i hi=>elt i ?_) ?_ ?_ _ (.inr ⟨_,get?_update_seq ho3 fun _=>mE (p.toList.map fun i=>vs.getD i Value.none)⟩) (Heap.SameBut.update ..)⟩
  ·have:=hp.mem_iff.1 hi;exact nB.1 this
  ·have e:(lW vs.length).map (fun i=>ms.getD i (0,0,0))=ms:=by
    apply List.ext_getElem
    ·simp only[lZ,oA];exact hvl
    ·intro i h1 h2;simp[h2]
   have:=hp.map (fun i=>ms.getD i (0,0,0))
   rwa [e] at this
  ·rw[qN,oU]
   intro i j hi hj hij
   have:=hup i j hij (by rw[←hpl];exact hj)
   have gi:∀k (hk:k<p.toList.length),gt p k=p.toList[k]:=fun k hk=>by
    unfold gt;rw[qO,rD (by simpa using hk)];simp
   rw[gi i hi,gi j hj] at this
   exact this
theorem gm_sort {a:jQ}{vs:List jL}{n:Nat}{pl:Sem Bool}(S:St C B h m M)(hm:(a,lstO vs n)∈M)(k:QP (.builtin "list.sort",[.ref a]) ⟨h,g,d,t,os⟩):
  jN (jM PW w) A (getMethod (.ref a) "sort" pl) QP E ⟨h,g,d,t,os⟩:=getMethod_list_of PySem.F.slot_list_sort PySem.F.type_list_sort (eI S hm) (own_nd S hm) k
end
section
variable (eq:Nat→Nat→Bool)(jk:Nat→Bool)
theorem fP {low high left right:Nat}(h1:low≤high)(h2:left≤right)(h:¬(low<high∧left<right)):(bZ eq jk low high left right).2.2=0:=by
 have x:=cL eq jk h1 h2
 dsimp only at x
 exact Decidable.byContradiction fun q=>h ⟨ar_57 q x.1 x.2.2.1,ar_57 q x.2.1 x.2.2.2⟩
theorem cS:∀n m low high left right:Nat,low≤high→left≤right→high-low≤n→high-low≤m→bD eq jk n low high left right=bD eq jk m low high left right
 | 0,m,low,high,left,right,h1,h2,h3,h4=>by
  rw[bB eq jk (n:=m) (fP eq jk h1 h2 (fun h=>pS h3 (oP h.1)))];rfl
 | n+1,0,low,high,left,right,h1,h2,h3,h4=>by
  rw[bB eq jk (n:=n+1) (fP eq jk h1 h2 (by lia))];rfl
 | n+1,m+1,low,high,left,right,h1,h2,h3,h4=>by
  by_cases q:(bZ eq jk low high left right).2.2=0
  ·rw[bB eq jk q,bB eq jk q]
  ·rw[bY eq jk q,bY eq jk q]
   have x:=cL eq jk h1 h2
   dsimp only at x⊢
   generalize bZ eq jk low high left right=c at x q
   rw[cS n m low c.1 left c.2.1 (by lia) (by lia) (ar_31 h3 q x.2.2.1) (ar_31 h4 q x.2.2.1),cS n m (c.1+c.2.2) high (c.2.1+c.2.2) right (by lia) (by lia) (ar_32 h3 q x.1) (ar_32 h4 q x.1)]
abbrev Qd:=Nat×Nat×Nat×Nat
noncomputable def bl (q:Qd):List (Nat×Nat×Nat):=bD eq jk (q.2.1-q.1) q.1 q.2.1 q.2.2.1 q.2.2.2
noncomputable def QIn (la lb:Nat)(q:Qd):Prop:=q.1≤q.2.1∧q.2.1≤la∧q.2.2.1≤q.2.2.2∧q.2.2.2≤lb
noncomputable abbrev bk4 (q:Qd):Nat×Nat×Nat:=bZ eq jk q.1 q.2.1 q.2.2.1 q.2.2.2
noncomputable def qL (q:Qd)(c:Nat×Nat×Nat):List Qd:=if q.1<c.1∧q.2.2.1<c.2.1 then [(q.1,c.1,q.2.2.1,c.2.1)] else []
noncomputable def qR (q:Qd)(c:Nat×Nat×Nat):List Qd:=if c.1+c.2.2<q.2.1∧c.2.1+c.2.2<q.2.2.2 then [(c.1+c.2.2,q.2.1,c.2.1+c.2.2,q.2.2.2)] else []
theorem bl_zero {q:Qd}(h:(bk4 eq jk q).2.2=0):bl eq jk q=[]:=bB eq jk h
theorem bl_pos {q:Qd}(h1:q.1≤q.2.1)(h2:q.2.2.1≤q.2.2.2)(h:(bk4 eq jk q).2.2≠0):bl eq jk q=(qL q (bk4 eq jk q)).flatMap (bl eq jk)++bk4 eq jk q::(qR q (bk4 eq jk q)).flatMap (bl eq jk):=by
 injection h1 h2 h with eq jk q
 obtain⟨a,b,c,d⟩:=q
 have x:=cL eq jk h1 h2
 dsimp only[bk4] at x h h1 h2⊢
 unfold bl
 dsimp only
 obtain⟨n,hn⟩:∃n,b-a=n+1:=⟨b-a-1,(pE (oP (ar_57 h x.1 x.2.2.1))).symm⟩
 rw[hn,bY eq jk h]
 dsimp only
 generalize bZ eq jk a b c d=k at x h
 congr 1
 ·unfold qL
  by_cases z:a<k.1∧c<k.2.1
  ·rw[if_pos z,mO,qC,nD]
   exact cS eq jk _ _ _ _ _ _ (by lia) (by lia) (ar_31 (mB hn) h x.2.2.1) (lE _)
  ·rw[if_neg z]
   exact bB eq jk (fP eq jk (by lia) (by lia) z)
 ·congr 1
  unfold qR
  dsimp only
  by_cases z:k.1+k.2.2<b∧k.2.1+k.2.2<d
  ·rw[if_pos z,mO,qC,nD]
   exact cS eq jk _ _ _ _ _ _ (by lia) (by lia) (ar_32 (mB hn) h x.1) (lE _)
  ·rw[if_neg z]
   exact bB eq jk (fP eq jk (by lia) (by lia) z)
noncomputable def QInv (la lb:Nat)(qs:List Qd)(ms:List (Nat×Nat×Nat)):Prop:=(∀q∈qs,QIn la lb q)∧(ms++qs.flatMap (bl eq jk)).Perm (bl eq jk (0,la,0,lb))
noncomputable def qmu (qs:List Qd):Nat:=(qs.map fun q=>2*(q.2.1-q.1)+1).sum
theorem qmu_snoc (qs:List Qd)(q:Qd):qmu (qs++[q])=qmu qs+(2*(q.2.1-q.1)+1):=by unfold qmu;simp
theorem QInv.none {la lb:Nat}{qs:List Qd}{q:Qd}{ms:List (Nat×Nat×Nat)}(x:QInv eq jk la lb (qs++[q]) ms)(h:(bk4 eq jk q).2.2=0):QInv eq jk la lb qs ms:=by
 refine⟨fun p hp=>x.1 p (mJ _ hp),?_⟩
 have:=x.2
 rwa [nQ,mO,qC,bl_zero eq jk h,nD,nD] at this
theorem QInv.some {la lb:Nat}{qs:List Qd}{q:Qd}{ms:List (Nat×Nat×Nat)}(x:QInv eq jk la lb (qs++[q]) ms)(h:(bk4 eq jk q).2.2≠0):
  QInv eq jk la lb (qs++qL q (bk4 eq jk q)++qR q (bk4 eq jk q)) (ms++[bk4 eq jk q])∧qmu (qs++qL q (bk4 eq jk q)++qR q (bk4 eq jk q))<qmu (qs++[q]):=by
 injection x h with eq jk la lb qs q ms
 have hq:=x.1 q (lJ _ (lA.2 rfl))
 have hb:q.1≤(bk4 eq jk q).1∧q.2.2.1≤(bk4 eq jk q).2.1∧(bk4 eq jk q).1+(bk4 eq jk q).2.2≤q.2.1∧(bk4 eq jk q).2.1+(bk4 eq jk q).2.2≤q.2.2.2:=cL eq jk hq.1 hq.2.2.1
 have hq':q.1≤q.2.1∧q.2.1≤la∧q.2.2.1≤q.2.2.2∧q.2.2.2≤lb:=hq
 refine⟨⟨fun p hp=>?_,?_⟩,?_⟩
 ·rcases lQ.1 hp with hp | hp
  ·rcases lQ.1 hp with hp | hp
   ·exact x.1 p (mJ _ hp)
   ·unfold qL at hp
    split at hp
    ·rw[lA.1 hp];refine jH4 ?_ ?_ ?_ ?_<;>dsimp only<;>lia
    ·cases hp
  ·unfold qR at hp
   split at hp
   ·rw[lA.1 hp];refine jH4 ?_ ?_ ?_ ?_<;>dsimp only<;>lia
   ·cases hp
 ·refine List.Perm.trans ?_ x.2
  rw[nQ,nQ,nQ,mO,qC,nD,bl_pos eq jk hq.1 hq.2.2.1 h,nR,nR]
  refine List.Perm.append_left _ ?_
  generalize qs.flatMap (bl eq jk)=X
  generalize (qL q (bk4 eq jk q)).flatMap (bl eq jk)=Y
  generalize (qR q (bk4 eq jk q)).flatMap (bl eq jk)=Z
  show([bk4 eq jk q]++(X++(Y++Z))).Perm (X++(Y++([bk4 eq jk q]++Z)))
  rw[←nR X Y Z,←nR X Y ([bk4 eq jk q]++Z),←nR (X++Y) [bk4 eq jk q] Z,←nR [bk4 eq jk q] (X++Y) Z]
  exact List.Perm.append_right _ List.perm_append_comm
 ·rw[qmu_snoc]
  have h1:qmu (qL q (bk4 eq jk q))≤2*((bk4 eq jk q).1-q.1)+1:=by
   unfold qL;split
   ·unfold qmu;simp
   ·exact lC _
  have h2:qmu (qR q (bk4 eq jk q))≤2*(q.2.1-((bk4 eq jk q).1+(bk4 eq jk q).2.2))+1:=by
   unfold qR;split
   ·unfold qmu;simp
   ·exact lC _
  have h3:∀a b:List Qd,qmu (a++b)=qmu a+qmu b:=fun a b=>by unfold qmu;simp
  rw[h3,h3]
  exact ar_74 (ar_52 (lE _) hb.1 hb.2.2.1 (lE _)) h h1 h2
theorem eY:∀n low high left right:Nat,low≤high→left≤right→(∀c∈bD eq jk n low high left right,low≤c.1∧c.1+c.2.2≤high∧left≤c.2.1∧c.2.1+c.2.2≤right∧1≤c.2.2)∧(bD eq jk n low high left right).Pairwise fun a b=>a.1+a.2.2≤b.1∧a.2.1+a.2.2≤b.2.1
 | 0,_,_,_,_,_,_=>⟨fun c hc=>(nomatch hc),.nil⟩
 | n+1,low,high,left,right,h1,h2=>by
  by_cases q:(bZ eq jk low high left right).2.2=0
  ·rw[bB eq jk q];exact⟨fun c hc=>(nomatch hc),.nil⟩
  ·rw[bY eq jk q]
   have x:=cL eq jk h1 h2
   dsimp only at x⊢
   generalize bZ eq jk low high left right=k at x q
   obtain⟨a1,a2⟩:=eY n low k.1 left k.2.1 (by lia) (by lia)
   obtain⟨b1,b2⟩:=eY n (k.1+k.2.2) high (k.2.1+k.2.2) right (by lia) (by lia)
   refine⟨fun c hc=>?_,?_⟩
   ·rcases lQ.1 hc with hc | hc
    ·have:=a1 c hc;exact jH5 this.1 (lB this.2.1 (mU x.2.2.1)) this.2.2.1 (lB this.2.2.2.1 (mU x.2.2.2)) this.2.2.2.2
    ·rcases lH.1 hc with rfl | hc
     ·exact jH5 x.1 x.2.2.1 x.2.1 x.2.2.2 (pI q)
     ·have:=b1 c hc;exact jH5 (lB x.1 (lB (mQ _ _) this.1)) this.2.1 (lB x.2.1 (lB (mQ _ _) this.2.2.1)) this.2.2.2.1 this.2.2.2.2
   ·rw[qW,List.pairwise_cons]
    refine jH3 a2 ⟨fun c hc=>by have:=b1 c hc;exact⟨this.1,this.2.2.1⟩,b2⟩ (fun c hc c' hc'=>?_)
    have:=a1 c hc
    rcases lH.1 hc' with rfl | hc'
    ·exact⟨this.2.1,this.2.2.2.1⟩
    ·have:=b1 c' hc';lia
end
theorem fV (eq:Nat→Nat→Bool)(jk:Nat→Bool):∀n low high left right:Nat,low≤high→left≤right→(bD eq jk n low high left right).length≤high-low
 | 0,_,_,_,_,_,_=>lC _
 | n+1,low,high,left,right,h1,h2=>by
  by_cases q:(bZ eq jk low high left right).2.2=0
  ·rw[bB eq jk q];exact lC _
  ·rw[bY eq jk q]
   have x:=cL eq jk h1 h2
   dsimp only at x⊢
   generalize bZ eq jk low high left right=c at x q
   have a:=fV eq jk n low c.1 left c.2.1 (by lia) (by lia)
   have b:=fV eq jk n (c.1+c.2.2) high (c.2.1+c.2.2) right (by lia) (by lia)
   rw[lR,qD]
   exact ar_53 a x.1 x.2.2.1 b q
theorem bl_len (eq:Nat→Nat→Bool)(jk:Nat→Bool)(q:Qd)(h1:q.1≤q.2.1)(h2:q.2.2.1≤q.2.2.2):(bl eq jk q).length≤q.2.1-q.1:=fV eq jk _ _ _ _ _ h1 h2
noncomputable def cE (st:(Nat×Nat×Nat)×List (Nat×Nat×Nat))(c:Nat×Nat×Nat):(Nat×Nat×Nat)×List (Nat×Nat×Nat):=
 if st.1.1+st.1.2.2=c.1∧st.1.2.1+st.1.2.2=c.2.1 then ((st.1.1,st.1.2.1,st.1.2.2+c.2.2),st.2)
 else (c,if st.1.2.2=0 then st.2 else st.2++[st.1])
noncomputable def bU (l:List (Nat×Nat×Nat)):(Nat×Nat×Nat)×List (Nat×Nat×Nat):=l.foldl cE ((0,0,0),[])
noncomputable def mgOf (la lb:Nat)(l:List (Nat×Nat×Nat)):List (Nat×Nat×Nat):=
 (if(bU l).1.2.2=0 then (bU l).2 else (bU l).2++[(bU l).1])++[(la,lb,0)]
theorem dT (l:List (Nat×Nat×Nat))(c:Nat×Nat×Nat):bU (l++[c])=cE (bU l) c:=by unfold bU;rw[pC];rfl
theorem fL (l:List (Nat×Nat×Nat)):(bU l).2.length≤l.length:=by
 generalize hn:l.length=n
 induction n generalizing l with
 | zero=>have:=nT hn;subst this;exact lE _
 | succ n ih=>
  rcases mW l with rfl | ⟨qs,q,rfl⟩
  ·simp at hn
  ·rw[mX] at hn⊢
   have h1:=ih qs (by simpa using hn)
   rw[dT]
   unfold cE
   split
   ·exact mV h1
   ·dsimp only;split
    ·exact mV h1
    ·simp;exact h1
theorem ma_f13 (P:jT):findIn (KF P) (.ref 135) "__iter__"=some (some (.builtin "tuple.__iter__")):=by kernel_rfl!
theorem tit_kind:builtinKind "tuple.__iter__"=some .slot:=by decide +kernel
theorem tit_split:splitId "tuple.__iter__"=some ("tuple","__iter__"):=by decide +kernel
section
variable {w:jS}{A:jV}{C:Cx}{m mg mb:kJ→Option jL}{B:Base}{M:List (jQ×kK)}
 {h:kI} {g:Array jX} {d:kU} {t:Nat} {os:jU} {env:Env} {Q:jL→jP→Prop} {QO:Option jL→jP→Prop} {QL:List jL→jP→Prop} {QU:Unit→jP→Prop} {E:jL→jP→Prop}
noncomputable abbrev tiO (x:jQ)(i:Nat):kK:={cls:=.type "tuple_iterator",data:=.fields #[.ref x,.int i 0]}
theorem m_iter {x dd:jQ}{n:Nat}{vs:List jL}(X:(KF w.params).In h)(hx:h.get? x=some (mtO dd n vs))(k:Q (.ref h.objs.size) ⟨h.push (tiO x 0),g,d,t,os⟩):
  jN (jM PW w) A (pyIter (.ref x)) Q E ⟨h,g,d,t,os⟩:=by
 injection X hx k with w A h g d t os Q E x dd n vs
 have t1:Looks (jM PW w) h (typeOf (.ref x)) (.ref 135):=(Looks.ld (part:=none) hx).andThen .now
 have s1:=looks_subIn (M:=jM PW w) X (ma_f4 w.params)
 have j1:Looks (jM PW w) h (isInstance (.ref x) (.type "tuple")) true:=t1.andThen s1
 have f1:=looks_findIn (M:=jM PW w) X (ma_f13 w.params)
 have b1:Looks (jM PW w) h (bindSpecial (.builtin "tuple.__iter__") (.ref x)) (.builtin "tuple.__iter__",[.ref x]):=Looks.of_pure (PySem.F.slot_tuple_iter.bind _)
 have ci:jN (jM PW w) A (call (.builtin "tuple.__iter__") [.ref x]) (fun v s'=>v=.ref h.objs.size∧s'=⟨h.push (tiO x 0),g,d,t,os⟩) E ⟨h,g,d,t,os⟩:=by
  refine wpAny_call (codeAny_call_builtin PySem.F.slot_tuple_iter.plain PySem.F.entry_tuple_iter ?_)
  refine check_slot (i:="tuple.__iter__") (owner:="tuple") (n:="__iter__") (self:=.ref x) (rest:=[]) tit_kind tit_split j1 (PySem.F.args_tuple_iter_1 _) ?_
  show jN _ _ (do ret (←newFields "tuple_iterator" [.ref x,rawInt 0])) _ _ _
  exact jK (kP (jO ⟨rfl,rfl⟩))
 unfold pyIter
 repeat (first | with_reducible refine wpAny_call ?_ | lk)
 split
 ·refine jK (b1.at (jO ?_))
  dsimp only
  rw[if_neg (by decide)]
  refine jK (jR ci (fun v s' hv=>?_) fun _ _ x=>x)
  obtain⟨rfl,rfl⟩:=hv
  refine jO ?_
  exact jK (wpAny_specialOf (s:=⟨h.push (tiO x 0),g,d,t,os⟩) ⟨_,lT _ rfl,rfl⟩ slot_tupleiter_next.lookup (jO k))
 ·refine wpAny_tryCatch (jK (b1.at (jO ?_)))
  dsimp only
  rw[if_neg (by decide)]
  refine jK (jR ci (fun v s' hv=>?_) fun _ _ x=>x)
  obtain⟨rfl,rfl⟩:=hv
  refine jO ?_
  exact jK (wpAny_specialOf (s:=⟨h.push (tiO x 0),g,d,t,os⟩) ⟨_,lT _ rfl,rfl⟩ slot_tupleiter_next.lookup (jO k))
theorem m_item {it x dd:jQ}{n i:Nat}{vs:List jL}{v:jL}(hit:h.get? it=some (tiO x i))(hx:h.get? x=some (mtO dd n vs))(hv:vs[i]? =some v)
  (k:∀h',h'.get? it=some (tiO x (i+1))→Heap.SameBut it h h'→QO (some v) ⟨h',g,d,t,os⟩):jN (jM PW w) A (pyNext (.ref it)) QO E ⟨h,g,d,t,os⟩:=by
 injection hit hx hv k with w A h g d t os QO E it x dd n i vs v
 unfold pyNext
 refine jK (wpAny_attempt (wpAny_callSpecial?_slot (name:=kY "__next__") (s:=⟨h,g,d,t,os⟩) ⟨_,hit,rfl⟩ slot_tupleiter_next
  (wpAny_call_entry slot_tupleiter_next ⟨_,hit,rfl⟩ entry_tupleiter_next ?_ (args_tupleiter_next _))))
 refine jK (jO ?_)
 refine jK (wpAny_field hit rfl (x:=.ref x) rfl ?_)
 dsimp only
 rw[if_neg (show ¬((Value.ref x==Value.none)=true) from qQ)]
 refine jK (wpAny_field hit rfl (x:=.int i 0) rfl ?_)
 refine jK (wpAny_seqItems (s:=⟨h,g,d,t,os⟩) hx rfl ?_)
 have e:vs.toArray[((i:Nat):Int).toNat]? =some v:=by simpa using hv
 dsimp only
 rw[e]
 dsimp only
 refine jK (wpAny_setField_rec (s:=⟨h,g,d,t,os⟩) hit (by simp) fun h₁ e₁ s₁=>jO ⟨v,rfl,jO (k h₁ ?_ s₁)⟩)
 rw[e₁];simp[rawInt]
theorem m_end {it x dd:jQ}{n i:Nat}{vs:List jL}(hh:A.handled=none)(hit:h.get? it=some (tiO x i))(hx:h.get? x=some (mtO dd n vs))(hv:vs[i]? =none)
  (k:∀h',(∀b o,b≠it→h.get? b=some o→h'.get? b=some o)→QO none ⟨h',g,d,t,os⟩):jN (jM PW w) A (pyNext (.ref it)) QO E ⟨h,g,d,t,os⟩:=by
 unfold pyNext
 refine jK (wpAny_attempt (wpAny_callSpecial?_slot (name:=kY "__next__") (s:=⟨h,g,d,t,os⟩) ⟨_,hit,rfl⟩ slot_tupleiter_next
  (wpAny_call_entry slot_tupleiter_next ⟨_,hit,rfl⟩ entry_tupleiter_next ?_ (args_tupleiter_next _))))
 refine jK (jO ?_)
 refine jK (wpAny_field hit rfl (x:=.ref x) rfl ?_)
 dsimp only
 rw[if_neg (show ¬((Value.ref x==Value.none)=true) from qQ)]
 refine jK (wpAny_field hit rfl (x:=.int i 0) rfl ?_)
 refine jK (wpAny_seqItems (s:=⟨h,g,d,t,os⟩) hx rfl ?_)
 have e:vs.toArray[((i:Nat):Int).toNat]? =none:=by simpa using hv
 dsimp only
 rw[e]
 dsimp only
 refine jK (wpAny_rule (jK (wpAny_setField_rec (s:=⟨h,g,d,t,os⟩) hit (by simp) fun h₁ e₁ s₁=>?_)))
 refine jR (iP (E:=E) hh fun h' kk=>k h' fun b o hb e=>kk _ _ ((s₁.2 b hb).trans e)) (fun fin s' z=>?_) fun _ _ z=>z
 refine jI1 ?_ z;try clear z;intro v;refine jG2 ?_;intro e1 e2
 exact⟨v,⟨e1,jO e2⟩⟩
theorem m_draw {it x dd:jQ}{c:Nat}{vs:List jL}(hne:x≠it):∀(n i:Nat) {h:kI} {QL:List jL→jP→Prop},h.get? it=some (tiO x i)→h.get? x=some (mtO dd c vs)→i+n≤vs.length→
  (∀h',h'.get? it=some (tiO x (i+n))→Heap.SameBut it h h'→QL ((vs.drop i).take n) ⟨h',g,d,t,os⟩)→jN (jM PW w) A (draw (.ref it) n) QL E ⟨h,g,d,t,os⟩:=by
 intro n
 induction n with
 | zero=>intro i h QL hit hx hl k;exact jO (by simpa using k h hit (Heap.SameBut.refl ..))
 | succ n ih=>
  intro i h QL hit hx hl k
  have hi:i<vs.length:=by lia
  show jN _ _ (pyNext (.ref it) >>= _) _ _ _
  refine jK (m_item hit hx (mH hi) fun h₁ e₁ s₁=>?_)
  refine jK (kB (ih (i+1) e₁ ((s₁.2 x hne).trans hx) (by lia) fun h₂ e₂ s₂=>jO ?_))
  have:=k h₂ (by rw[show i+(n+1)=i+1+n by lia];exact e₂) (s₁.trans s₂)
  rw[List.drop_eq_getElem_cons hi,List.take_succ_cons] at this
  exact this
theorem m_unpack {x dd:jQ}{c n:Nat}{vs:List jL}(S:St C B h m M)(G:Gr w mg mb B)(hx:B x=some (mtO dd c vs))(hh:A.handled=none)(hn:n=vs.length)
  (k:∀h',St C B h' m M→QL vs ⟨h',g,d,t,os⟩):jN (jM PW w) A (unpackItems (.ref x) n none) QL E ⟨h,g,d,t,os⟩:=by
 injection S G hx hh hn k with w A C m mg mb B M h g d t os QL E x dd c n vs
 subst hn
 have X:=G.at S.b
 have ho:=S.b _ _ hx
 have t1:Looks (jM PW w) h (typeOf (.ref x)) (.ref 135):=(Looks.ld (part:=none) ho).andThen .now
 have f1:=looks_findIn (M:=jM PW w) X (ma_f13 w.params)
 have hlt:x≠h.objs.size:=lN (lM ho)
 unfold unpackItems
 refine jK ?_
 unfold notIterableAtAll
 refine jK (jK (t1.at (f1.at ?_)))
 refine jO ?_
 simp only[oW,if_false]
 refine jK (kB (m_iter X ho ?_))
 refine jK (kB (m_draw hlt vs.length 0 (lT _ rfl) (lS _ ho) (by lia) fun h₁ e₁ s₁=>?_))
 have hall:List.take vs.length (List.drop 0 vs)=vs:=by rw[List.drop_zero,oH]
 rw[hall,if_neg (by simp)]
 have k1:∀b o,b≠h.objs.size→h.get? b=some o→h₁.get? b=some o:=fun b o hb e=>(s₁.2 b hb).trans (lS _ e)
 refine jK (kB (m_end hh e₁ (k1 _ _ hlt ho) (by simp) fun h₂ k₂=>?_))
 simp only[Option.isSome_none,oW,if_false]
 exact jO (k h₂ (S.kp ⟨fun b o e=>k₂ b o (lN (lM e)) (k1 b o (lN (lM e)) e)⟩))
theorem g_mt {elts:List Expr}{x1:Nat}{pos:kW}{x dd:jQ}{c:Nat}{vs:List jL}(S:St C B h m M)(G:Gr w mg mb B)(hx:B x=some (mtO dd c vs))(hh:A.handled=none)
  (k:∀h',St C B h' m M→jN (jM PW w) A (assignInOrder ((assignEach elts env).map (·.2)) vs) QU E ⟨h',g,d,t,os⟩)
  (hn:autoParam ((assignEach elts env).length=vs.length) tR) (hstar:autoParam ((assignEach elts env).findIdx? (·.1)=none) tR):
  jN (jM PW w) A (assign (.Tuple elts x1 pos) env (.ref x)) QU E ⟨h,g,d,t,os⟩:=by
 rw[assign_Tuple]
 refine jK (wpAny_standAt ?_)
 unfold unpack
 rw[hstar]
 exact jK (kB (m_unpack S G hx hh hn fun h' S'=>k h' S'))
end
theorem ma_f14 (P:jT):findIn (KF P) (.ref 135) "__len__"=some (some (.builtin "tuple.__len__")):=by kernel_rfl!
theorem tln_kind:builtinKind "tuple.__len__"=some .slot:=by decide +kernel
theorem tln_split:splitId "tuple.__len__"=some ("tuple","__len__"):=by decide +kernel
section
variable {w:jS}{A:jV}{C:Cx}{m mg mb:kJ→Option jL}{B:Base}{M:List (jQ×kK)}
 {h:kI} {g:Array jX} {d:kU} {t:Nat} {os:jU} {env:Env} {Q:jL→jP→Prop} {E:jL→jP→Prop}
theorem m_len {x dd:jQ}{n:Nat}{vs:List jL}(X:(KF w.params).In h)(hx:h.get? x=some (mtO dd n vs))(hl:vs.length≤1000)(k:∀u t',Q (.int vs.length u) ⟨h,g,d,t',os⟩):
  jN (jM PW w) A (call (.builtin "len") [.ref x]) Q E ⟨h,g,d,t,os⟩:=by
 injection X hx hl k with w A h g d t os Q E x dd n vs
 have t1:Looks (jM PW w) h (typeOf (.ref x)) (.ref 135):=(Looks.ld (part:=none) hx).andThen .now
 have s1:=looks_subIn (M:=jM PW w) X (ma_f4 w.params)
 have j1:Looks (jM PW w) h (isInstance (.ref x) (.type "tuple")) true:=t1.andThen s1
 have f1:=looks_findIn (M:=jM PW w) X (ma_f14 w.params)
 have b1:Looks (jM PW w) h (bindSpecial (.builtin "tuple.__len__") (.ref x)) (.builtin "tuple.__len__",[.ref x]):=Looks.of_pure (PySem.F.slot_tuple_len.bind _)
 have ci:∀{A:jV} {E:jL→jP→Prop},jN (jM PW w) A (call (.builtin "tuple.__len__") [.ref x]) (fun v s'=>∃u t',v=.int vs.length u∧s'=⟨h,g,d,t',os⟩) E ⟨h,g,d,t,os⟩:=by
  intro A E
  refine wpAny_call (codeAny_call_builtin PySem.F.slot_tuple_len.plain PySem.F.entry_tuple_len ?_)
  refine check_slot (i:="tuple.__len__") (owner:="tuple") (n:="__len__") (self:=.ref x) (rest:=[]) tln_kind tln_split j1 (PySem.F.args_tuple_len_1 _) ?_
  refine jK (jO ?_)
  unfold Builtin.Tuple.tupleItemsOf
  refine jK (jK (wpAny_seqItems (s:=⟨h,g,d,t,os⟩) hx rfl (jO ?_)))
  rw[lY]
  unfold retInt
  exact jK (wpAny_mkInt (jO (jJ2 _ _ ⟨rfl,rfl⟩)))
 refine call_function_entry kind_len plain_len entry_len (args_len1 _) ?_
 unfold Builtin.«len»
 refine jK (m:=oneArg "len" _) (jO ?_)
 refine jK ?_
 simp only[callSpecial?]
 refine jK (jK (t1.at (f1.at ?_)))
 dsimp only
 refine kB (jK (b1.at ?_))
 dsimp only
 refine jK (jR ci (fun v s' hv=>?_) fun _ _ x=>x)
 refine jI2 ?_ hv;try clear hv;intro u t';refine jG2 ?_;intro zz1 zz2;obtain rfl:=zz1;obtain rfl:=zz2
 refine jO ?_
 dsimp only
 refine jK (kB (jO ?_))
 refine jK (wpAny_letGo ?_)
 rw[if_neg (by lia),if_neg (by lia)]
 exact jK (wpAny_mkInt (jO ⟨_,rfl,k _ _⟩))
end
section
variable {w:jS}{A:jV}{s:jP}{mg mb:kJ→Option jL}{B:Base}
theorem c_make {tp:jQ}{vs:List jL}(ht:Tup B tp vs)(hl:vs.length=3)(G:Gr w mg mb B)(hB:∀a o,B a=some o→s.heap.get? a=some o)(hr:Room A 1):
  jN (jM PW w) A (call (.ref 89) [.ref 135,.ref tp]) (Ends B s fun v B'=>∃a,v=.ref a∧MtO B' a vs) no s:=by
 refine' eP (o:=o_89 w.params) (binds:=[(kY "cls",.ref 135),(kY "iterable",.ref tp)]) G hB hr.d' ?ho ?hd ?hcd ?hb ?c1 ?c2 ?c3 ?c4 ?c5 ?_
 case ho=>exact rfl
 case hd=>exact rfl
 case hcd=>exact rfl
 case hb=>exact BindsTo.of_eq rfl
 case c1=>decide
 case c2=>exact locs rfl
 case c3=>exact rfl
 case c4=>exact rfl
 case c5=>exact rfl
 intro C h t e1 e2 S e3 e4
 generalize hEe:envX _ _ C.L _ _ []=env
 have hE:aP C env:=hEe▸⟨rfl,rfl,rfl,rfl⟩
 subst hEe
 change St C B h (vars [(kY "iterable",.ref tp),(kY "cls",.ref 135)]) [] at S
 clear hB hr;injection ht hl G e1 e2 e3 e4 hE S with w A s mg mb B tp vs C h t
 refine aZ (bW ?_);intro _ _
 refine aY (aU (pl:=_) ?_)
 refine cM (v:=.type "tuple") S hE G (eU _) rfl ?_
 refine gm_tnew rfl rfl S ?_;intro _
 refine eE (aB (aA S hE (by exact rfl) ?_))
 refine aB (aA S hE (by exact rfl) ?_)
 refine aC ?_
 obtain⟨n,e⟩:=id ht
 refine tn_at S G (.inr rfl) (S.b _ _ e) rfl rfl (by rw[hl];exact lF rfl) ?_;clear S;intro h a B' le hm S
 replace G:=G.le le
 refine aD S hE ?_;clear S;intro h t S
 refine bH false ?_ (fun c=>nomatch c) (fun c t=>?_)
 ·refine aQ (aR (cM (v:=.builtin "len") S hE G (cJ _) rfl ?_))
  refine eE (aB (aA S hE (by exact rfl) ?_))
  refine aC (jI2 ?_ (id hm));intro dd c;intro hmo
  refine m_len (G.at S.b) (S.b _ _ hmo) (by lia) ?_;intro u _
  refine aF ?_;intro u2 _
  refine c_ne (aI ?_)
  exact pu (by rw[hl];rfl)
 refine aJ (cN (aA S hE (by exact rfl) ?_))
 exact S.ends e1 e2 e3 e4 ⟨a,rfl,hm⟩
end
section
variable {w:jS}{A:jV}{C:Cx}{m mg mb:kJ→Option jL}{B:Base}{M:List (jQ×kK)}
 {h:kI} {g:Array jX} {d:kU} {t:Nat} {os:jU} {env:Env} {Q:jL→jP→Prop} {E:jL→jP→Prop}
theorem a_make {expr:Bool}{name:kJ}(hn:name="_make")(S:St C B h m M)(G:Gr w mg mb B)
  (k:∀h' t' b B',Le B B'→B' b=some (methodObj (.ref 89) (.ref 135))→St C B' h' m M→Q (.ref b) ⟨h',g,d,t',os⟩):
  jN (jM PW w) A (getAttr (.ref 135) name expr) Q E ⟨h,g,d,t,os⟩:=by
 subst hn
 refine cls_bind (s:=⟨h,g,d,t,os⟩) (G.at S.b) (ma_f6 _) (ma_f8 _) (wpAny_call (cm_get (s:=⟨h,g,d,t+1,os⟩) (G.at S.b) (ma_f10 _) ?_))
 exact handed_on rfl (k _ _ _ _ (aV _ S.freshB) (aM _ _ _) (S.froz _ rfl))
end
section
variable {w:jS}{A:jV}{s:jP}{mg mb:kJ→Option jL}{B:Base}
theorem callFK {f:jQ}{o:kK}{nm qual:kJ}{params:Arguments}{body:List jW}{scope:Scope}{dV kV doc pm cdv ct:jL}{an:Option jQ}{args:List jL}{kw:List (kJ×jL)}{binds:List (kJ×jL)}{Q:jL→Base→Prop}
  (G:Gr w mg mb B) (hB:∀a o,B a=some o→s.heap.get? a=some o) (hroom:A.depth<recursionLimit) (ho:(KF w.params).lookup f=some o) (hdata:o.data=.func (fnOf nm qual params body scope dV kV doc pm an cdv ct))
  (hcd:codeIn (KF w.params) cdv qual=true) (hbind:BindsTo s (fnOf nm qual params body scope dV kV doc pm an cdv ct) ⟨args,kw⟩ binds)
  (hcell:∀x∈scope.names,x.2≠.cell) (hloc:∀x∈binds,scope.names.lookup x.1=some .local)
  (hco:scope.isCoroutine=false) (hgen:scope.isGenerator=false) (hk:scope.kind=.function)
  (h:∀C h₁ t,C.B₀=B→C.n₀=s.heap.objs.size→St C B h₁ (fun x=>binds.reverse.lookup x) []→C.H=(fun a=>s.heap.get? a)→((∀a,a<C.n₀→C.D a)∧∀a,¬C.W a)→
   jN (jM PW w) (A.deeper (envX qual scope C.L f cdv [])) (kO body (envX qual scope C.L f cdv []))
    (fun fl s'=>Ends B s Q (match fl with | .ret v=>v | _=>.none) s') no ⟨h₁,s.gens,s.drawn,t,s.os⟩):
  kN (jM PW w) A (.call (.ref f) ⟨args,kw⟩) (fun r s'=>match r with | .ok (.ret v)=>Ends B s Q v s' | .ok _=>False | .error e=>no e s') s:=by
 refine(codeAny_call_def hroom (hB _ _ (G.K _ _ ho)) hdata (G.lim _ hB) (codeRec_of (G.at hB) hcd) rfl hbind hcell hloc (fun h₁ hn hk₁=>?_) hco hgen hk)
 have S:St ⟨s.heap.objs.size,fun a=>a<s.heap.objs.size,fun a=>s.heap.get? a,fun a=>a=s.heap.objs.size,s.heap.objs.size,B,s.heap.objs.size,fun _=>False⟩ B h₁ (fun x=>binds.reverse.lookup x) []:={
  ns:=.of hn
  ld:=lO _
  lv:=rfl
  fr:=fun a o _ e=>hk₁ a o e
  b:=fun a o e=>hk₁ a o (hB a o e)
  v:=fun a e=>⟨by
   subst e
   cases q:B s.heap.objs.size with
   | none=>rfl
   | some o=>exact absurd (lM (hB _ _ q)) (lO _),mB e⟩
  d:=fun a hl=>lL hl
  tp:=.inl rfl
  m:=fun p hp=>nomatch hp
  nd:=oO
  nl:=lE _
  ow:=fun p hp=>nomatch hp
  new:=fun a o e _=>e
  up:=Le.refl _}
 exact jR (h ⟨s.heap.objs.size,fun a=>a<s.heap.objs.size,fun a=>s.heap.get? a,fun a=>a=s.heap.objs.size,s.heap.objs.size,B,s.heap.objs.size,fun _=>False⟩ h₁ _ rfl rfl S rfl ⟨fun _ x=>x,fun _ x=>x⟩) (fun _ _ x=>x) fun _ _ x=>x.elim
theorem c_makeK {tp:jQ}{vs:List jL}(ht:Tup B tp vs)(hl:vs.length=3)(G:Gr w mg mb B)(hB:∀a o,B a=some o→s.heap.get? a=some o)(hr:Room A 1):
  kN (jM PW w) A (.call (.ref 89) ⟨[.ref 135,.ref tp],[]⟩) (fun r s'=>match r with | .ok (.ret v)=>Ends B s (fun v B'=>∃a,v=.ref a∧MtO B' a vs) v s' | .ok _=>False | .error e=>no e s') s:=by
 refine' callFK (o:=o_89 w.params) (binds:=[(kY "cls",.ref 135),(kY "iterable",.ref tp)]) G hB hr.d' ?ho ?hd ?hcd ?hb ?c1 ?c2 ?c3 ?c4 ?c5 ?_
 case ho=>exact rfl
 case hd=>exact rfl
 case hcd=>exact rfl
 case hb=>exact BindsTo.of_eq rfl
 case c1=>decide
 case c2=>exact locs rfl
 case c3=>exact rfl
 case c4=>exact rfl
 case c5=>exact rfl
 intro C h t e1 e2 S e3 e4
 generalize hEe:envX _ _ C.L _ _ []=env
 have hE:aP C env:=hEe▸⟨rfl,rfl,rfl,rfl⟩
 subst hEe
 change St C B h (vars [(kY "iterable",.ref tp),(kY "cls",.ref 135)]) [] at S
 refine aZ (bW ?_);intro _ _
 refine aY (aU (pl:=_) ?_)
 refine cM (v:=.type "tuple") S hE G (eU _) rfl ?_
 refine gm_tnew rfl rfl S ?_;intro _
 refine eE (aB (aA S hE (by exact rfl) ?_))
 refine aB (aA S hE (by exact rfl) ?_)
 refine aC ?_
 obtain⟨n,e⟩:=id ht
 refine tn_at S G (.inr rfl) (S.b _ _ e) rfl rfl (by rw[hl];exact lF rfl) ?_;clear S;intro h a B' le hm S
 replace G:=G.le le
 refine aD S hE ?_;clear S;intro h t S
 refine bH false ?_ (fun c=>nomatch c) (fun c t=>?_)
 ·refine aQ (aR (cM (v:=.builtin "len") S hE G (cJ _) rfl ?_))
  refine eE (aB (aA S hE (by exact rfl) ?_))
  refine aC (jI2 ?_ (id hm));intro dd c;intro hmo
  refine m_len (G.at S.b) (S.b _ _ hmo) (by lia) ?_;intro u _
  refine aF ?_;intro u2 _
  refine c_ne (aI ?_)
  exact pu (by rw[hl];rfl)
 refine aJ (cN (aA S hE (by exact rfl) ?_))
 exact S.ends e1 e2 e3 e4 ⟨a,rfl,hm⟩
theorem c_bmake {b tp:jQ}{vs:List jL}(hb:B b=some (methodObj (.ref 89) (.ref 135)))(ht:Tup B tp vs)(hl:vs.length=3)(G:Gr w mg mb B)(hB:∀a o,B a=some o→s.heap.get? a=some o)(hr:Room A 1):
  jN (jM PW w) A (call (.ref b) [.ref tp]) (Ends B s fun v B'=>∃a,v=.ref a∧MtO B' a vs) no s:=
 wpAny_call (method_call (hB _ _ hb) (c_makeK ht hl G hB hr))
end
theorem mp_init:Slot "map" "__init__" "object.__init__":=
 .of (owner:="object") (n:="__init__") (by rw[jY,kH];kernel_rfl) (by decide +kernel) (by decide +kernel) (by decide +kernel)
  (by first | exact .inl (by decide +kernel) | exact .inr (by decide +kernel)) (by rw[isSubtype_type];kernel_rfl)
theorem fY:Slot "map" "__next__" "map.__next__":=
 .of (owner:="map") (n:="__next__") (by rw[jY,kH];kernel_rfl) (by decide +kernel) (by decide +kernel) (by decide +kernel)
  (by first | exact .inl (by decide +kernel) | exact .inr (by decide +kernel)) (by rw[isSubtype_type];kernel_rfl)
theorem mp_mro:mroOf (.type "map")=pure [.type "map",.type "object"]:=by rw[mroOf_type];kernel_rfl
theorem mp_new:kF (.type "map") "__new__"=pure (some (.builtin "map.__new__")):=by rw[jY,kH];kernel_rfl
theorem mp_called:TypeCalled "map" "map.__new__" "object.__init__":=
 ⟨by decide +kernel,by decide +kernel,jJ2 _ _ mp_mro,madeBy_type mp_mro mp_new (by decide +kernel),by decide +kernel,by rw[isSubtype_type];kernel_rfl,mp_init⟩
theorem mp_tc (a b:jL):checkTypeCall "map" ⟨[a,b],[]⟩=pure ():=by kernel_rfl
theorem mp_nc (a b:jL):checkBuiltinCall "map.__new__" ⟨[.type "map",a,b],[]⟩=pure ():=by kernel_rfl
theorem mp_entry:entryFor table "map.__new__"=some Builtin.«map.__new__»:=entryFor_of_tree (by kernel_rfl)
theorem mp_nentry:entryFor table "map.__next__"=some Builtin.«map.__next__»:=entryFor_of_tree (by kernel_rfl)
theorem mp_nargs (a:jL):argsOk "map.__next__" ⟨[a],[]⟩:=by unfold argsOk;kernel_rfl
theorem mp_oi (a b c:jL):argsOk "object.__init__" ⟨[a,b,c],[]⟩:=by unfold argsOk;kernel_rfl
theorem mp_sub:isSubtype (.type "map") (.type "map")=pure true:=by rw[isSubtype_type];kernel_rfl
theorem map_meets (b l:jQ)(items:Array jL)(n:Nat)(dct:Option jQ)(sl:Array (Option jL)):
  Meets (Builtin.«map.__new__» ⟨[.type "map",.ref b,.ref l],[]⟩) (fun _ R s=>s.heap.get? l=some {cls:=.type "list",dict:=dct,data:=.seq items n,slots:=sl}∧
   R (.ok (.ret (.ref ((s.heap.push {cls:=.type "list_iterator",data:=.fields #[.ref l,.int 0 0]}).push {cls:=.type "tuple",data:=.seq #[.ref s.heap.objs.size]}).objs.size)))
    {s with heap:=((s.heap.push {cls:=.type "list_iterator",data:=.fields #[.ref l,.int 0 0]}).push {cls:=.type "tuple",data:=.seq #[.ref s.heap.objs.size]}).push {cls:=.type "map",data:=.fields #[.ref (s.heap.push {cls:=.type "list_iterator",data:=.fields #[.ref l,.int 0 0]}).objs.size,.ref b]}}):=
 .of_wp fun prog w A R s h=>by
  obtain⟨hp,g,d,tk,os⟩:=s;obtain⟨hl,h⟩:=h
  have hsub:=mp_sub
  have hL:Heap.IsList (Shared.heap ⟨hp,g,d,tk,os⟩) l items:=⟨_,jH3 hl rfl ⟨n,rfl⟩⟩
  wp_walk using AutoSeq1.wpAny_loadPart' hl,wpAny_pyIter_list hL
  exact⟨_,⟨rfl,h⟩⟩
noncomputable abbrev liO (l:jQ)(i:Nat):kK:={cls:=.type "list_iterator",data:=.fields #[.ref l,.int i 0]}
noncomputable abbrev mpT (it:jQ):kK:={cls:=.type "tuple",data:=.seq #[.ref it]}
noncomputable abbrev mpO (tp b:jQ):kK:={cls:=.type "map",data:=.fields #[.ref tp,.ref b]}
section
variable {w:jS}{A:jV}{C:Cx}{m mg mb:kJ→Option jL}{B:Base}{M:List (jQ×kK)}
 {h:kI} {g:Array jX} {d:kU} {t:Nat} {os:jU} {env:Env} {Q:jL→jP→Prop} {E:jL→jP→Prop}
theorem c_map {b l:jQ}{vs:List jL}(S:St C B h m M)(hl:Lst B l vs)
  (k:Q (.ref (h.objs.size+2)) ⟨((h.push (liO l 0)).push (mpT h.objs.size)).push (mpO (h.objs.size+1) b),g,d,t,os⟩):
  jN (jM PW w) A (call (.type "map") [.ref b,.ref l]) Q E ⟨h,g,d,t,os⟩:=by
 obtain⟨n,e⟩:=hl
 refine callType_new mp_called (by decide) (mp_tc _ _) (mp_nc _ _) (fun obj=>mp_oi obj _ _) mp_entry (map_meets b l vs.toArray n none #[]) ⟨S.b _ _ e,?_⟩
 have e1:(h.push (liO l 0)).objs.size=h.objs.size+1:=mK ..
 have e2:((h.push (liO l 0)).push (mpT h.objs.size)).objs.size=h.objs.size+2:=by rw[mK,e1]
 have hg:=lT ((h.push (liO l 0)).push (mpT h.objs.size)) (o:=mpO (h.objs.size+1) b) rfl
 show _∧_
 rw[show(Heap.push h {cls:=.type "list_iterator",data:=.fields #[.ref l,.int 0 0]}).objs.size=h.objs.size+1 from e1]
 rw[show((h.push {cls:=.type "list_iterator",data:=.fields #[.ref l,.int 0 0]}).push {cls:=.type "tuple",data:=.seq #[.ref h.objs.size]}).objs.size=h.objs.size+2 from e2]
 refine⟨⟨_,by rw[e2] at hg;exact hg,rfl⟩,k⟩
end
section
variable {w:jS}{A:jV}{C:Cx}{m mg mb:kJ→Option jL}{B:Base}{M:List (jQ×kK)}
 {h:kI} {g:Array jX} {d:kU} {t:Nat} {os:jU} {env:Env} {Q:Option jL→jP→Prop} {E:jL→jP→Prop}
theorem mp_item {it tp mp b:jQ}{l:jQ}{items:Array jL}{i:Nat}{x:jL}(hm:h.get? mp=some (mpO tp b))(ht:h.get? tp=some (mpT it))(hi:h.IsListIter it l i)(hl:h.IsList l items)(hx:items[i]? =some x)(hne:it≠mp)
  (k:∀h',h'.IsListIter it l (i+1)→Heap.SameBut it h h'→jN (jM PW w) A.in1 (call (.ref b) [x]) (fun v s'=>Q (some v) s') no ⟨h',g,d,t,os⟩):
  jN (jM PW w) A (pyNext (.ref mp)) Q no ⟨h,g,d,t,os⟩:=by
 unfold pyNext
 refine jK (wpAny_attempt (wpAny_callSpecial?_slot (name:=kY "__next__") (s:=⟨h,g,d,t,os⟩) ⟨_,hm,rfl⟩ fY
  (wpAny_call_entry fY ⟨_,hm,rfl⟩ mp_nentry ?_ (mp_nargs _))))
 refine jK (jO ?_)
 refine jK (wpAny_field hm rfl (x:=.ref tp) rfl ?_)
 refine jK (wpAny_seqItems (s:=⟨h,g,d,t,os⟩) ht rfl ?_)
 simp only[List.forIn_toArray,oV,List.forIn_nil,bind_assoc,pure_bind]
 refine jK (kB (wpAny_nextOf_list_item (s:=⟨h,g,d,t,os⟩) hi hl hx fun h' hi' hs'=>?_))
 refine jK (wpAny_field ((hs'.2 mp (Ne.symm hne)).trans hm) rfl (x:=.ref b) rfl ?_)
 refine jK (kB (jR (k h' hi' hs') (fun v s' hv=>?_) fun _ _ x=>x.elim))
 refine jK (wpAny_letGo ?_)
 exact jO ⟨v,rfl,jO hv⟩
theorem mp_end {it tp mp b:jQ}{l:jQ}{items:Array jL}{i:Nat}(hh:A.handled=none)(hm:h.get? mp=some (mpO tp b))(ht:h.get? tp=some (mpT it))(hi:h.IsListIter it l i)(hl:h.IsList l items)(hx:items[i]? =none)
  (k:∀h',Heap.ExtBut it h h'→Q none ⟨h',g,d,t,os⟩):
  jN (jM PW w) A (pyNext (.ref mp)) Q no ⟨h,g,d,t,os⟩:=by
 unfold pyNext
 refine jK (wpAny_attempt (wpAny_callSpecial?_slot (name:=kY "__next__") (s:=⟨h,g,d,t,os⟩) ⟨_,hm,rfl⟩ fY
  (wpAny_call_entry fY ⟨_,hm,rfl⟩ mp_nentry ?_ (mp_nargs _))))
 refine jK (jO ?_)
 refine jK (wpAny_field hm rfl (x:=.ref tp) rfl ?_)
 refine jK (wpAny_seqItems (s:=⟨h,g,d,t,os⟩) ht rfl ?_)
 simp only[List.forIn_toArray,oV,List.forIn_nil,bind_assoc,pure_bind]
 refine jK (kB (wpAny_nextOf_list_end (s:=⟨h,g,d,t,os⟩) (A:=A.in1) hh hi hl hx fun h' e he hc=>?_))
 refine jI1 ?_ hc;try clear hc;intro o;refine jG2 ?_;intro ho hcl
 refine jK (wpAny_isInstance (T:="StopIteration") (b:=true) ⟨o,ho,hcl⟩ isSubtype_stop ?_)
 exact jO (k h' he)
end
theorem mp_nolen:kF (.type "map") "__len__"=pure none:=by rw[jY,kH];kernel_rfl
theorem mp_nohint:kF (.type "map") "__length_hint__"=pure none:=by rw[jY,kH];kernel_rfl
theorem mp_sliter:Slot "map" "__iter__" "map.__iter__":=
 .of (owner:="map") (n:="__iter__") (by rw[jY,kH];kernel_rfl) (by decide +kernel) (by decide +kernel) (by decide +kernel)
  (by first | exact .inl (by decide +kernel) | exact .inr (by decide +kernel)) (by rw[isSubtype_type];kernel_rfl)
theorem mp_eiter:entryFor table "map.__iter__"=some Builtin.«dict_keyiterator.__iter__»:=
 entryFor_alias (id':="dict_keyiterator.__iter__") (by kernel_rfl) (by first | rfl | decide +kernel | (unfold String.splitOn;simp +decide [String.splitOnAux])) (by decide +kernel) (by kernel_rfl)
theorem mp_iargs (a:jL):argsOk "map.__iter__" ⟨[a],[]⟩:=by unfold argsOk;kernel_rfl
theorem Room.in1 {A:jV}{k:Nat}(r:Room A (k+1)):Room A.in1 k:=⟨by have:=r.d;show A.depth+k<_;lia,by have:=r.u;show A.units+1+3*k+200<_;lia,r.h⟩
section
variable {w:jS}{A:jV}{C:Cx}{m mg mb:kJ→Option jL}{B:Base}{M:List (jQ×kK)}
 {h:kI} {g:Array jX} {d:kU} {t:Nat} {os:jU} {env:Env} {Q:jL→jP→Prop} {E:jL→jP→Prop} {R:Result→jP→Prop}
theorem mp_pyiter {mp tp b:jQ}(hm:h.get? mp=some (mpO tp b))(q:Q (.ref mp) ⟨h,g,d,t,os⟩):jN (jM PW w) A (pyIter (.ref mp)) Q E ⟨h,g,d,t,os⟩:=by
 have hT:Shared.TypeIs ⟨h,g,d,t,os⟩ (.ref mp) "map":=⟨_,hm,rfl⟩
 refine wpAny_pyIter_slot hT mp_sliter (wpAny_call_entry mp_sliter hT mp_eiter ?_ (mp_iargs _))
 show jN _ _ (ret (.ref mp)) _ _ _
 exact jO ⟨_,⟨rfl,jJ2 "map" _ (jH3 hT fY.lookup q)⟩⟩
theorem bls_get {B:Base}{vs:List jL}{res:List (Nat×Nat×Nat)}(hv:F2 (Bl B) vs res){i:Nat}(hi:i<res.length):∃v c,vs[i]? =some v∧res[i]? =some c∧Bl B v c:=by
 refine jI1 ?_ (hv.get' (mH hi));intro v;refine jG2 ?_;intro h1 h2
 exact jJ2 v _ (jH3 h1 (mH hi) h2)
theorem map_loop {a it mp tp b l:jQ}{vs:List jL}{res:List (Nat×Nat×Nat)}{r:jL}(hr:Room A 3):
  ∀(k i:Nat) (h:kI) (d:kU) (t:Nat) (B:Base) (acc:List jL) (c:Nat) (oi:kK),vs.length-i=k→i≤vs.length→
  St C B h m ((a,lstO acc c)::(it,oi)::M)→oi.cls=.type "list_iterator"→oi.data=.fields #[.ref l,.int i 0]→Gr w mg mb B→
  B mp=some (mpO tp b)→B tp=some (mpT it)→B b=some (methodObj (.ref 89) (.ref 135))→Lst B l vs→F2 (Bl B) vs res→res.length≤1001→F2 (Mt B) acc (res.take i)→
  (∀h' d' t' B' acc' c',St C B' h' m ((a,lstO acc' c')::M)→Le B B'→F2 (Mt B') acc' res→R (.ok (.ret r)) ⟨h',g,d',t',os⟩)→
  kN (jM PW w) A (.builtin "list.extend.loop" ⟨[.ref a,.ref mp,r],[]⟩) R ⟨h,g,d,t,os⟩:=by
 injection hr with w A C m mg mb M g os R a it mp tp b l vs res r
 intro k
 induction k with
 | zero=>
  intro i h d t B acc c oi hk hi S ec ed G bm bt bb hl hv hn hacc hR
  clear G bb;injection hk hi S ec ed bm bt hl hv hacc hR with i h d t B acc c oi
  have hin:i=vs.length:=by lia
  subst hin
  refine codeAny_builtin PySem.F.entry_extend_loop ?_
  rw[Around.under_plainId PySem.F.plain_extend_loop _]
  show jN _ A.in1 (pyNext (.ref mp) >>= _) _ _ _
  have hit:=S.m (it,oi) (by simp)
  refine jK (jR (mp_end (A:=A.in1) (items:=vs.toArray) (Q:=fun v s'=>v=none∧∃h',Heap.ExtBut it h h'∧s'=⟨h',g,d,t,os⟩) hr.h (S.b _ _ bm) (S.b _ _ bt) ⟨_,jH3 hit.1 ec ed⟩ (hl.at S) (by simp) (fun h' e=>⟨rfl,h',e,rfl⟩)) (fun v s' x=>?_) fun _ _ x=>x.elim)
  refine jG2 ?_ x;try clear x;intro zz1;refine jI1 ?_;intro h';refine jG2 ?_;intro e zz2;obtain rfl:=zz1;obtain rfl:=zz2
  have S1:St C B h m ((a,lstO acc c)::M):=S.drop (.cons_cons _ (qU _ _))
  have hL:C.L≠it:=fun q=>hit.2.2.1 (q▸S.lv)
  have S2:St C B h' m ((a,lstO acc c)::M):=S1.turn (wr:=[it]) (fun b o hb x=>e b o (fun q=>hb (lA.2 q)) x) (fun q=>hL (lA.1 q))
   (fun p hp q=>by
    have:=S.apart (M₁:=[(a,lstO acc c)]) (M₂:=M) p (by simpa using hp)
    exact this (lA.1 q)) (fun b hb=>by rw[lA.1 hb];exact hit.2.2.2) (fun b hb=>by rw[lA.1 hb];exact hit.2.1)
  refine jO (hR h' d t B acc c S2 (Le.refl _) ?_)
  rwa [pA (by rw[hv.length];exact lE _)] at hacc
 | succ k ih=>
  intro i h d t B acc c oi hk hi S ec ed G bm bt bb hl hv hn hacc hR
  injection ih hk hi S ec ed G bm bt bb hl hv hacc hR with k i h d t B acc c oi
  have hlt:i<vs.length:=Nat.lt_of_sub_eq_succ hk
  refine jI2 ?_ (bls_get hv (i:=i) (by rw[←hv.length];exact hlt));intro v q;refine jG3 ?_;intro hvi hqi hb
  refine codeAny_builtin PySem.F.entry_extend_loop ?_
  rw[Around.under_plainId PySem.F.plain_extend_loop _]
  show jN _ A.in1 (pyNext (.ref mp) >>= _) _ _ _
  have hit:=S.m (it,oi) (by simp)
  have hne:it≠mp:=fun q=>by have:=hit.2.2.2;rw[q,bm] at this;cases this
  refine jK (jR (mp_item (A:=A.in1) (items:=vs.toArray) (x:=v) (Q:=fun v s'=>∃h' d' t' B' oi' x,v=some x∧s'=⟨h',g,d',t',os⟩∧St C B' h' m ((a,lstO acc c)::(it,oi')::M)∧oi'.cls=.type "list_iterator"∧oi'.data=.fields #[.ref l,.int ((i+1:Nat):Int) 0]∧Le B B'∧Mt B' x q) (S.b _ _ bm) (S.b _ _ bt) ⟨_,jH3 hit.1 ec ed⟩ (hl.at S) (by simpa using hvi) hne (fun h1 hi1 hs1=>?_)) (fun v s' x=>?_) fun _ _ x=>x.elim)
  ·refine jI1 ?_ hi1;try clear hi1;intro oi';refine jG3 ?_;intro e1 e2 e3
   have S1:St C B h1 m ((a,lstO acc c)::(it,oi')::M):=S.chg (M₁:=[(a,lstO acc c)]) (M₂:=M) hs1 e1
   refine jI4 ?_ hb;try clear hb;intro tq x1 x2 x3;refine jG2 ?_;intro zz3 htq;obtain rfl:=zz3
   refine use S1 (c_bmake (s:=⟨h1,g,d,t,os⟩) bb htq rfl G S1.b (hr.in1.in1)) ?_
   intro v' h2 d2 t2 B2 S2 le ⟨x,ex,hm⟩
   exact jJ6 h2 d2 t2 B2 oi' _ (jH7 rfl rfl S2 e2 e3 le (jJ4 x x1 x2 x3 ⟨ex,hm⟩))
  ·refine jI6 ?_ x;try clear x;intro h2 d2 t2 B2 oi' x;refine jG7 ?_;intro zz4 zz5 S2 e2 e3 le hm;obtain rfl:=zz4;obtain rfl:=zz5
   have hlen:acc.length≤1001:=by rw[hacc.length,nG];lia
   show jN _ A.in1 (updateSeq a (·.push x) >>= _) _ _ _
   refine jK ?_
   have ha:=S2.m (a,lstO acc c) (kZ ..)
   have hu:=nZ (Obj.mapSeq (·.push x)) ha.1 rfl
   refine wpAny_updateSeq (hz:=by rw[lY,jZ];lia) (_hz':=by show(acc.toArray.push x).size≤_;rw[Array.size_push,lY,jZ];lia) ha.1 rfl ?_
   have S3:St C B2 (h2.update a (Obj.mapSeq (·.push x))) m ((a,lstO (acc++[x]) (if(acc.toArray.push x).size=acc.toArray.size then c else c+1))::(it,oi')::M):=
    S2.chg (M₁:=[]) (M₂:=(it,oi')::M) (Heap.SameBut.update ..) (by rw[hu];simp[Obj.mapSeq,lstO])
   refine jO ⟨plainId_quiet PySem.F.plain_extend_loop _,ih (i+1) _ _ _ B2 _ _ oi' (congrArg Nat.pred hk) (by lia) S3 e2 e3 (G.le le) (le _ _ bm) (le _ _ bt) (le _ _ bb) (hl.le le) (bE hv le) hn ?_ (fun h' d' t' B' acc' c' S' le' r=>hR h' d' t' B' acc' c' S' (le.trans le') r)⟩
   rw[nH,hqi]
   exact(hacc.mono fun _ _ z=>z.le le).snoc hm
theorem c_mapS {b l:jQ}{vs:List jL}(S:St C B h m M)(hl:Lst B l vs)
  (k:∀h' it tp mp B',Le B B'→B' tp=some (mpT it)→B' mp=some (mpO tp b)→St C B' h' m ((it,liO l 0)::M)→Q (.ref mp) ⟨h',g,d,t,os⟩):
  jN (jM PW w) A (call (.type "map") [.ref b,.ref l]) Q E ⟨h,g,d,t,os⟩:=by
 refine c_map S hl ?_
 have S1:=S.own (liO l 0) rfl
 have z1:(h.push (liO l 0)).objs.size=h.objs.size+1:=mK ..
 have S2:=S1.froz (mpT h.objs.size) rfl
 have z2:((h.push (liO l 0)).push (mpT h.objs.size)).objs.size=h.objs.size+2:=by rw[mK,z1]
 have S3:=S2.froz (mpO (h.objs.size+1) b) rfl
 have l1:=aV (mpT h.objs.size) S1.freshB
 have l2:=aV (mpO (h.objs.size+1) b) S2.freshB
 refine k _ h.objs.size (h.objs.size+1) (h.objs.size+2) _ (l1.trans l2) (l2 _ _ ?_) ?_ S3
 ·rw[←z1];exact aM _ _ _
 ·rw[←z2];exact aM _ _ _
theorem c_lmap {mp tp b l it:jQ}{oi:kK}{vs:List jL}{res:List (Nat×Nat×Nat)}(S:St C B h m ((it,oi)::M))(ec:oi.cls=.type "list_iterator")(ed:oi.data=.fields #[.ref l,.int 0 0])(G:Gr w mg mb B)
  (bm:B mp=some (mpO tp b)) (bt:B tp=some (mpT it)) (bb:B b=some (methodObj (.ref 89) (.ref 135))) (hl:Lst B l vs) (hv:F2 (Bl B) vs res) (hn:res.length≤1001) (hr:Room A 5)
  (k:∀h' d' t' B' a acc c,St C B' h' m ((a,lstO acc c)::M)→Le B B'→F2 (Mt B') acc res→Q (.ref a) ⟨h',g,d',t',os⟩):
  jN (jM PW w) A (call (.type "list") [.ref mp]) Q E ⟨h,g,d,t,os⟩:=by
 injection S ec ed G bm bt bb hl hv hn hr k with w A C m mg mb B M h g d t os Q E mp tp b l it oi vs res
 refine callType_codes (s:=⟨h,g,d,t,os⟩) (Q₁:=fun obj s₁=>obj=.ref h.objs.size∧s₁=⟨h.push {cls:=.type "list",data:=.seq #[]},g,d,t,os⟩) PySem.F.called_list (PySem.F.typeCall_list_1 _) PySem.F.entry_list_init
  (code_list_new _ ⟨rfl,rfl⟩) fun obj s₁ h₁=>?_
 obtain⟨rfl,rfl⟩:=h₁
 have S1:St C B (h.push (lstO [] 0)) m ((h.objs.size,lstO [] 0)::(it,oi)::M):=S.own (lstO [] 0) rfl
 change St C B (h.push {cls:=.type "list",data:=.seq #[]}) m ((h.objs.size,lstO [] 0)::(it,oi)::M) at S1
 generalize h.push {cls:=.type "list",data:=.seq #[]}=h1 at S1⊢
 generalize h.objs.size=a at S1⊢
 have hS:=(S1.m (a,lstO [] 0) (kZ ..)).1
 refine jH3 ⟨_,hS,rfl⟩ (PySem.F.args_list_init_2 _ _) ?_
 show jN _ _ (do let old ←Builtin.List.listItems (.ref a);Builtin.List.listUpdate (.ref a) (fun _=>#[]);letGo old.toList.reverse;Builtin.List.listExtendWith (.ref a) (.ref mp) .none) _ _ _
 refine jK ?_
 unfold Builtin.List.listItems
 refine jK (wpAny_seqItems (s:=⟨h1,g,d,t,os⟩) hS rfl (jO ?_))
 show jN _ _ (updateSeq a (fun _=>#[]) >>= fun _=>letGo (#[]:Array jL).toList.reverse >>= fun _=>Builtin.List.listExtendWith (.ref a) (.ref mp) .none) _ _ _
 refine jK (wpAny_updateSeq hS rfl ?_)
 have hS₂:=nZ (Obj.mapSeq (fun _=>(#[]:Array jL))) hS rfl
 have S2:St C B (h1.update a (Obj.mapSeq (fun _=>(#[]:Array jL)))) m ((a,lstO [] 0)::(it,oi)::M):=S1.chg (M₁:=[]) (M₂:=(it,oi)::M) (Heap.SameBut.update ..) (by rw[hS₂];rfl)
 generalize h1.update a (Obj.mapSeq (fun _=>(#[]:Array jL)))=h2 at S2⊢
 refine jK (wpAny_letGo ?_)
 have hA:=S2.m (a,lstO [] 0) (kZ ..)
 have hne:a≠mp:=fun q=>by have:=hA.2.2.2;rw[q,bm] at this;cases this
 have hmp:h2.get? mp=some (mpO tp b):=S2.b _ _ bm
 have hT:Shared.TypeIs ⟨h2,g,d,t,os⟩ (.ref mp) "map":=⟨_,hmp,rfl⟩
 unfold Builtin.List.listExtendWith
 refine jK (wpAny_typeOf (T:="map") hT ?_)
 have q1:Builtin.List.listSameRef (.ref a) (.ref mp)=false:=by simp[Builtin.List.listSameRef,hne]
 have q2:(Value.type "map"==Value.type "list")=false:=by decide
 have q3:(Value.type "map"==Value.type "tuple")=false:=by decide
 simp only[q1,q2,q3,Bool.or_false,oW,if_false]
 refine jK (mp_pyiter hmp ?_)
 refine jK (kB ?_)
 unfold Builtin.List.listLengthHint
 refine jK (wpAny_specialOf hT mp_nolen ?_)
 show jN _ _ (specialOf (Value.ref mp) (kY "__length_hint__") >>= _) _ _ _
 refine jK (wpAny_specialOf hT mp_nohint ?_)
 refine jO ?_
 show jN _ _ (rule "list.extend.makes-room" >>= fun _=>Builtin.List.listTouch (.ref a) >>= fun _=>again (.builtin "list.extend.loop" ⟨[.ref a,.ref mp,.none],[]⟩)) _ _ _
 refine jK (wpAny_rule ?_)
 refine jK ?_
 show jN _ _ (updateSeq a (·.push .none) >>= fun _=>updateSeq a (·.pop)) _ _ _
 refine jK (wpAny_updateSeq hA.1 rfl ?_)
 have u1:=nZ (Obj.mapSeq (·.push Value.none)) hA.1 rfl
 refine wpAny_updateSeq (hz:=by seq_fits) u1 rfl ?_
 have u2:=nZ (Obj.mapSeq (·.pop)) u1 rfl
 have oth:∀b o,b≠a→h2.get? b=some o→((h2.update a (Obj.mapSeq (·.push Value.none))).update a (Obj.mapSeq (·.pop))).get? b=some o:=
  fun b o hb e=>(qX _ _ (Ne.symm hb)).trans ((qX _ _ (Ne.symm hb)).trans e)
 obtain⟨cc,hcc⟩:∃cc,((h2.update a (Obj.mapSeq (·.push Value.none))).update a (Obj.mapSeq (·.pop))).get? a=some (lstO [] cc):=⟨_,u2⟩
 have S3:St C B ((h2.update a (Obj.mapSeq (·.push Value.none))).update a (Obj.mapSeq (·.pop))) m ((a,lstO [] cc)::(it,oi)::M):=S2.chgK (M₁:=[]) (M₂:=(it,oi)::M) oth hcc
 refine jO ⟨plainId_quiet PySem.F.plain_extend_loop _,?_⟩
 exact map_loop (hr.in1.le (by lia)) _ 0 _ _ _ B [] cc oi rfl (lC _) S3 ec ed G bm bt bb hl hv hn .nil fun h' d' t' B' acc' c' S' le r=>⟨rfl,k h' d' t' B' a acc' c' S' le r⟩
end
noncomputable def rowF (as bs:List Nat)(jk:Nat→Bool)(low left right I:Nat)(P:Nat→Prop)[DecidablePred P](j:Int):Nat:=
 if 0≤j∧left≤j.toNat∧j.toNat<right∧P j.toNat then bk (eqN as bs) (jkN as jk) low left I j.toNat else 0
noncomputable def prevF (as bs:List Nat)(jk:Nat→Bool)(low left right n:Nat)(j:Int):Nat:=if n=0 then 0 else rowF as bs jk low left right (low+n-1) (fun _=>True) j
noncomputable def psOf (bs:List Nat)(jk:Nat→Bool)(k:Nat):List Nat:=if k∈bs∧jk k=false then poss bs k else []
theorem iR {as bs:List Nat}{jk:Nat→Bool}{i j:Nat}(hj:j<bs.length):j∈psOf bs jk (as.getD i 0)↔eqN as bs i j=true∧jkN as jk i=false:=by
 unfold psOf eqN jkN
 by_cases h:as.getD i 0∈bs∧jk (as.getD i 0)=false
 ·rw[if_pos h,poss_mem]
  constructor
  ·rintro⟨_,e⟩;exact⟨decide_eq_true e.symm,h.2⟩
  ·rintro⟨e,_⟩;exact⟨hj,(of_decide_eq_true e).symm⟩
 ·rw[if_neg h]
  constructor
  ·intro x;cases x
  ·rintro⟨e,e2⟩
   refine absurd ⟨?_,e2⟩ h
   rw[of_decide_eq_true e,mR,mH hj]
   exact pO hj
theorem psOf_sorted (bs:List Nat)(jk:Nat→Bool)(k:Nat):(psOf bs jk k).Pairwise (· < ·):=by
 unfold psOf;split
 ·exact poss_sorted bs k
 ·exact .nil
theorem psOf_len (bs:List Nat)(jk:Nat→Bool)(k:Nat):(psOf bs jk k).length≤bs.length:=by
 unfold psOf;split
 ·unfold poss;exact lB (rF _ _) (by rw[oA];exact lE _)
 ·exact lC _
section
variable {as bs:List Nat}{jk:Nat→Bool}{low left right I:Nat}
theorem row_done {q:Nat}(hb:right≤bs.length)(hall:∀j∈psOf bs jk (as.getD I 0),j<right→j∈(psOf bs jk (as.getD I 0)).take q)(j:Int):
  rowF as bs jk low left right I (fun x=>x∈(psOf bs jk (as.getD I 0)).take q) j=rowF as bs jk low left right I (fun _=>True) j:=by
 unfold rowF
 by_cases h:0≤j∧left≤j.toNat∧j.toNat<right
 ·by_cases m:j.toNat∈(psOf bs jk (as.getD I 0)).take q
  ·rw[if_pos ⟨h.1,h.2.1,h.2.2,m⟩,if_pos ⟨h.1,h.2.1,h.2.2,trivial⟩]
  ·rw[if_neg fun x=>m x.2.2.2,if_pos ⟨h.1,h.2.1,h.2.2,trivial⟩]
   refine(bk_zero _ _ fun e=>m (hall _ ?_ h.2.2)).symm
   exact(iR (by lia)).2 e
 ·rw[if_neg fun x=>h (jH3 x.1 x.2.1 x.2.2.1),if_neg fun x=>h (jH3 x.1 x.2.1 x.2.2.1)]
theorem best_done {q:Nat}{b:Nat×Nat×Nat}(hb:right≤bs.length)(hall:∀j∈psOf bs jk (as.getD I 0),j<right→j∈(psOf bs jk (as.getD I 0)).take q)
  (x:bF (bk (eqN as bs) (jkN as jk) low left) (fun i j=>full low I left right i j∨(i=I∧left≤j∧j<right∧j∈(psOf bs jk (as.getD I 0)).take q)) low left b) (hI:low≤I):
  bF (bk (eqN as bs) (jkN as jk) low left) (fun i j=>full low (I+1) left right i j) low left b:=by
 refine x.more (fun i j d=>?_) (fun i j d=>?_)
 ·rcases d with d | ⟨rfl,d1,d2,_⟩
  ·unfold full at d⊢;exact jH3 d.1 (mZ d.2.1) d.2.2
  ·unfold full;exact⟨hI,nE _,d1,d2⟩
 ·by_cases h:i<I
  ·exact .inl (.inl (by unfold full at d⊢;exact jH3 d.1 h d.2.2))
  ·have e:i=I:=by unfold full at d;lia
   subst e
   by_cases m:j∈(psOf bs jk (as.getD i 0)).take q
   ·exact .inl (.inr (jH4 rfl (by unfold full at d;lia) (by unfold full at d;lia) m))
   ·refine .inr (bk_zero _ _ fun e=>m (hall _ ?_ (by unfold full at d;lia)))
    exact(iR (by unfold full at d;lia)).2 e
theorem prev_row {n j:Nat}(h1:left≤j)(h2:j<right)(e:eqN as bs (low+n) j=true∧jkN as jk (low+n)=false):prevF as bs jk low left right n ((j:Int)-1)+1=bk (eqN as bs) (jkN as jk) low left (low+n) j:=by
 rw[bk_pos _ _ (mQ _ _) h1 e]
 unfold prevF rowF
 congr 1
 by_cases hn:n=0
 ·rw[if_pos hn,if_neg (by lia)]
 ·rw[if_neg hn]
  by_cases hj:left<j
  ·have:((j:Int)-1).toNat=j-1:=Int.toNat_sub j 1
   rw[this,if_pos ⟨by lia,pJ hj,mM (mN _ _) h2,trivial⟩,if_pos ⟨by lia,hj⟩]
  ·rw[if_neg (by omega),if_neg (by lia)]
theorem row_set {ps:List Nat}{j:Nat}(h1:left≤j)(h2:j<right)(x:Int):(if x=(j:Int) then bk (eqN as bs) (jkN as jk) low left I j else rowF as bs jk low left right I (fun x=>x∈ps) x)=rowF as bs jk low left right I (fun x=>x∈ps++[j]) x:=by
 unfold rowF
 by_cases hx:x=(j:Int)
 ·subst hx
  have:((j:Int)).toNat=j:=by lia
  rw[if_pos rfl,this,if_pos ⟨by lia,h1,h2,by simp⟩]
 ·rw[if_neg hx]
  by_cases h:0≤x∧left≤x.toNat∧x.toNat<right∧x.toNat∈ps
  ·rw[if_pos h,if_pos ⟨h.1,h.2.1,h.2.2.1,mJ _ h.2.2.2⟩]
  ·rw[if_neg h,if_neg]
   refine jG4 ?_;intro a b c d
   rcases lQ.1 d with d | d
   ·exact h (jH4 a b c d)
   ·have:=lA.1 d;lia
theorem row_skip {ps:List Nat}{j:Nat}(h:j<left)(x:Int):rowF as bs jk low left right I (fun x=>x∈ps) x=rowF as bs jk low left right I (fun x=>x∈ps++[j]) x:=by
 unfold rowF
 by_cases h:0≤x∧left≤x.toNat∧x.toNat<right∧x.toNat∈ps
 ·rw[if_pos h,if_pos ⟨h.1,h.2.1,h.2.2.1,mJ _ h.2.2.2⟩]
 ·rw[if_neg h,if_neg]
  refine jG4 ?_;intro a b c d
  rcases lQ.1 d with d | d
  ·exact h (jH4 a b c d)
  ·have:=lA.1 d;lia
end
theorem take_lt {ps:List Nat}(hs:ps.Pairwise (· < ·)){q j:Nat}(hq:ps[q]? =some j):(∀x∈ps.take q,x<j)∧(∀x∈ps,x<j→x∈ps.take q):=by
 obtain⟨hl,e⟩:=nF.1 hq
 have split:ps=ps.take q++ps.drop q:=(List.take_append_drop q ps).symm
 have hd:ps.drop q=j::ps.drop (q+1):=by rw[List.drop_eq_getElem_cons hl,e]
 rw[hd] at split
 rw[split,qW] at hs
 refine⟨fun x hx=>hs.2.2 x hx j (kZ ..),fun x hx hlt=>?_⟩
 rw[split] at hx
 rcases lQ.1 hx with hx | hx
 ·exact hx
 ·rcases lH.1 hx with rfl | hx
  ·lia
  ·have:=(List.pairwise_cons.1 hs.2.1).1 x hx;lia
section
variable {w:jS}{A:jV}{s:jP}{mg mb:kJ→Option jL}{B:Base}
theorem c_flm {md:Bool}{x dx:jQ}{od:kK}{L:List (kJ×jL)}{va vb:jL}{as bs:List Nat}{db jb:jQ}{jk:Nat→Bool}{alo ahi blo bhi:Nat}{u1 u2 u3 u4:Tok}
  (hx:InsB B x dx) (hd:s.heap.get? dx=some od) (hdB:B dx=none) (ho:NsO od (vars L))
  (la:L.lookup (kY "a")=some va) (lb:L.lookup (kY "b")=some vb) (lj:L.lookup (kY "b2j")=some (.ref db)) (lk:L.lookup (kY "bjunk")=some (.ref jb))
  (sa:SeqV md B va as) (sb:SeqV md B vb bs) (hb2j:B2J w md B db bs jk) (hset:SetB w md B jb (fun k=>bs.contains k&&jk k))
  (h1:alo≤ahi) (h2:ahi≤as.length) (h3:blo≤bhi) (h4:bhi≤bs.length) (hs1:as.length≤100) (hs2:bs.length≤100)
  (G:Gr w mg mb B) (hB:∀a o,B a=some o→s.heap.get? a=some o) (hr:Room A 10):
  jN (jM PW w) A (call (.ref 196) [.ref x,.int alo u1,.int ahi u2,.int blo u3,.int bhi u4]) (Ends B s fun v B'=>∃a x1 x2 x3,v=.ref a∧let c:=bZ (eqN as bs) (jkN as jk) alo ahi blo bhi;MtO B' a [.int c.1 x1,.int c.2.1 x2,.int c.2.2 x3]) no s:=by
 refine' eP (o:=o_196 w.params) (binds:=[(kY "self",.ref x),(kY "alo",.int alo u1),(kY "ahi",.int ahi u2),(kY "blo",.int blo u3),(kY "bhi",.int bhi u4)]) G hB hr.d' ?ho ?hd ?hcd ?hb ?c1 ?c2 ?c3 ?c4 ?c5 ?_
 case ho=>exact rfl
 case hd=>exact rfl
 case hcd=>exact rfl
 case hb=>exact BindsTo.of_defaults rfl (hB _ _ (G.K 189 _ rfl)) rfl rfl rfl
 case c1=>decide
 case c2=>exact locs rfl
 case c3=>exact rfl
 case c4=>exact rfl
 case c5=>exact rfl
 intro C h t e1 e2 S e3 e4
 have hh:=hr.h
 generalize hEe:envX _ _ C.L _ _ []=env
 have hE:aP C env:=hEe▸⟨rfl,rfl,rfl,rfl⟩
 subst hEe
 change St C B h (vars [(kY "bhi",.int bhi u4),(kY "blo",.int blo u3),(kY "ahi",.int ahi u2),(kY "alo",.int alo u1),(kY "self",.ref x)]) [] at S
 clear hB;injection hx hd hdB ho la lb lj lk sa sb hb2j hset h1 h2 h3 h4 hs1 hs2 G hr e1 e2 e3 e4 hh hE S with w A s mg mb B md x dx od L va vb as bs db jb jk alo ahi blo bhi u1 u2 u3 u4 C h t
 have hdC:C.D dx∧C.H dx=some od:=⟨e4.1 _ (e2▸lM hd),by rw[e3];exact hd⟩
 have hdn:∀{B' h m M},St C B' h m M→B' dx=none:=fun {B' h m M} S=>by
  cases q:B' dx with
  | none=>rfl
  | some o=>have:=S.new dx o q (e2▸lM hd);rw[e1,hdB] at this;cases this
 refine aZ (bW ?_);intro _ _
 refine fB (bM (aB (cX (aA S hE (by exact rfl) ?_))))
 refine iL S G hx (S.fr _ _ hdC.1 hdC.2) (hdn S) ho ob_a (sm_a _) (cI _) la (fC sa) ?_;intro _
 refine aB (cX (aA S hE (by exact rfl) ?_))
 refine iL S G hx (S.fr _ _ hdC.1 hdC.2) (hdn S) ho ob_b (sm_b _) (cI _) lb (fC sb) ?_;intro _
 refine aB (cX (aA S hE (by exact rfl) ?_))
 refine iL S G hx (S.fr _ _ hdC.1 hdC.2) (hdn S) ho ob_b2j (sm_b2j _) (cI _) lj rfl ?_;intro _
 refine aB (cX (cX (aA S hE (by exact rfl) ?_)))
 refine iL S G hx (S.fr _ _ hdC.1 hdC.2) (hdn S) ho ob_bjunk (sm_bjunk _) (cI _) lk rfl ?_;intro _
 refine a_scon S hset ?_;clear S;intro h t jc B' le hjc S
 replace hx:=hx.le le
 replace G:=G.le le
 replace sa:=sa.le le
 replace sb:=sb.le le
 replace hb2j:=hb2j.le le
 replace hset:=hset.le le
 refine aC (bL S (lF rfl) ?_);clear S;intro h a1 B' le t1 S
 replace hx:=hx.le le
 replace hjc:=le _ _ hjc
 replace G:=G.le le
 replace sa:=sa.le le
 replace sb:=sb.le le
 replace hb2j:=hb2j.le le
 replace hset:=hset.le le
 refine fF S t1 hh ?_;clear S;intro h S
 refine aL (aK (aD S hE ?_));clear S;intro h t S
 refine aL (aK (aD S hE ?_));clear S;intro h t S
 refine aL (aK (aD S hE ?_));clear S;intro h t S
 refine aL (aK (aD S hE ?_));clear S;intro h t S
 refine cK (bH false ?_ (fun c=>nomatch c) (fun c t=>?_))
 ·refine aQ (aA S hE (by exact rfl) ?_)
  refine dJ (is_int_none (aI ?_))
  exact pu rfl
 refine aJ (bH false ?_ (fun c=>nomatch c) (fun c t=>?_))
 ·refine aQ (aA S hE (by exact rfl) ?_)
  refine dJ (is_int_none (aI ?_))
  exact pu rfl
 refine aJ (eC [kY "besti",kY "bestj",kY "bestsize"] ?_)
 refine bM (aB (aA S hE (by exact rfl) ?_))
 refine aB (aA S hE (by exact rfl) ?_)
 refine aB (aF ?_);intro uu1 _
 refine aC (bL S (lF rfl) ?_);clear S;intro h aa2 B' le t2 S
 replace G:=G.le le
 replace sa:=sa.le le
 replace sb:=sb.le le
 replace hb2j:=hb2j.le le
 replace hset:=hset.le le
 refine unpk S t2 hh rfl ?_;clear S;intro h S
 refine aL (bnd (aD S hE ?_));clear S;intro h t S
 refine aL (bnd (aD S hE ?_));clear S;intro h t S
 refine aL (bnd (aD S hE ?_));clear S;intro h t S
 refine cK ?_
 replace hx:=hx.le le
 replace hjc:=le _ _ hjc
 refine aY (e_dict0 S G ?_);clear S;intro h dj hdj S
 refine aD S hE ?_;clear S;intro h t S
 refine aY (bA (aC (cD S (lC _) ?_)));clear S;intro h nl B' le tnl S
 replace hx:=hx.le le
 replace hjc:=le _ _ hjc
 replace G:=G.le le
 replace sa:=sa.le le
 replace sb:=sb.le le
 replace hb2j:=hb2j.le le
 replace hset:=hset.le le
 replace t2:=t2.le le
 refine aD S hE ?_;clear S;intro h t S
 replace S:=S.few (.cons (x:=kY "nothing") rfl (.cons (x:=kY "j2len") rfl (.cons (x:=kY "bestsize") rfl (.cons (x:=kY "bestj") rfl (.cons (x:=kY "besti") rfl (.cons (x:=kY "isbjunk") rfl (.cons (x:=kY "b2j") rfl (.cons (x:=kY "b") rfl (.cons (x:=kY "a") rfl (.cons (x:=kY "bhi") rfl (.cons (x:=kY "blo") rfl (.cons (x:=kY "ahi") rfl (.cons (x:=kY "alo") rfl (.cons (x:=kY "self") rfl (.nil)))))))))))))))
 refine eD (aR (cM (v:=.type "range") S hE G (dW _) rfl ?_))
 refine dX (aB (aA S hE (by exact rfl) ?_))
 refine aB (aA S hE (by exact rfl) ?_)
 refine aC (n_rng2 S ?_);clear S;intro h t rr3 B' le tr S
 replace G:=G.le le
 replace sa:=sa.le le
 replace sb:=sb.le le
 replace hb2j:=hb2j.le le
 replace hset:=hset.le le
 replace tnl:=tnl.le le
 replace hx:=hx.le le
 replace hjc:=le _ _ hjc
 refine eW S tr (by unfold Sm;lia) (by unfold Sm;lia) hh (fun n B' m' M'=>∃dj oj kvs bb x1 x2 x3,M'=[]++(dj,oj)::[]∧m'=vars [(kY "nothing",.ref nl),(kY "j2len",.ref dj),(kY "bestsize",.int (bK bb).2.2 x3),(kY "bestj",.int (bK bb).2.1 x2),(kY "besti",.int (bK bb).1 x1),(kY "isbjunk",.ref jc),(kY "b2j",.ref db),(kY "b",vb),(kY "a",va),(kY "bhi",.int bhi u4),(kY "blo",.int blo u3),(kY "ahi",.int ahi u2),(kY "alo",.int alo u1),(kY "self",.ref x)]∧oj.IsDictOf (intKind PW w) kvs∧DR kvs (prevF as bs jk alo blo bhi n)∧kvs.length≤1000∧(dj==sysModules)=false∧bF (bk (eqN as bs) (jkN as jk) alo blo) (fun i j=>full alo (alo+n) blo bhi i j) alo blo bb) ?_ ?_ ?_
 case refine_1=>exact jJ7 dj eA [] (alo,blo,0) _ _ _ (jH7 rfl rfl (jC _) DR.nil (lC _) hdj ⟨fun _=>⟨rfl,rfl⟩,fun e=>absurd rfl e,fun i j d=>by unfold full at d;lia,fun i j d=>by unfold full at d;lia⟩)
 case refine_2=>
  intro n u C' B' h m' M' d t hi;refine jI7 ?_;intro dj oj kvs bb x1 x2 x3;refine jG7 ?_;intro zz1 zz2 hoj hdr hkl hdj hbest;obtain rfl:=zz1;obtain rfl:=zz2;intro S;rintro⟨eL,eB⟩;intro le
  rename_i yy0 yy1 _ _ _ _ _ _ _ _ _ _ _ _ _ _ _ yy2 _ _ _ _ _ _ _ _ _ _ _ _ _ yy3 yy4 _ _ _ _ yy5 yy6 yy7;clear yy7 yy6 yy4 yy2 yy1;clear t1 t2 tr hkl eB;injection G sa sb hb2j hset tnl hx hjc hi hoj hdr hdj hbest S eL le with jc a1 yy0 uu1 aa2 nl yy3 rr3 yy5 n u C' B' h d t dj oj kvs bb x1 x2 x3
  have hE':aP C' _:=⟨hE.k,hE.l.trans eL.symm,hE.g,hE.b⟩
  replace hx:=hx.le le
  replace hjc:=le _ _ hjc
  replace G:=G.le le
  replace sa:=sa.le le
  replace sb:=sb.le le
  replace hb2j:=hb2j.le le
  replace hset:=hset.le le
  replace tnl:=tnl.le le
  refine aK (aD S hE' ?_);clear S;intro h t S
  refine aY (cX (aA S hE' (by exact rfl) ?_))
  refine a_dget S (kZ ..) hoj ?_;clear S;intro h t jg B' le hjg S
  replace hx:=hx.le le
  replace hjc:=le _ _ hjc
  replace G:=G.le le
  replace sa:=sa.le le
  replace sb:=sb.le le
  replace hb2j:=hb2j.le le
  replace hset:=hset.le le
  replace tnl:=tnl.le le
  refine aD S hE' ?_;clear S;intro h t S
  refine aY (e_dict0 S G ?_);clear S;intro h nd hnd S
  refine aD S hE' ?_;clear S;intro h t S
  refine eD (aU (aA S hE' (by exact rfl) ?_))
  refine jI1 ?_ (id hb2j);intro kb;refine jG2 ?_;intro hkb hk
  refine gm_dget S hkb ?_
  refine dI (aB (bJ (aA S hE' (by exact rfl) ?_)))
  refine aA S hE' (by exact rfl) ?_
  refine eH (alo+n) S sa (by lia) (by lia) (by lia) ?_;intro xv _ hxv
  refine aB (aA S hE' (by exact rfl) ?_)
  refine aC (d_get3 (dflt:=.ref nl) S hkb (hO hxv) ?_);intro _
  have hlist:∃l vs,(valueAt kb (as.getD (alo+n) 0)).getD (.ref nl)=.ref l∧Lst B' l vs∧F2 NV vs (psOf bs jk (as.getD (alo+n) 0)):=by
   unfold psOf
   by_cases q:as.getD (alo+n) 0∈bs∧jk (as.getD (alo+n) 0)=false
   ·refine jI2 ?_ ((hk _).1 q);intro l vs;refine jG3 ?_;intro e hl hv
    rw[e,if_pos q];exact jJ2 l vs (jH3 rfl hl hv)
   ·rw[(hk _).2 q,if_neg q];exact jJ2 nl [] (jH3 rfl tnl .nil)
  refine jI2 ?_ hlist;try clear hlist;intro l vs;refine jG3 ?_;intro el hl hv
  rw[el]
  have hps:=psOf_sorted bs jk (as.getD (alo+n) 0)
  have hpl:=psOf_len bs jk (as.getD (alo+n) 0)
  have hpm:=fun j hj=>@iR as bs jk (alo+n) j hj
  have hin:∀j∈psOf bs jk (as.getD (alo+n) 0),j<bs.length:=fun j hj=>by
   unfold psOf at hj
   split at hj
   ·exact(poss_mem.1 hj).1
   ·cases hj
  generalize hpse:psOf bs jk (as.getD (alo+n) 0)=ps at hv hps hpl hpm hin
  replace S:=S.few (.cons (x:=kY "newj2len") rfl (.cons (x:=kY "j2lenget") rfl (.cons (x:=kY "i") rfl (.cons (x:=kY "nothing") rfl (.cons (x:=kY "j2len") rfl (.cons (x:=kY "bestsize") rfl (.cons (x:=kY "bestj") rfl (.cons (x:=kY "besti") rfl (.cons (x:=kY "isbjunk") rfl (.cons (x:=kY "b2j") rfl (.cons (x:=kY "b") rfl (.cons (x:=kY "a") rfl (.cons (x:=kY "bhi") rfl (.cons (x:=kY "blo") rfl (.cons (x:=kY "ahi") rfl (.cons (x:=kY "alo") rfl (.cons (x:=kY "self") rfl (.nil))))))))))))))))))
  have hvl:=hv.length
  refine iX S hl hh (fun q B' m' M'=>∃on kn bb x1 x2 x3,M'=[]++(nd,on)::[(dj,oj)]∧m'=vars [(kY "newj2len",.ref nd),(kY "j2lenget",.ref jg),(kY "i",.int (alo+n) u),(kY "nothing",.ref nl),(kY "j2len",.ref dj),(kY "bestsize",.int (bK bb).2.2 x3),(kY "bestj",.int (bK bb).2.1 x2),(kY "besti",.int (bK bb).1 x1),(kY "isbjunk",.ref jc),(kY "b2j",.ref db),(kY "b",vb),(kY "a",va),(kY "bhi",.int bhi u4),(kY "blo",.int blo u3),(kY "ahi",.int ahi u2),(kY "alo",.int alo u1),(kY "self",.ref x)]∧on.IsDictOf (intKind PW w) kn∧DR kn (rowF as bs jk alo blo bhi (alo+n) (fun j=>j∈ps.take q))∧kn.length≤q∧bF (bk (eqN as bs) (jkN as jk) alo blo) (fun i j=>full alo (alo+n) blo bhi i j∨(i=alo+n∧blo≤j∧j<bhi∧j∈ps.take q)) alo blo bb)
   (fun B' m' M'=>∃on kn bb x1 x2 x3,M'=[]++(nd,on)::[(dj,oj)]∧m'=vars [(kY "newj2len",.ref nd),(kY "j2lenget",.ref jg),(kY "i",.int (alo+n) u),(kY "nothing",.ref nl),(kY "j2len",.ref dj),(kY "bestsize",.int (bK bb).2.2 x3),(kY "bestj",.int (bK bb).2.1 x2),(kY "besti",.int (bK bb).1 x1),(kY "isbjunk",.ref jc),(kY "b2j",.ref db),(kY "b",vb),(kY "a",va),(kY "bhi",.int bhi u4),(kY "blo",.int blo u3),(kY "ahi",.int ahi u2),(kY "alo",.int alo u1),(kY "self",.ref x)]∧on.IsDictOf (intKind PW w) kn∧DR kn (rowF as bs jk alo blo bhi (alo+n) (fun _=>True))∧kn.length≤1000∧bF (bk (eqN as bs) (jkN as jk) alo blo) (fun i j=>full alo (alo+n+1) blo bhi i j) alo blo bb)
   (fun _ _ _ _=>False) ?_ ?_ ?_ ?_
  ·refine jJ6 eA [] bb x1 x2 x3 (jH6 rfl rfl (jC _) ?_ (lE _) ?_)
   ·refine DR.nil.congr fun j=>?_
    unfold rowF
    rw[if_neg]
    refine jG4 ?_;intro _ _ _ h;cases h
   ·refine hbest.congr fun i j=>?_
    constructor
    ·rintro (h | ⟨_,_,_,h⟩)
     ·exact h
     ·cases h
    ·exact .inl
  ·intro q v C2 B' h m' M' d t hq;refine jI6 ?_;intro on kn bb x1 x2 x3;refine jG6 ?_;intro zz3 zz4 hon hkn hknl hbest;obtain rfl:=zz3;obtain rfl:=zz4;intro S;rintro⟨eL2,eB2⟩;intro le
   rename_i yy0 yy1 _ _ _ _ _ _ _ yy2;clear yy2 yy1;clear hnd hkb hk hxv el hl hvl eB2;injection hjg hx hjc G sa sb hb2j hset tnl hpse hv hps hpl hpm hin hq hon hkn hknl hbest S eL2 le with jg yy0 nd kb xv l vs ps q v C2 B' h d t on kn bb x1 x2 x3
   have hE2:aP C2 _:=⟨hE'.k,hE'.l.trans eL2.symm,hE'.g,hE'.b⟩
   replace hx:=hx.le le
   replace hjc:=le _ _ hjc
   replace hjg:=le _ _ hjg
   replace G:=G.le le
   replace sa:=sa.le le
   replace sb:=sb.le le
   replace hb2j:=hb2j.le le
   replace hset:=hset.le le
   replace tnl:=tnl.le le
   refine jI1 ?_ (hv.get hq);intro jn;refine jG2 ?_;intro hjq;refine jI1 ?_;intro tj;intro zz5;obtain rfl:=zz5
   have htk:=take_lt hps hjq
   have hjm:jn∈ps:=qB hjq
   have hjb:=hin jn hjm
   have hte:ps.take (q+1)=ps.take q++[jn]:=by rw[nH,hjq];rfl
   have hql:q<ps.length:=(nF.1 hjq).1
   refine aK (aD S hE2 ?_);clear S;intro h t S
   refine bH (decide (jn<blo)) ?_ (fun c t=>?_) (fun c t=>?_)
   ·skip
    refine aQ (aA S hE2 (by exact rfl) ?_)
    refine aA S hE2 (by exact rfl) ?_
    refine eX (aI ?_)
    exact pu (by first | exact decide_eq_decide.2 (mS) | rfl | (rw[lI];simp only[beq_iff_eq,decide_eq_true_eq];lia))
   ·have c:=of_decide_eq_true c
    refine x_cont ?_
    replace S:=S.few (.cons (x:=kY "newj2len") rfl (.cons (x:=kY "j2lenget") rfl (.cons (x:=kY "i") rfl (.cons (x:=kY "nothing") rfl (.cons (x:=kY "j2len") rfl (.cons (x:=kY "bestsize") rfl (.cons (x:=kY "bestj") rfl (.cons (x:=kY "besti") rfl (.cons (x:=kY "isbjunk") rfl (.cons (x:=kY "b2j") rfl (.cons (x:=kY "b") rfl (.cons (x:=kY "a") rfl (.cons (x:=kY "bhi") rfl (.cons (x:=kY "blo") rfl (.cons (x:=kY "ahi") rfl (.cons (x:=kY "alo") rfl (.cons (x:=kY "self") rfl (.nil))))))))))))))))))
    exact jJ6 _ _ _ _ _ _ (jH3 rfl S (jJ6 on kn bb x1 x2 x3 (jH6 rfl rfl hon (by rw[hte];exact hkn.congr fun x=>row_skip c x) (by lia) (hbest.congr fun i j=>by
     rw[hte];simp only[lQ,lA];constructor
     ·rintro (h | ⟨a1,a2,a3,h | h⟩)
      ·exact .inl h
      ·exact .inr (jH4 a1 a2 a3 h)
      ·lia
     ·rintro (h | ⟨a1,a2,a3,h⟩)
      ·exact .inl h
      ·exact .inr (jH4 a1 a2 a3 (.inl h))))))
   have c1:=of_decide_eq_false c
   refine aJ (bH (decide (bhi≤jn)) ?_ (fun c t=>?_) (fun c t=>?_))
   ·skip
    refine aQ (aA S hE2 (by exact rfl) ?_)
    refine aA S hE2 (by exact rfl) ?_
    refine c_ge (aI ?_)
    exact pu (by first | exact decide_eq_decide.2 (Int.ofNat_le) | rfl | (rw[lI];simp only[beq_iff_eq,decide_eq_true_eq];lia))
   ·have c:=of_decide_eq_true c
    refine x_brk ?_
    replace S:=S.few (.cons (x:=kY "newj2len") rfl (.cons (x:=kY "j2lenget") rfl (.cons (x:=kY "i") rfl (.cons (x:=kY "nothing") rfl (.cons (x:=kY "j2len") rfl (.cons (x:=kY "bestsize") rfl (.cons (x:=kY "bestj") rfl (.cons (x:=kY "besti") rfl (.cons (x:=kY "isbjunk") rfl (.cons (x:=kY "b2j") rfl (.cons (x:=kY "b") rfl (.cons (x:=kY "a") rfl (.cons (x:=kY "bhi") rfl (.cons (x:=kY "blo") rfl (.cons (x:=kY "ahi") rfl (.cons (x:=kY "alo") rfl (.cons (x:=kY "self") rfl (.nil))))))))))))))))))
    have hall:∀j∈psOf bs jk (as.getD (alo+n) 0),j<bhi→j∈(psOf bs jk (as.getD (alo+n) 0)).take q:=by rw[hpse];exact fun j hj hlt=>htk.2 j hj (by lia)
    exact jJ6 _ _ _ _ _ _ (jH3 rfl S (jJ6 on kn bb x1 x2 x3 (jH6 rfl rfl hon (hkn.congr fun x=>by have:=row_done (low:=alo) (left:=blo) h4 hall x;rw[hpse] at this;exact this) (by lia) (by
     have:=best_done (low:=alo) (left:=blo) (right:=bhi) (b:=bb) h4 hall (by rw[hpse];exact hbest) (mQ _ _);exact this))))
   have c2:=of_decide_eq_false c
   refine aJ ?_
   have hj1:blo≤jn:=by lia
   have hj2:jn<bhi:=by lia
   have hej:=(hpm jn hjb).1 hjm
   have hbk:=bk_pos (eqN as bs) (jkN as jk) (low:=alo) (left:=blo) (mQ alo n) hj1 hej
   have hbl:=bk_le (eqN as bs) (jkN as jk) (low:=alo) (left:=blo) (i:=alo+n) (j:=jn)
   have hprev:=prev_row (left:=blo) (right:=bhi) hj1 hj2 hej
   refine fQ (aG (aR (aA S hE2 (by exact rfl) ?_)))
   refine f_bm hjg ?_
   refine aB (aG (aA S hE2 (by exact rfl) ?_))
   refine aF ?_;intro uu4 _
   refine dP ?_;intro uu5 _
   refine aB (aF ?_);intro u0 _
   refine aC ?_
   refine⟨S.b _ _ hjg,d_getb S hjg (lX _ (kZ ..)) hoj (intKind_is PW w _ _) hdj ?_⟩
   intro _
   obtain⟨u9,e9⟩:=hdr.get ((jn:Int)-1) u0
   rw[e9]
   refine aF ?_;intro _ _
   refine aX ?_;intro u10 _
   rw[show((prevF as bs jk alo blo bhi n ((jn:Int)-1):Nat):Int)+1=((bk (eqN as bs) (jkN as jk) alo blo (alo+n) jn:Nat):Int) by rw[←hprev];lia]
   generalize hkk:bk (eqN as bs) (jkN as jk) alo blo (alo+n) jn=kk at *
   refine aK (aD S hE2 ?_);clear S;intro h t S
   refine g_subs (aA S hE2 (by exact rfl) ?_)
   refine aA S hE2 (by exact rfl) ?_
   refine d_set (knd:=intKind PW w) (k:=(jn:Int)) S hon (intKind_is PW w _ _) (lB (m:=1000) (by lia) (by decide)) ?_;clear S;intro h t on hon S
   have hkn':=hkn.set (jn:Int) kk u10 (fun q=>pP _ (hbk.symm.trans q))
   have hrow:=fun x=>@row_set as bs jk alo blo bhi (alo+n) (ps.take q) jn hj1 hj2 x
   rw[hkk] at hrow
   have hknl':=stored_length_le kn (jn:Int) (.int (kk:Nat) u10)
   have hstep:=hbest.step (i:=alo+n) (j:=jn) (D':=fun i j=>full alo (alo+n) blo bhi i j∨(i=alo+n∧blo≤j∧j<bhi∧j∈ps.take (q+1))) (fun i' j'=>by
     rw[hte];simp only[lQ,lA];constructor
     ·rintro (h | ⟨a1,a2,a3,h | h⟩)
      ·exact .inl (.inl h)
      ·exact .inl (.inr (jH4 a1 a2 a3 h))
      ·exact .inr ⟨a1,h⟩
     ·rintro ((h | ⟨a1,a2,a3,h⟩) | ⟨rfl,rfl⟩)
      ·exact .inl h
      ·exact .inr (jH4 a1 a2 a3 (.inl h))
      ·exact .inr (jH4 rfl hj1 hj2 (.inr rfl))) (fun i' j' d=>by
     rcases d with d | ⟨a1,a2,a3,h⟩
     ·unfold full at d;lia
     ·have:=htk.1 j' h;lia)
   rw[hkk] at hstep
   have hts:(bK bb).2.2=bb.2.2:=by unfold bK;split<;>rfl
   refine bH (decide (kk>bb.2.2)) ?_ (fun c t=>?_) (fun c t=>?_)
   ·refine aQ (aA S hE2 (by exact rfl) ?_)
    refine aA S hE2 (by exact rfl) ?_
    refine c_gt (aI ?_)
    exact pu (by rw[hts];exact decide_eq_decide.2 (mS))
   ·have c:=of_decide_eq_true c
    refine eC [kY "besti",kY "bestj",kY "bestsize"] ?_
    refine bM (aB (aG (aG (aA S hE2 (by exact rfl) ?_))))
    refine aA S hE2 (by exact rfl) ?_
    refine dP ?_;intro uu6 _
    refine aF ?_;intro uu7 _
    refine aX ?_;intro uu8 _
    refine aB (aG (aG (aA S hE2 (by exact rfl) ?_)))
    refine aA S hE2 (by exact rfl) ?_
    refine dP ?_;intro uu9 _
    refine aF ?_;intro uu10 _
    refine aX ?_;intro uu11 _
    refine aB (aA S hE2 (by exact rfl) ?_)
    refine aC (bL S (lF rfl) ?_);clear S;intro h aa12 B' le t6 S
    replace G:=G.le le
    replace sa:=sa.le le
    replace sb:=sb.le le
    replace hb2j:=hb2j.le le
    replace hset:=hset.le le
    replace tnl:=tnl.le le
    refine unpk S t6 hh rfl ?_;clear S;intro h S
    refine aL (bnd (aD S hE2 ?_));clear S;intro h t S
    refine aL (bnd (aD S hE2 ?_));clear S;intro h t S
    refine aL (bnd (aD S hE2 ?_));clear S;intro h t S
    refine cK (aJ (aJ ?_))
    replace S:=S.few (.cons (x:=kY "newj2len") rfl (.cons (x:=kY "j2lenget") rfl (.cons (x:=kY "i") rfl (.cons (x:=kY "nothing") rfl (.cons (x:=kY "j2len") rfl (.cons (x:=kY "bestsize") rfl (.cons (x:=kY "bestj") rfl (.cons (x:=kY "besti") rfl (.cons (x:=kY "isbjunk") rfl (.cons (x:=kY "b2j") rfl (.cons (x:=kY "b") rfl (.cons (x:=kY "a") rfl (.cons (x:=kY "bhi") rfl (.cons (x:=kY "blo") rfl (.cons (x:=kY "ahi") rfl (.cons (x:=kY "alo") rfl (.cons (x:=kY "self") rfl (.nil))))))))))))))))))
    rw[if_pos c] at hstep
    have hn0:kk≠0:=by lia
    have hst:bK (alo+n,jn,kk)=(alo+n+1-kk,jn+1-kk,kk):=by unfold bK;exact if_neg hn0
    have e1:((bK (alo+n,jn,kk)).1:Int)=(alo:Int)+n-kk+1:=by rw[hst];dsimp only;exact ar_10 (a:=alo+n) (hbl.resolve_left hn0).1
    have e2:((bK (alo+n,jn,kk)).2.1:Int)=(jn:Int)-kk+1:=by rw[hst];dsimp only;exact ar_10 (hbl.resolve_left hn0).2
    have e3:((bK (alo+n,jn,kk)).2.2:Int)=(kk:Int):=by rw[hst]
    rw[←e1,←e2,←e3] at S
    exact jJ6 _ _ _ _ _ _ (jH3 rfl S (jJ6 on _ (alo+n,jn,kk) _ _ _ (jH6 rfl rfl hon (by rw[hte];exact hkn'.congr hrow) (by lia) hstep)))
   ·have c:=of_decide_eq_false c
    refine aJ (aJ ?_)
    replace S:=S.few (.cons (x:=kY "newj2len") rfl (.cons (x:=kY "j2lenget") rfl (.cons (x:=kY "i") rfl (.cons (x:=kY "nothing") rfl (.cons (x:=kY "j2len") rfl (.cons (x:=kY "bestsize") rfl (.cons (x:=kY "bestj") rfl (.cons (x:=kY "besti") rfl (.cons (x:=kY "isbjunk") rfl (.cons (x:=kY "b2j") rfl (.cons (x:=kY "b") rfl (.cons (x:=kY "a") rfl (.cons (x:=kY "bhi") rfl (.cons (x:=kY "blo") rfl (.cons (x:=kY "ahi") rfl (.cons (x:=kY "alo") rfl (.cons (x:=kY "self") rfl (.nil))))))))))))))))))
    rw[if_neg c] at hstep
    exact jJ6 _ _ _ _ _ _ (jH3 rfl S (jJ6 on _ bb x1 x2 x3 (jH6 rfl rfl hon (by rw[hte];exact hkn'.congr hrow) (by lia) hstep)))
  ·rintro h d t B' m' M' S hJ
   rename_i yy0 _ _ _ _ _ _ _ yy1;clear yy1;clear le hjg hx hjc G sa sb hb2j hset tnl hkb hk hxv el hl hv hps hpm hin;injection hnd hpse hpl hvl S hJ with jg yy0 nd kb xv l vs ps h d t B' m' M'
   have hK:∃on kn bb x1 x2 x3,M'=[]++(nd,on)::[(dj,oj)]∧m'=vars [(kY "newj2len",.ref nd),(kY "j2lenget",.ref jg),(kY "i",.int (alo+n) u),(kY "nothing",.ref nl),(kY "j2len",.ref dj),(kY "bestsize",.int (bK bb).2.2 x3),(kY "bestj",.int (bK bb).2.1 x2),(kY "besti",.int (bK bb).1 x1),(kY "isbjunk",.ref jc),(kY "b2j",.ref db),(kY "b",vb),(kY "a",va),(kY "bhi",.int bhi u4),(kY "blo",.int blo u3),(kY "ahi",.int ahi u2),(kY "alo",.int alo u1),(kY "self",.ref x)]∧on.IsDictOf (intKind PW w) kn∧DR kn (rowF as bs jk alo blo bhi (alo+n) (fun _=>True))∧kn.length≤1000∧bF (bk (eqN as bs) (jkN as jk) alo blo) (fun i j=>full alo (alo+n+1) blo bhi i j) alo blo bb:=by
    rcases hJ with ⟨on,kn,bb,x1,x2,x3,e1,e2,hon,hkn,hknl,hbest⟩ | hK
    ·rw[hvl,oH] at hkn hbest
     have hall:∀j∈psOf bs jk (as.getD (alo+n) 0),j<bhi→j∈(psOf bs jk (as.getD (alo+n) 0)).take ps.length:=by rw[hpse,oH];exact fun j hj _=>hj
     refine jJ6 on kn bb x1 x2 x3 (jH6 e1 e2 hon ?_ (by lia) ?_)
     ·refine hkn.congr fun x=>?_
      have:=row_done (low:=alo) (left:=blo) h4 hall x
      rw[hpse,oH] at this
      exact this
     ·exact best_done (low:=alo) (left:=blo) (right:=bhi) (b:=bb) h4 hall (by rw[hpse,oH];exact hbest) (mQ _ _)
    ·exact hK
   refine jI6 ?_ hK;try clear hK;intro on kn bb x1 x2 x3;refine jG6 ?_;intro zz6 zz7 hon hkn hknl hbest;obtain rfl:=zz6;obtain rfl:=zz7
   refine aY (aA S hE' (by exact rfl) ?_)
   refine aD S hE' ?_;clear S;intro h t S
   refine aJ ?_
   replace S:=S.few (.cons (x:=kY "nothing") rfl (.cons (x:=kY "j2len") rfl (.cons (x:=kY "bestsize") rfl (.cons (x:=kY "bestj") rfl (.cons (x:=kY "besti") rfl (.cons (x:=kY "isbjunk") rfl (.cons (x:=kY "b2j") rfl (.cons (x:=kY "b") rfl (.cons (x:=kY "a") rfl (.cons (x:=kY "bhi") rfl (.cons (x:=kY "blo") rfl (.cons (x:=kY "ahi") rfl (.cons (x:=kY "alo") rfl (.cons (x:=kY "self") rfl (.nil)))))))))))))))
   have S:=S.drop (M':=[]++(nd,on)::[]) (List.Sublist.cons_cons _ (List.nil_sublist _))
   exact jJ6 _ _ _ _ _ _ (jH3 rfl S (jJ7 nd on kn bb x1 x2 x3 (jH7 rfl rfl hon (hkn.congr fun x=>by unfold prevF;rw[if_neg (pP n)];rfl) hknl hnd hbest)))
  ·intro _ _ _ _ _ _ _ _ x;exact x.elim
 case refine_3=>
  intro h d t B' m' M' S le;refine jI7 ?_;intro dj oj kvs bb x1 x2 x3;refine jG7 ?_;intro zz8 zz9 hoj hdr hkl hdj hbest;obtain rfl:=zz8;obtain rfl:=zz9
  rename_i yy0 yy1 _ _ _ _ _ _ _ _ _ _ _ _ _ _ _ yy2 _ _ _ _ _ _ _ _ _ _ _ _ _ yy3 yy4 _ _ _ _ yy5 yy6 yy7;clear yy7 yy6 yy4 yy2 yy1;clear t1 t2 tr hb2j tnl hoj hdr hkl hdj;injection G sa sb hset hx hjc le hbest S with jc a1 yy0 uu1 aa2 nl yy3 rr3 yy5 h d t B' dj oj kvs bb x1 x2 x3
  replace hx:=hx.le le
  replace hjc:=le _ _ hjc
  replace G:=G.le le
  replace sa:=sa.le le
  replace sb:=sb.le le
  replace hset:=hset.le le
  have S:=S.drop (M':=[]) (List.nil_sublist _)
  have hbest:=best_ends (eqN as bs) (jkN as jk) (high:=ahi) (hbest.congr (D':=full alo ahi blo bhi) fun i' j'=>by unfold full;exact ar_16)
  have hbb:=best_eq hbest
  generalize bK bb=cc at S hbest hbb
  obtain⟨bi,bj,bk0⟩:=cc
  dsimp only at S
  have hblk:bZ (eqN as bs) (jkN as jk) alo ahi blo bhi=(bi-grow (bP (eqN as bs) (jkN as jk) alo blo bi bj) bi 0,bj-grow (bP (eqN as bs) (jkN as jk) alo blo bi bj) bi 0,grow (fwdP (eqN as bs) (jkN as jk) ahi bhi (bi-grow (bP (eqN as bs) (jkN as jk) alo blo bi bj) bi 0) (bj-grow (bP (eqN as bs) (jkN as jk) alo blo bi bj) bi 0)) ahi (bk0+grow (bP (eqN as bs) (jkN as jk) alo blo bi bj) bi 0)):=by unfold bZ;rw[hbb]
  have hin':=best_in (eqN as bs) (jkN as jk) h1 h3
  rw[hbb] at hin'
  dsimp only at hin'
  replace S:=S.few (.cons (x:=kY "bestsize") rfl (.cons (x:=kY "bestj") rfl (.cons (x:=kY "besti") rfl (.cons (x:=kY "isbjunk") rfl (.cons (x:=kY "b") rfl (.cons (x:=kY "a") rfl (.cons (x:=kY "bhi") rfl (.cons (x:=kY "blo") rfl (.cons (x:=kY "ahi") rfl (.cons (x:=kY "alo") rfl (.nil)))))))))))
  refine x_wh0 (decide (alo<bi)&&(decide (blo<bj)&&(!(bs.contains (bs.getD (bj-1) 0)&&jk (bs.getD (bj-1) 0))&&(eqN as bs (bi-1) (bj-1)&&true)))) ?_ (fun d t=>?_) (fun d t=>?_)
  ·cases q:(decide (alo<bi)&&(decide (blo<bj)&&(!(bs.contains (bs.getD (bj-1) 0)&&jk (bs.getD (bj-1) 0))&&(eqN as bs (bi-1) (bj-1)&&true)))) with
   | false=>rfl
   | true=>
    simp only[oX,decide_eq_true_eq,Bool.and_true] at q
    refine jG4 ?_ q;try clear q;intro q1 q2 q3 q4
    rw[in_bs (by exact eQ (a:=bj) (k:=0) q2 (lB (mU hin'.2.2.2) h4)),Bool.true_and] at q3
    have e:as.getD (bi-1) 0=bs.getD (bj-1) 0:=of_decide_eq_true q4
    exact(best_noL hbest q1 q2 q4 (by unfold jkN;rw[e];simpa using q3)).elim
  ·skip
   refine bI ?_ (fun cc13 t=>?_)
   ·skip
    refine aQ (aA S hE (by exact rfl) ?_)
    refine aA S hE (by exact rfl) ?_
    refine c_gt (aI ?_)
    exact pu (by first | exact decide_eq_decide.2 (mS) | rfl | (rw[lI];simp only[beq_iff_eq,decide_eq_true_eq];lia))
   try replace cc13:=of_decide_eq_true cc13
   refine bI ?_ (fun cc14 t=>?_)
   ·skip
    refine aQ (aA S hE (by exact rfl) ?_)
    refine aA S hE (by exact rfl) ?_
    refine c_gt (aI ?_)
    exact pu (by first | exact decide_eq_decide.2 (mS) | rfl | (rw[lI];simp only[beq_iff_eq,decide_eq_true_eq];lia))
   try replace cc14:=of_decide_eq_true cc14
   refine bI ?_ (fun cc15 t=>?_)
   ·skip
    refine p_not (dL (aR (aA S hE (by exact rfl) ?_)))
    refine f_bm hjc ?_
    refine aB (bJ (aA S hE (by exact rfl) ?_))
    refine aG (aA S hE (by exact rfl) ?_)
    refine aF ?_;intro uu16 _
    refine dP ?_;intro uu17 _
    refine eH ((bj)-1) S sb (ar_45 cc14) (by exact eQ (a:=bj) (k:=0) cc14 (lB (mU hin'.2.2.2) h4)) (by lia) ?_;intro _ _ ee18
    refine aC ?_
    refine⟨S.b _ _ hjc,s_conb S hjc hset ee18 ?_⟩;intro _
    refine aI ?_
    exact pu (by first | exact decide_eq_decide.2 (by lia) | rfl | (rw[lI];simp only[beq_iff_eq,decide_eq_true_eq];lia))
   try replace cc15:=of_decide_eq_true cc15
   refine bI ?_ (fun cc19 t=>?_)
   ·skip
    refine aQ (bJ (aA S hE (by exact rfl) ?_))
    refine aG (aA S hE (by exact rfl) ?_)
    refine aF ?_;intro uu20 _
    refine dP ?_;intro uu21 _
    refine eH ((bi)-1) S sa (ar_45 cc13) (by exact eQ (a:=bi) (k:=0) cc13 (lB (mU hin'.2.2.1) h2)) (by lia) ?_;intro _ _ ee22
    refine bJ (aA S hE (by exact rfl) ?_)
    refine aG (aA S hE (by exact rfl) ?_)
    refine aF ?_;intro uu23 _
    refine dP ?_;intro uu24 _
    refine eH ((bj)-1) S sb (ar_45 cc14) (by lia) (by lia) ?_;intro _ _ ee25
    refine r_eq ee22 ee25 ?_
    refine aI ?_
    exact pu (by first | exact decide_eq_decide.2 (by lia) | rfl | (rw[lI];simp only[beq_iff_eq,decide_eq_true_eq];lia))
   try replace cc19:=of_decide_eq_true cc19
   exact dG
  refine x_wh0 (decide (bi+bk0<ahi)&&(decide (bj+bk0<bhi)&&(!(bs.contains (bs.getD (bj+bk0) 0)&&jk (bs.getD (bj+bk0) 0))&&(eqN as bs (bi+bk0) (bj+bk0)&&true)))) ?_ (fun d t=>?_) (fun d t=>?_)
  ·cases q:(decide (bi+bk0<ahi)&&(decide (bj+bk0<bhi)&&(!(bs.contains (bs.getD (bj+bk0) 0)&&jk (bs.getD (bj+bk0) 0))&&(eqN as bs (bi+bk0) (bj+bk0)&&true)))) with
   | false=>rfl
   | true=>
    simp only[oX,decide_eq_true_eq,Bool.and_true] at q
    refine jG4 ?_ q;try clear q;intro q1 q2 q3 q4
    rw[in_bs (by lia),Bool.true_and] at q3
    have e:as.getD (bi+bk0) 0=bs.getD (bj+bk0) 0:=of_decide_eq_true q4
    exact(best_noR hbest q1 q2 q4 (by unfold jkN;rw[e];simpa using q3) hin'.1 hin'.2.1).elim
  ·skip
   refine bI ?_ (fun cc26 t=>?_)
   ·skip
    refine aQ (aG (aA S hE (by exact rfl) ?_))
    refine aA S hE (by exact rfl) ?_
    refine aX ?_;intro uu27 _
    refine aA S hE (by exact rfl) ?_
    refine eX (aI ?_)
    exact pu (by first | exact decide_eq_decide.2 (ar_73) | rfl | (rw[lI];simp only[beq_iff_eq,decide_eq_true_eq];lia))
   try replace cc26:=of_decide_eq_true cc26
   refine bI ?_ (fun cc28 t=>?_)
   ·skip
    refine aQ (aG (aA S hE (by exact rfl) ?_))
    refine aA S hE (by exact rfl) ?_
    refine aX ?_;intro uu29 _
    refine aA S hE (by exact rfl) ?_
    refine eX (aI ?_)
    exact pu (by first | exact decide_eq_decide.2 (ar_73) | rfl | (rw[lI];simp only[beq_iff_eq,decide_eq_true_eq];lia))
   try replace cc28:=of_decide_eq_true cc28
   refine bI ?_ (fun cc30 t=>?_)
   ·skip
    refine p_not (dL (aR (aA S hE (by exact rfl) ?_)))
    refine f_bm hjc ?_
    refine aB (bJ (aA S hE (by exact rfl) ?_))
    refine aG (aA S hE (by exact rfl) ?_)
    refine aA S hE (by exact rfl) ?_
    refine aX ?_;intro uu31 _
    refine eH ((bj)+(bk0)) S sb (by lia) (by lia) (by lia) ?_;intro _ _ ee32
    refine aC ?_
    refine⟨S.b _ _ hjc,s_conb S hjc hset ee32 ?_⟩;intro _
    refine aI ?_
    exact pu (by first | exact decide_eq_decide.2 (by lia) | rfl | (rw[lI];simp only[beq_iff_eq,decide_eq_true_eq];lia))
   try replace cc30:=of_decide_eq_true cc30
   refine bI ?_ (fun cc33 t=>?_)
   ·skip
    refine aQ (bJ (aA S hE (by exact rfl) ?_))
    refine aG (aA S hE (by exact rfl) ?_)
    refine aA S hE (by exact rfl) ?_
    refine aX ?_;intro uu34 _
    refine eH ((bi)+(bk0)) S sa (by lia) (by lia) (by lia) ?_;intro _ _ ee35
    refine bJ (aA S hE (by exact rfl) ?_)
    refine aG (aA S hE (by exact rfl) ?_)
    refine aA S hE (by exact rfl) ?_
    refine aX ?_;intro uu36 _
    refine eH ((bj)+(bk0)) S sb (by lia) (by lia) (by lia) ?_;intro _ _ ee37
    refine r_eq ee35 ee37 ?_
    refine aI ?_
    exact pu (by first | exact decide_eq_decide.2 (by lia) | rfl | (rw[lI];simp only[beq_iff_eq,decide_eq_true_eq];lia))
   try replace cc33:=of_decide_eq_true cc33
   exact dG
  refine x_wh (fun k h=>k≤bi∧k≤bj∧(k=0∨(alo+k≤bi∧blo+k≤bj))∧(∃B2 u5 u6 u7,Le B' B2∧St C B2 h (vars [(kY "bestsize",.int ((bk0:Int)+(k:Nat)) u7),(kY "bestj",.int ((bj:Int)-(k:Nat)) u6),(kY "besti",.int ((bi:Int)-(k:Nat)) u5),(kY "isbjunk",.ref jc),(kY "b",vb),(kY "a",va),(kY "bhi",.int bhi u4),(kY "blo",.int blo u3),(kY "ahi",.int ahi u2),(kY "alo",.int alo u1)]) [])∧grow (bP (eqN as bs) (jkN as jk) alo blo bi bj) (bi-k) k=grow (bP (eqN as bs) (jkN as jk) alo blo bi bj) bi 0) (fun k=>bi-k) (bP (eqN as bs) (jkN as jk) alo blo bi bj) 0 (jH5 (lC _) (lC _) (.inl rfl) (jJ4 B' x1 x2 x3 ⟨Le.refl _,by rw[show(bk0:Int)+(0:Nat)=bk0 by lia,show(bj:Int)-(0:Nat)=bj by lia,show(bi:Int)-(0:Nat)=bi by lia];exact S⟩) rfl) ?_ ?_ ?_
  ·intro k h d t;refine jG5 ?_;intro q1 q2 q3 zz10 hk;revert zz10;refine jI4 ?_;intro B2 u5 u6 u7;refine jG2 ?_;intro le S
   rename_i yy0 _ _ _ _;clear yy0;clear hbest hbb hblk hk;injection hin' q1 q2 q3 le S with bi bj bk0 k h d t B2 u5 u6 u7
   replace hjc:=le _ _ hjc
   replace G:=G.le le
   replace sa:=sa.le le
   replace sb:=sb.le le
   replace hset:=hset.le le
   rw[back_sw (by lia)]
   refine bI ?_ (fun cc38 t=>?_)
   ·skip
    refine aQ (aA S hE (by exact rfl) ?_)
    refine aA S hE (by exact rfl) ?_
    refine c_gt (aI ?_)
    exact pu (by first | exact decide_eq_decide.2 (ar_77) | rfl | (rw[lI];simp only[beq_iff_eq,decide_eq_true_eq];lia))
   try replace cc38:=of_decide_eq_true cc38
   refine bI ?_ (fun cc39 t=>?_)
   ·skip
    refine aQ (aA S hE (by exact rfl) ?_)
    refine aA S hE (by exact rfl) ?_
    refine c_gt (aI ?_)
    exact pu (by first | exact decide_eq_decide.2 (ar_77) | rfl | (rw[lI];simp only[beq_iff_eq,decide_eq_true_eq];lia))
   try replace cc39:=of_decide_eq_true cc39
   refine bI ?_ (fun cc40 t=>?_)
   ·skip
    refine dL (aR (aA S hE (by exact rfl) ?_))
    refine f_bm hjc ?_
    refine aB (bJ (aA S hE (by exact rfl) ?_))
    refine aG (aA S hE (by exact rfl) ?_)
    refine aF ?_;intro uu41 _
    refine dP ?_;intro uu42 _
    refine eH ((bj-k)-1) S sb (ar_9 (ar_2 cc39)) (eQ cc39 (lB (mU hin'.2.2.2) h4)) (by lia) ?_;intro _ _ ee43
    refine aC ?_
    refine⟨S.b _ _ hjc,s_conb S hjc hset ee43 ?_⟩;intro _
    refine aI ?_
    exact pu (by first | exact decide_eq_decide.2 (by lia) | rfl | (rw[lI];simp only[beq_iff_eq,decide_eq_true_eq];lia))
   try replace cc40:=of_decide_eq_true cc40
   refine bI ?_ (fun cc44 t=>?_)
   ·skip
    refine aQ (bJ (aA S hE (by exact rfl) ?_))
    refine aG (aA S hE (by exact rfl) ?_)
    refine aF ?_;intro uu45 _
    refine dP ?_;intro uu46 _
    refine eH ((bi-k)-1) S sa (ar_9 (ar_2 cc38)) (eQ cc38 (lB (mU hin'.2.2.1) h2)) (by lia) ?_;intro _ _ ee47
    refine bJ (aA S hE (by exact rfl) ?_)
    refine aG (aA S hE (by exact rfl) ?_)
    refine aF ?_;intro uu48 _
    refine dP ?_;intro uu49 _
    refine eH ((bj-k)-1) S sb (ar_9 (ar_2 cc39)) (eQ cc39 (lB (mU hin'.2.2.2) h4)) (by lia) ?_;intro _ _ ee50
    refine r_eq ee47 ee50 ?_
    refine aI ?_
    exact pu (by first | exact decide_eq_decide.2 (by lia) | rfl | (rw[lI];simp only[beq_iff_eq,decide_eq_true_eq];lia))
   try replace cc44:=of_decide_eq_true cc44
   exact dG
  ·intro k h d t;refine jG5 ?_;intro q1 q2 q3 zz11 hk;revert zz11;refine jI4 ?_;intro B2 u5 u6 u7;refine jG2 ?_;intro lc S hP
   rename_i yy0 _ _ _ _;clear yy0;clear hbest hbb hblk;injection hin' q1 q2 q3 hk lc S hP with bi bj bk0 k h d t B2 u5 u6 u7
   replace G:=G.le lc
   refine eC [kY "besti",kY "bestj",kY "bestsize"] ?_
   refine bM (aB (aG (aA S hE (by exact rfl) ?_)))
   refine aF ?_;intro uu51 _
   refine dP ?_;intro uu52 _
   refine aB (aG (aA S hE (by exact rfl) ?_))
   refine aF ?_;intro uu53 _
   refine dP ?_;intro uu54 _
   refine aB (aG (aA S hE (by exact rfl) ?_))
   refine aF ?_;intro uu55 _
   refine aX ?_;intro uu56 _
   refine aC (bL S (lF rfl) ?_);clear S;intro h aa57 B' le t7 S
   replace G:=G.le le
   replace lc:=Le.trans lc le
   refine unpk S t7 hh rfl ?_;clear S;intro h S
   refine aL (bnd (aD S hE ?_));clear S;intro h t S
   refine aL (bnd (aD S hE ?_));clear S;intro h t S
   refine aL (bnd (aD S hE ?_));clear S;intro h t S
   refine cK (aJ ?_)
   replace S:=S.few (.cons (x:=kY "bestsize") rfl (.cons (x:=kY "bestj") rfl (.cons (x:=kY "besti") rfl (.cons (x:=kY "isbjunk") rfl (.cons (x:=kY "b") rfl (.cons (x:=kY "a") rfl (.cons (x:=kY "bhi") rfl (.cons (x:=kY "blo") rfl (.cons (x:=kY "ahi") rfl (.cons (x:=kY "alo") rfl (.nil)))))))))))
   have hlt:alo+k<bi∧blo+k<bj:=by
    unfold bP at hP
    have h1:=mT.1 hP
    exact⟨of_decide_eq_true h1.1,of_decide_eq_true (mT.1 h1.2).1⟩
   exact jJ4 (k+1) h _ _ (jH7 rfl (ar_3 hlt.1) (by lia) (by lia) (.inr hlt) (jJ4 _ _ _ _ ⟨lc,by rw[show(bk0:Int)+(k+1:Nat)=bk0+k+1 by lia,show(bj:Int)-(k+1:Nat)=bj-k-1 by lia,show(bi:Int)-(k+1:Nat)=bi-k-1 by lia];exact S⟩) (by rw[←hk,show bi-k=(bi-(k+1))+1 by exact ar_5 hlt.1,gC hP]))
  ·intro k h d t;refine jG5 ?_;intro q1 q2 q3 zz12 hk;revert zz12;refine jI4 ?_;intro B2 u5 u6 u7;refine jG2 ?_;intro le S hP
   rename_i yy0 _ _ _ _;clear yy0;clear hbest hbb;injection hblk hin' q1 q2 q3 hk le S hP with bi bj bk0 k h d t B2 u5 u6 u7
   replace hjc:=le _ _ hjc
   replace G:=G.le le
   replace sa:=sa.le le
   replace sb:=sb.le le
   replace hset:=hset.le le
   rw[cQ hP] at hk
   rw[←hk] at hblk
   refine x_wh (fun f h=>bk0+k≤f∧(bi-k)+f≤ahi∧(bj-k)+f≤bhi∧(∃u7,St C B2 h (vars [(kY "bestsize",.int (f:Nat) u7),(kY "bestj",.int ((bj:Int)-(k:Nat)) u6),(kY "besti",.int ((bi:Int)-(k:Nat)) u5),(kY "isbjunk",.ref jc),(kY "b",vb),(kY "a",va),(kY "bhi",.int bhi u4),(kY "blo",.int blo u3),(kY "ahi",.int ahi u2),(kY "alo",.int alo u1)]) [])∧grow (fwdP (eqN as bs) (jkN as jk) ahi bhi (bi-k) (bj-k)) (ahi-(f-(bk0+k))) f=grow (fwdP (eqN as bs) (jkN as jk) ahi bhi (bi-k) (bj-k)) ahi (bk0+k)) (fun f=>ahi-f) (fwdP (eqN as bs) (jkN as jk) ahi bhi (bi-k) (bj-k)) (bk0+k) (jH5 (lE _) (ar_35 q1 hin'.2.2.1) (ar_35 q2 hin'.2.2.2) ⟨u7,by rw[show((bk0+k:Nat):Int)=bk0+k by lia];exact S⟩ (by rw[Nat.sub_self,pQ])) ?_ ?_ ?_
   ·intro f h d t;refine jG5 ?_;intro p1 p2 p3 zz13 hf;obtain⟨u7,S⟩:=zz13
    rw[fwd_sw (by omega)]
    refine bI ?_ (fun cc58 t=>?_)
    ·skip
     refine aQ (aG (aA S hE (by exact rfl) ?_))
     refine aA S hE (by exact rfl) ?_
     refine aX ?_;intro uu59 _
     refine aA S hE (by exact rfl) ?_
     refine eX (aI ?_)
     exact pu (by first | exact decide_eq_decide.2 (ar_8 q1) | rfl | (rw[lI];simp only[beq_iff_eq,decide_eq_true_eq];lia))
    try replace cc58:=of_decide_eq_true cc58
    refine bI ?_ (fun cc60 t=>?_)
    ·skip
     refine aQ (aG (aA S hE (by exact rfl) ?_))
     refine aA S hE (by exact rfl) ?_
     refine aX ?_;intro uu61 _
     refine aA S hE (by exact rfl) ?_
     refine eX (aI ?_)
     exact pu (by first | exact decide_eq_decide.2 (ar_8 q2) | rfl | (rw[lI];simp only[beq_iff_eq,decide_eq_true_eq];lia))
    try replace cc60:=of_decide_eq_true cc60
    refine bI ?_ (fun cc62 t=>?_)
    ·skip
     refine dL (aR (aA S hE (by exact rfl) ?_))
     refine f_bm hjc ?_
     refine aB (bJ (aA S hE (by exact rfl) ?_))
     refine aG (aA S hE (by exact rfl) ?_)
     refine aA S hE (by exact rfl) ?_
     refine aX ?_;intro uu63 _
     refine eH ((bj-k)+(f)) S sb (ar_7 q2) (by lia) (by lia) ?_;intro _ _ ee64
     refine aC ?_
     refine⟨S.b _ _ hjc,s_conb S hjc hset ee64 ?_⟩;intro _
     refine aI ?_
     exact pu (by first | exact decide_eq_decide.2 (by lia) | rfl | (rw[lI];simp only[beq_iff_eq,decide_eq_true_eq];lia))
    try replace cc62:=of_decide_eq_true cc62
    refine bI ?_ (fun cc65 t=>?_)
    ·skip
     refine aQ (bJ (aA S hE (by exact rfl) ?_))
     refine aG (aA S hE (by exact rfl) ?_)
     refine aA S hE (by exact rfl) ?_
     refine aX ?_;intro uu66 _
     refine eH ((bi-k)+(f)) S sa (ar_7 q1) (by lia) (by lia) ?_;intro _ _ ee67
     refine bJ (aA S hE (by exact rfl) ?_)
     refine aG (aA S hE (by exact rfl) ?_)
     refine aA S hE (by exact rfl) ?_
     refine aX ?_;intro uu68 _
     refine eH ((bj-k)+(f)) S sb (ar_7 q2) (by lia) (by lia) ?_;intro _ _ ee69
     refine r_eq ee67 ee69 ?_
     refine aI ?_
     exact pu (by first | exact decide_eq_decide.2 (by lia) | rfl | (rw[lI];simp only[beq_iff_eq,decide_eq_true_eq];lia))
    try replace cc65:=of_decide_eq_true cc65
    exact dG
   ·intro f h d t;refine jG5 ?_;intro p1 p2 p3 zz14 hf;obtain⟨u7,S⟩:=zz14;intro hP
    injection p1 p2 p3 hf S hP with f h d t u7
    refine aY (aG (aA S hE (by exact rfl) ?_))
    refine aF ?_;intro uu70 _
    refine aX ?_;intro uu71 _
    refine aD S hE ?_;clear S;intro h t S
    refine aJ ?_
    replace S:=S.few (.cons (x:=kY "bestsize") rfl (.cons (x:=kY "bestj") rfl (.cons (x:=kY "besti") rfl (.cons (x:=kY "isbjunk") rfl (.cons (x:=kY "b") rfl (.cons (x:=kY "a") rfl (.cons (x:=kY "bhi") rfl (.cons (x:=kY "blo") rfl (.cons (x:=kY "ahi") rfl (.cons (x:=kY "alo") rfl (.nil)))))))))))
    have hlt:bi-k+f<ahi∧bj-k+f<bhi:=by
     unfold fwdP at hP
     have h1:=mT.1 hP
     exact⟨of_decide_eq_true h1.1,of_decide_eq_true (mT.1 h1.2).1⟩
    exact jJ4 (f+1) h _ _ (jH7 rfl (ar_3 hlt.1) (by lia) (by lia) (by lia) ⟨_,S⟩ (by rw[←hf,show ahi-(f-(bk0+k))=(ahi-(f+1-(bk0+k)))+1 by exact ar_6 p1 hlt.1,gC hP]))
   ·intro f h d t;refine jG5 ?_;intro p1 p2 p3 zz15 hf;obtain⟨u7,S⟩:=zz15;intro hP
    injection p1 p2 p3 hf S hP with f h d t u7
    rw[cQ hP] at hf
    rw[←hf] at hblk
    refine cN (aR (dY S hE G (iU _) ?_))
    refine f_cls S G (ma_keep _) ?_
    refine aB (aA S hE (by exact rfl) ?_)
    refine aB (aA S hE (by exact rfl) ?_)
    refine aB (aA S hE (by exact rfl) ?_)
    refine aC ?_
    refine⟨G.at S.b,use S (c_match G S.b ((hr.le (j:=5) (by decide)).deeper)) ?_⟩
    intro _ h d t B3 S le;refine jI1 ?_;intro ra;refine jG2 ?_;intro zz16 hma;obtain rfl:=zz16
    clear le;injection S hma with h d t B3 ra
    refine S.ends e1 e2 e3 e4 (jJ4 _ u5 u6 u7 ⟨rfl,?_⟩)
    rw[hblk]
    dsimp only
    rw[nN q1,nN q2]
    exact hma
end
theorem lex_irr (a:Nat×Nat×Nat):¬lex a a=true:=fun h=>by have:=iT a a h;rw[h] at this;cases this
theorem lex_nodup {l:List (Nat×Nat×Nat)}(h:l.Pairwise fun a b=>lex a b=true):l.Nodup:=List.Pairwise.imp (fun {a b} (x:lex a b=true) (e:a=b)=>lex_irr a (by rw[←e] at x;exact x)) h
theorem lex_eq:∀{l l':List (Nat×Nat×Nat)},l.Perm l'→(l.Pairwise fun a b=>lex a b=true)→(l'.Pairwise fun a b=>lex a b=true)→l=l':=by
 intro l
 induction l with
 | nil=>intro l' p _ _;exact(List.Perm.nil_eq p)
 | cons a r ih=>
  intro l' p h h'
  cases l' with
  | nil=>exact absurd p.symm (by intro q;have:=q.length_eq;simp at this)
  | cons b r'=>
   rw[List.pairwise_cons] at h h'
   have e:a=b:=by
    rcases lH.1 (p.mem_iff.1 (kZ ..)) with e | ha
    ·exact e
    ·rcases lH.1 (p.mem_iff.2 (kZ ..)) with e | hb
     ·exact e.symm
     ·have h1:=h.1 b hb
      have h2:=h'.1 a ha
      rw[iT _ _ h1] at h2;cases h2
   subst e
   rw[ih (List.Perm.cons_inv p) h.2 h'.2]
theorem bl_lex (eq:Nat→Nat→Bool)(jk:Nat→Bool)(q:Qd)(h1:q.1≤q.2.1)(h2:q.2.2.1≤q.2.2.2):(bl eq jk q).Pairwise fun a b=>lex a b=true:=by
 obtain⟨a1,a2⟩:=eY eq jk (q.2.1-q.1) q.1 q.2.1 q.2.2.1 q.2.2.2 h1 h2
 refine a2.imp_of_mem fun {a b} ha hb x=>?_
 have:=a1 a ha
 unfold lex;simp;exact .inl (lP (pV this.2.2.2.2) x.1)
noncomputable def QT (B:Base)(v:jL)(q:Qd):Prop:=∃a u1 u2 u3 u4,v=.ref a∧Tup B a [.int (q.1:Nat) u1,.int (q.2.1:Nat) u2,.int (q.2.2.1:Nat) u3,.int (q.2.2.2:Nat) u4]
theorem QT.le {B B':Base}{v:jL}{c:Qd}(x:QT B v c)(l:Le B B'):QT B' v c:=jI5 (fun a u1 u2 u3 u4=>jG2 fun e i=>(jJ5 a u1 u2 u3 u4 ⟨e,i.le l⟩)) x
theorem qts_le {B B':Base}{vs:List jL}{xs:List Qd}(h:F2 (QT B) vs xs)(l:Le B B'):F2 (QT B') vs xs:=h.mono fun _ _ x=>x.le l
theorem gM {B B':Base}{vs:List jL}{xs:List (Nat×Nat×Nat)}(h:F2 (Mt B) vs xs)(l:Le B B'):F2 (Mt B') vs xs:=h.mono fun _ _ x=>x.le l
theorem qmu_len (qs:List Qd):qs.length≤qmu qs:=by
 induction qs with
 | nil=>exact lC _
 | cons q r ih=>unfold qmu at *;simp at *;lia
section
variable {w:jS}{A:jV}{C:Cx}{m mg mb:kJ→Option jL}{B:Base}{M:List (jQ×kK)}
 {h:kI} {g:Array jX} {d:kU} {t:Nat} {os:jU} {env:Env} {Q:jL→jP→Prop} {QB:Bool→jP→Prop} {E:jL→jP→Prop}
theorem t_own {a:jQ}{vs:List jL}{n:Nat}(S:St C B h m M)(hm:(a,lstO vs n)∈M)(hf:vs.length≤1000000)(k:∀t',QB (decide (vs≠[])) ⟨h,g,d,t',os⟩):
  jN (jM PW w) A (truthy (.ref a)) QB E ⟨h,g,d,t,os⟩:=by
 refine wpAny_truthy_list (s:=⟨h,g,d,t,os⟩) (eI S hm) (by rw[lY];lia) ?_
 have:(!vs.toArray.isEmpty)=decide (vs≠[]):=by
  cases vs<;>simp
 rw[this];exact k _
end
section
variable {w:jS}{A:jV}{h:kI}{g:Array jX}{d:kU}{t:Nat}{os:jU}{env:Env}{QF:kS→jP→Prop}{E:jL→jP→Prop}
theorem x_three {t₁ t₂ t₃ value:Expr}{pos:kW}{rest:List jW}
  (k:jN (jM PW w) A (eval value env) (fun v s₁=>jN (jM PW w) A (assign t₁ env v) (fun _ s₂=>jN (jM PW w) A (assign t₂ env v) (fun _ s₃=>jN (jM PW w) A (assign t₃ env v) (fun _ s₄=>jN (jM PW w) A (kO rest env) QF E s₄) E s₃) E s₂) E s₁) E ⟨h,g,d,t,os⟩)
  (he:autoParam ((assignEach [t₁,t₂,t₃] env).map (·.2)=[assign t₁ env,assign t₂ env,assign t₃ env]) tR)
  (hw:autoParam (swappedStores [t₁,t₂,t₃] value env=pure none) tR):
  jN (jM PW w) A (kO (.Assign [t₁,t₂,t₃] value pos::rest) env) QF E ⟨h,g,d,t,os⟩:=wpAny_execs_cons (wpAny_Assign_three k he hw)
end
section
variable {w:jS}{A:jV}{s:jP}{mg mb:kJ→Option jL}{B:Base}
theorem c_gmb {md:Bool}{x dx:jQ}{od:kK}{L:List (kJ×jL)}{va vb:jL}{as bs:List Nat}{db jb:jQ}{jk:Nat→Bool}
  (hx:InsB B x dx) (hd:s.heap.get? dx=some od) (hdB:B dx=none) (ho:NsO od (vars L)) (hsz:L.length≤50)
  (la:L.lookup (kY "a")=some va) (lb:L.lookup (kY "b")=some vb) (lj:L.lookup (kY "b2j")=some (.ref db)) (lk:L.lookup (kY "bjunk")=some (.ref jb))
  (lm:L.lookup (kY "matching_blocks")=some .none) (lf:L.lookup (kY "find_longest_match")=none)
  (sa:SeqV md B va as) (sb:SeqV md B vb bs) (hb2j:B2J w md B db bs jk) (hset:SetB w md B jb (fun k=>bs.contains k&&jk k))
  (hs1:as.length≤60) (hs2:bs.length≤100)
  (G:Gr w mg mb B) (hB:∀a o,B a=some o→s.heap.get? a=some o) (hr:Room A 12):
  jN (jM PW w) A (call (.ref 203) [.ref x]) (dF B s dx fun v B' od'=>∃l vs,v=.ref l∧Lst B' l vs∧F2 (Mt B') vs (mgOf as.length bs.length (bl (eqN as bs) (jkN as jk) (0,as.length,0,bs.length)))∧NsO od' (vars ((kY "matching_blocks",.ref l)::L))) no s:=by
 refine' gI (o:=o_203 w.params) (binds:=[(kY "self",.ref x)]) G hB hd hdB hr.d' ?ho ?hd ?hcd ?hb ?c1 ?c2 ?c3 ?c4 ?c5 ?_
 case ho=>exact rfl
 case hd=>exact rfl
 case hcd=>exact rfl
 case hb=>exact BindsTo.of_eq rfl
 case c1=>decide
 case c2=>exact locs rfl
 case c3=>exact rfl
 case c4=>exact rfl
 case c5=>exact rfl
 intro C h t e1 e2 S e3 e4
 have hh:=hr.h
 generalize hEe:envX _ _ C.L _ _ []=env
 have hE:aP C env:=hEe▸⟨rfl,rfl,rfl,rfl⟩
 subst hEe
 change St C B h (vars [(kY "self",.ref x)]) ([]++(dx,od)::[]) at S
 clear hd hdB hB;injection hx ho hsz la lb lj lk lm lf sa sb hb2j hset hs1 hs2 G hr e1 e2 e3 e4 hh hE S with w A s mg mb B md x dx od L va vb as bs db jb jk C h t
 refine aZ (bW ?_);intro _ _
 refine bH false ?_ (fun c=>nomatch c) (fun c t=>?_)
 ·refine aQ (cX (aA S hE (by exact rfl) ?_))
  refine dK S G hx (kZ ..) ho iS (iQ _) (cI _) lm rfl ?_;intro _
  refine dJ (isnot_none_none (aI ?_))
  exact pu rfl
 refine aJ (eC [kY "la",kY "lb"] ?_)
 refine bM (aB (aR (cM (v:=.builtin "len") S hE G (cJ _) rfl ?_)))
 refine eE (aB (cX (aA S hE (by exact rfl) ?_)))
 refine dK S G hx (kZ ..) ho ob_a (sm_a _) (cI _) la (fC sa) ?_;intro _
 refine aC (r_len S sa (by lia) ?_);intro ua _
 refine aB (aR (cM (v:=.builtin "len") S hE G (cJ _) rfl ?_))
 refine eE (aB (cX (aA S hE (by exact rfl) ?_)))
 refine dK S G hx (kZ ..) ho ob_b (sm_b _) (cI _) lb (fC sb) ?_;intro _
 refine aC (r_len S sb (by lia) ?_);intro ub _
 refine aC (bL S (lF rfl) ?_);clear S;intro h tt B' le ht S
 replace hx:=hx.le le
 replace G:=G.le le
 replace sa:=sa.le le
 replace sb:=sb.le le
 replace hb2j:=hb2j.le le
 replace hset:=hset.le le
 refine unpk S ht hh rfl ?_;clear S;intro h S
 refine aL (bnd (aD S hE ?_));clear S;intro h t S
 refine aL (bnd (aD S hE ?_));clear S;intro h t S
 refine cK (aY (bA (aB (bM (aB (aF ?_))))));intro z1 _
 refine aB (aA S hE (by exact rfl) ?_)
 refine aB (aF ?_);intro z2 _
 refine aB (aA S hE (by exact rfl) ?_)
 refine aC (bL S (lF rfl) ?_);clear S;intro h t0 B' le ht0 S
 replace hx:=hx.le le
 replace G:=G.le le
 replace sa:=sa.le le
 replace sb:=sb.le le
 replace hb2j:=hb2j.le le
 replace hset:=hset.le le
 refine aC (fR S (lF rfl) ?_);clear S;intro h qa S
 refine aD S hE ?_;clear S;intro h t S
 refine aY (bA (aC (fR S (lC _) ?_)));clear S;intro h ma S
 refine aD S hE ?_;clear S;intro h t S
 replace S:=S.few (.cons (x:=kY "matching_blocks") rfl (.cons (x:=kY "queue") rfl (.cons (x:=kY "lb") rfl (.cons (x:=kY "la") rfl (.cons (x:=kY "self") rfl (.nil))))))
 refine x_wh (σ:=List Qd×List (Nat×Nat×Nat)) (fun st h=>∃B2 vq nq vm nm,Le B' B2∧F2 (QT B2) vq st.1∧F2 (Mt B2) vm st.2∧QInv (eqN as bs) (jkN as jk) as.length bs.length st.1 st.2∧st.1.length≤1000∧qmu st.1≤200∧
   St C B2 h (vars [(kY "matching_blocks",.ref ma),(kY "queue",.ref qa),(kY "lb",.int bs.length ub),(kY "la",.int as.length ua),(kY "self",.ref x)]) ([(ma,lstO vm nm),(qa,lstO vq nq),(dx,od)])) (fun st=>qmu st.1) (fun st=>decide (st.1≠[])) ([(0,as.length,0,bs.length)],[]) ?_ ?_ ?_ ?_
 ·refine jJ5 B' _ _ _ _ (jH7 (Le.refl _) (.cons (jJ5 t0 _ _ _ _ ⟨rfl,ht0⟩) .nil) .nil ⟨fun q hq=>?_,?_⟩ (by simp) ?_ S)
  ·rw[lA.1 hq];exact jH4 (lC _) (lE _) (lC _) (lE _)
  ·simp
  ·unfold qmu;simp;lia
 ·rintro⟨qs,ms⟩;intro h d t;refine jI5 ?_;intro B2 vq nq vm nm;refine jG7 ?_;intro le hq hm hi hl1 hl2 S
  rename_i yy0 yy1 _ _ _ _ _ _ _ _ yy2 _ _ _ _ _ _ yy3;clear yy3 yy2 yy1;injection ht ht0 hx G sa sb hb2j hset le hq hm hi hl1 hl2 S with ua ub tt yy0 z1 z2 t0 B' qa ma qs ms h d t B2 vq nq vm nm
  dsimp only at hq hm hi hl1 hl2⊢
  have hql:=hq.length
  refine dL (aA S hE (by exact rfl) ?_)
  refine t_own (vs:=vq) (n:=nq) S (by simp) (by lia) ?_;intro t'
  refine pu ?_
  have:vq=[]↔qs=[]:=by rw[←List.length_eq_zero_iff,←List.length_eq_zero_iff,hql]
  simp[this]
 ·rintro⟨qs,ms⟩;intro h d t;refine jI5 ?_;intro B2 vq nq vm nm;refine jG7 ?_;intro le hq hm hi hl1 hl2 S hne
  rename_i yy0 yy1 _ _ _ _ _ _ _ _ yy2 _ _ _ _ _ _ yy3;clear yy3 yy2 yy1;clear ht ht0;injection hx G sa sb hb2j hset le hq hm hi hl1 hl2 S hne with ua ub tt yy0 z1 z2 t0 B' qa ma qs ms h d t B2 vq nq vm nm
  dsimp only at hq hm hi hl1 hl2 hne⊢
  obtain⟨qs',q,rfl⟩:∃qs' q,qs=qs'++[q]:=by
   rcases mW qs with e | ⟨a,b,e⟩
   ·exact absurd e (of_decide_eq_true hne)
   ·exact jJ2 a b (by rw[e,mX])
  refine jI2 ?_ hq.unsnoc;intro vq' vx;refine jG3 ?_;intro zz1 hq';refine jI5 ?_;intro tq w1 w2 w3 w4;refine jG2 ?_;intro zz2 htq;obtain rfl:=zz1;obtain rfl:=zz2
  have hqin:=hi.1 q (lJ _ (lA.2 rfl))
  have hql:=hq'.length
  have hml:=hm.length
  have hms:ms.length≤100:=by
   have e1:=hi.2.length_eq
   have e2:=bl_len (eqN as bs) (jkN as jk) (0,as.length,0,bs.length) (lC _) (lC _)
   rw[lR] at e1
   dsimp only at e2;lia
  have hql2:qs'.length+1≤1000:=by simpa using hl1
  have le0:=le
  replace hx:=hx.le le
  replace G:=G.le le
  replace sa:=sa.le le
  replace sb:=sb.le le
  replace hb2j:=hb2j.le le
  replace hset:=hset.le le
  refine fB (aU (aA S hE (by exact rfl) ?_))
  refine gm_pop (M:=[(ma,lstO vm nm)]++_::[(dx,od)]) S (lJ _ (kZ ..)) ?_
  refine f_m0 (l_pop (M₁:=[(ma,lstO vm nm)]) (M₂:=[(dx,od)]) S (by rw[lR,mG,jZ];lia) ?_);clear S;intro h n S
  refine fF S htq hh ?_;clear S;intro h S
  refine aL (aK (aD S hE ?_));clear S;intro h t S
  refine aL (aK (aD S hE ?_));clear S;intro h t S
  refine aL (aK (aD S hE ?_));clear S;intro h t S
  refine aL (aK (aD S hE ?_));clear S;intro h t S
  refine cK (fQ (aU (aA S hE (by exact rfl) ?_)))
  refine eF (of:=o_196 w.params) S G hx (by simp) ho (sm_flm _) rfl rfl (cI _) (gW _) lf ob_flm ?_
  refine f_meth S G (kp_196 _) ?_
  refine aB (aA S hE (by exact rfl) ?_)
  refine aB (aA S hE (by exact rfl) ?_)
  refine aB (aA S hE (by exact rfl) ?_)
  refine aB (aA S hE (by exact rfl) ?_)
  refine aC ?_
  have A1:=S.m (dx,od) (by simp)
  refine⟨G.at S.b,use S (c_flm hx A1.1 A1.2.2.2 ho la lb lj lk sa sb hb2j hset hqin.1 hqin.2.1 hqin.2.2.1 hqin.2.2.2 (by lia) (by omega) G S.b ((hr.le (j:=11) (by decide)).deeper)) ?_⟩
  intro _ h d t B3 S le3;refine jI4 ?_;intro xa y1 y2 y3;refine jG2 ?_;intro zz3 hmt;obtain rfl:=zz3
  rename_i yy0 _ yy1;clear yy1;clear hl1 hne hq A1;injection hi hl2 hq' htq hqin hql hql2 S le3 hmt with qs' q vq' tq w1 w2 w3 w4 n yy0 h d t B3 xa y1 y2 y3
  change MtO B3 xa [.int ((bk4 (eqN as bs) (jkN as jk) q).1:Nat) y1,.int ((bk4 (eqN as bs) (jkN as jk) q).2.1:Nat) y2,.int ((bk4 (eqN as bs) (jkN as jk) q).2.2:Nat) y3] at hmt
  have hbin:q.1≤(bk4 (eqN as bs) (jkN as jk) q).1∧q.2.2.1≤(bk4 (eqN as bs) (jkN as jk) q).2.1∧(bk4 (eqN as bs) (jkN as jk) q).1+(bk4 (eqN as bs) (jkN as jk) q).2.2≤q.2.1∧(bk4 (eqN as bs) (jkN as jk) q).2.1+(bk4 (eqN as bs) (jkN as jk) q).2.2≤q.2.2.2:=cL (eqN as bs) (jkN as jk) hqin.1 hqin.2.2.1
  have hi0:=fun h=>hi.none (eqN as bs) (jkN as jk) (q:=q) h
  have hi1:=fun h=>hi.some (eqN as bs) (jkN as jk) (q:=q) h
  have hmx:Mt B3 (.ref xa) (bk4 (eqN as bs) (jkN as jk) q):=jJ4 xa y1 y2 y3 ⟨rfl,hmt⟩
  generalize bk4 (eqN as bs) (jkN as jk) q=c at hmt hbin hi0 hi1 hmx
  have le3':=le0.trans le3
  replace hx:=hx.le le3
  replace G:=G.le le3
  replace sa:=sa.le le3
  replace sb:=sb.le le3
  replace hb2j:=hb2j.le le3
  replace hset:=hset.le le3
  replace htq:=htq.le le3
  replace hq':=qts_le hq' le3
  replace hm:=gM hm le3
  refine jI2 ?_ (id hmt);intro dd cc;intro hmo
  refine g_mt S G hmo hh ?_;clear S;intro h S
  refine aL (aK (aD S hE ?_));clear S;intro h t S
  refine aL (aK (aD S hE ?_));clear S;intro h t S
  refine aL (aK (aD S hE ?_));clear S;intro h t S
  refine cK (aK (aD S hE ?_));clear S;intro h t S
  replace S:=S.few (.cons (x:=kY "x") rfl (.cons (x:=kY "k") rfl (.cons (x:=kY "j") rfl (.cons (x:=kY "i") rfl (.cons (x:=kY "bhi") rfl (.cons (x:=kY "blo") rfl (.cons (x:=kY "ahi") rfl (.cons (x:=kY "alo") rfl (.cons (x:=kY "matching_blocks") rfl (.cons (x:=kY "queue") rfl (.cons (x:=kY "lb") rfl (.cons (x:=kY "la") rfl (.cons (x:=kY "self") rfl (.nil))))))))))))))
  generalize n=n0 at S
  have hqq:q∈qs'++[q]:=lJ _ (lA.2 rfl)
  refine bH (decide (c.2.2≠0)) ?_ (fun c1 t=>?_) (fun c1 t=>?_)
  ·refine dL (aA S hE (by exact rfl) ?_)
   refine t_int ?_
   exact pu (by rw[lI];simp)
  ·replace c1:=of_decide_eq_true c1
   obtain⟨hi2,hmu⟩:=hi1 c1
   refine aZ (aU (aA S hE (by exact rfl) ?_))
   refine cA (M:=[]++_::[(qa,lstO vq' n0),(dx,od)]) S (lJ _ (kZ ..)) ?_
   refine dI (aB (aA S hE (by exact rfl) ?_))
   refine aC (bV (M₁:=[]) (M₂:=[(qa,lstO vq' n0),(dx,od)]) S (by rw[jZ];lia) ?_);clear S;intro h n S
   generalize n=n1 at S
   refine fW S (fun B' m' M'=>∃vl n',M'=[(ma,lstO (vm++[.ref xa]) n1),(qa,lstO (vq'++vl) n'),(dx,od)]∧m'=vars [(kY "x",.ref xa),(kY "k",.int (c.2.2:Nat) y3),(kY "j",.int (c.2.1:Nat) y2),(kY "i",.int (c.1:Nat) y1),(kY "bhi",.int (q.2.2.2:Nat) w4),(kY "blo",.int (q.2.2.1:Nat) w3),(kY "ahi",.int (q.2.1:Nat) w2),(kY "alo",.int (q.1:Nat) w1),(kY "matching_blocks",.ref ma),(kY "queue",.ref qa),(kY "lb",.int bs.length ub),(kY "la",.int as.length ua),(kY "self",.ref x)]∧F2 (QT B') vl (qL q c)) ?_ ?_
   ·refine bH (decide (q.1<c.1)&&(decide (q.2.2.1<c.2.1)&&true)) ?_ (fun c2 t=>?_) (fun c2 t=>?_)
    ·skip
     refine bI ?_ (fun cc1 t=>?_)
     ·skip
      refine aQ (aA S hE (by exact rfl) ?_)
      refine aA S hE (by exact rfl) ?_
      refine eX (aI ?_)
      exact pu (by first | exact decide_eq_decide.2 (mS) | rfl | (rw[lI];simp only[beq_iff_eq,decide_eq_true_eq];lia))
     try replace cc1:=of_decide_eq_true cc1
     refine bI ?_ (fun cc2 t=>?_)
     ·skip
      refine aQ (aA S hE (by exact rfl) ?_)
      refine aA S hE (by exact rfl) ?_
      refine eX (aI ?_)
      exact pu (by first | exact decide_eq_decide.2 (mS) | rfl | (rw[lI];simp only[beq_iff_eq,decide_eq_true_eq];lia))
     try replace cc2:=of_decide_eq_true cc2
     exact dG
    ·have c3:q.1<c.1∧q.2.2.1<c.2.1:=by simpa using c2
     refine aZ (aU (aA S hE (by exact rfl) ?_))
     refine cA (M:=[(ma,lstO (vm++[.ref xa]) n1)]++_::[(dx,od)]) S (lJ _ (kZ ..)) ?_
     refine dI (aB (bM (aB (aA S hE (by exact rfl) ?_))))
     refine aB (aA S hE (by exact rfl) ?_)
     refine aB (aA S hE (by exact rfl) ?_)
     refine aB (aA S hE (by exact rfl) ?_)
     refine aC (bL S (lF rfl) ?_);clear S;intro h tl B4 le4 htl S
     refine aC (bV (M₁:=[(ma,lstO (vm++[.ref xa]) n1)]) (M₂:=[(dx,od)]) S (by rw[jZ];lia) ?_);clear S;intro h n S
     refine aJ (aJ ?_)
     exact jJ6 h _ _ _ _ _ (jH4 rfl S le4 (jJ2 [.ref tl] n (jH3 rfl rfl (by unfold qL;rw[if_pos c3];exact .one (jJ5 tl _ _ _ _ ⟨rfl,htl⟩)))))
    ·have c3:¬(q.1<c.1∧q.2.2.1<c.2.1):=by simpa using c2
     refine aJ (aJ ?_)
     exact jJ6 h _ _ _ _ _ (jH4 rfl S (Le.refl _) (jJ2 [] n0 (jH3 (by rw[nD];rfl) rfl (by unfold qL;rw[if_neg c3];exact .nil))))
   ·intro h d t B4 m' M' S le4;refine jI2 ?_;intro vl n2;refine jG3 ?_;intro zz4 zz5 hvl;obtain rfl:=zz4;obtain rfl:=zz5
    rename_i yy0;clear yy0;clear hmt hi0 hmo;injection hbin hi1 hmx c1 hi2 hmu le4 hvl S with c dd cc n1 h d t B4 vl n2
    have hqlen:(qL q c).length≤1:=by unfold qL;split<;>simp
    have hvll:=hvl.length
    have done:∀{B5:Base} {h:kI} {d:kU} {t:Nat} {vr:List jL} {n3:Nat},Le B4 B5→F2 (QT B5) vr (qR q c)→St C B5 h (vars [(kY "x",.ref xa),(kY "k",.int (c.2.2:Nat) y3),(kY "j",.int (c.2.1:Nat) y2),(kY "i",.int (c.1:Nat) y1),(kY "bhi",.int (q.2.2.2:Nat) w4),(kY "blo",.int (q.2.2.1:Nat) w3),(kY "ahi",.int (q.2.1:Nat) w2),(kY "alo",.int (q.1:Nat) w1),(kY "matching_blocks",.ref ma),(kY "queue",.ref qa),(kY "lb",.int bs.length ub),(kY "la",.int as.length ua),(kY "self",.ref x)]) [(ma,lstO (vm++[.ref xa]) n1),(qa,lstO (vq'++vl++vr) n3),(dx,od)]→
      ∃(x':List Qd×List (Nat×Nat×Nat)) (h':kI) (d':kU) (t':Nat),(⟨h,s.gens,d,t,s.os⟩:jP)=⟨h',s.gens,d',t',s.os⟩∧qmu x'.1<qmu (qs'++[q])∧∃B2 vq nq vm nm,Le B' B2∧F2 (QT B2) vq x'.1∧F2 (Mt B2) vm x'.2∧QInv (eqN as bs) (jkN as jk) as.length bs.length x'.1 x'.2∧x'.1.length≤1000∧qmu x'.1≤200∧
       St C B2 h' (vars [(kY "matching_blocks",.ref ma),(kY "queue",.ref qa),(kY "lb",.int bs.length ub),(kY "la",.int as.length ua),(kY "self",.ref x)]) ([(ma,lstO vm nm),(qa,lstO vq nq),(dx,od)]):=by
     intro B5 h d t vr n3 le5 hvr S
     injection le5 hvr S with B5 h d t vr n3
     replace S:=S.few (.cons (x:=kY "matching_blocks") rfl (.cons (x:=kY "queue") rfl (.cons (x:=kY "lb") rfl (.cons (x:=kY "la") rfl (.cons (x:=kY "self") rfl (.nil))))))
     have lx:=le4.trans le5
     refine jJ4 (qs'++qL q c++qR q c,ms++[c]) h d t (jH3 rfl hmu (jJ5 B5 _ _ _ _ (jH7 (le3'.trans lx) ?_ ((gM hm lx).snoc (hmx.le lx)) hi2 ?_ (by dsimp only;exact lB (lL hmu) hl2) S)))
     ·exact((qts_le hq' lx).append (qts_le hvl le5)).append hvr
     ·have:=qmu_len (qs'++qL q c++qR q c);dsimp only;exact lB this (lB (lL (lP hmu hl2)) (by decide))
    refine bH (decide (c.1+c.2.2<q.2.1)&&(decide (c.2.1+c.2.2<q.2.2.2)&&true)) ?_ (fun c2 t=>?_) (fun c2 t=>?_)
    ·skip
     refine bI ?_ (fun cc3 t=>?_)
     ·skip
      refine aQ (aG (aA S hE (by exact rfl) ?_))
      refine aA S hE (by exact rfl) ?_
      refine aX ?_;intro uu4 _
      refine aA S hE (by exact rfl) ?_
      refine eX (aI ?_)
      exact pu (by first | exact decide_eq_decide.2 (ar_73) | rfl | (rw[lI];simp only[beq_iff_eq,decide_eq_true_eq];lia))
     try replace cc3:=of_decide_eq_true cc3
     refine bI ?_ (fun cc5 t=>?_)
     ·skip
      refine aQ (aG (aA S hE (by exact rfl) ?_))
      refine aA S hE (by exact rfl) ?_
      refine aX ?_;intro uu6 _
      refine aA S hE (by exact rfl) ?_
      refine eX (aI ?_)
      exact pu (by first | exact decide_eq_decide.2 (ar_73) | rfl | (rw[lI];simp only[beq_iff_eq,decide_eq_true_eq];lia))
     try replace cc5:=of_decide_eq_true cc5
     exact dG
    ·have c3:c.1+c.2.2<q.2.1∧c.2.1+c.2.2<q.2.2.2:=by simpa using c2
     refine aZ (aU (aA S hE (by exact rfl) ?_))
     refine cA (M:=[(ma,lstO (vm++[.ref xa]) n1)]++_::[(dx,od)]) S (lJ _ (kZ ..)) ?_
     refine dI (aB (bM (aB (aG (aA S hE (by exact rfl) ?_)))))
     refine aA S hE (by exact rfl) ?_
     refine aX ?_;intro uu7 _
     refine aB (aA S hE (by exact rfl) ?_)
     refine aB (aG (aA S hE (by exact rfl) ?_))
     refine aA S hE (by exact rfl) ?_
     refine aX ?_;intro uu8 _
     refine aB (aA S hE (by exact rfl) ?_)
     refine aC (bL S (lF rfl) ?_);clear S;intro h tl B5 le5 htl S
     refine aC (bV (M₁:=[(ma,lstO (vm++[.ref xa]) n1)]) (M₂:=[(dx,od)]) S (by rw[lR,jZ];lia) ?_);clear S;intro h n S
     refine aJ (aJ (aJ (done le5 ?_ S)))
     unfold qR;rw[if_pos c3];exact .one (jJ5 tl _ _ _ _ ⟨rfl,by rw[oB,oB];exact htl⟩)
    ·have c3:¬(c.1+c.2.2<q.2.1∧c.2.1+c.2.2<q.2.2.2):=by simpa using c2
     refine aJ (aJ (aJ ?_))
     exact done (vr:=[]) (Le.refl _) (by unfold qR;rw[if_neg c3];exact .nil) (by rw[nD];exact S)
  ·replace c1:c.2.2=0:=by simpa using c1
   refine aJ (aJ ?_)
   replace S:=S.few (.cons (x:=kY "matching_blocks") rfl (.cons (x:=kY "queue") rfl (.cons (x:=kY "lb") rfl (.cons (x:=kY "la") rfl (.cons (x:=kY "self") rfl (.nil))))))
   have hmu:qmu qs'<qmu (qs'++[q]):=by rw[qmu_snoc];lia
   exact jJ4 (qs',ms) h _ _ (jH3 rfl hmu (jJ5 B3 _ _ _ _ (jH7 le3' hq' hm (hi0 c1) (by dsimp only;lia) (by dsimp only;lia) S)))
 ·rintro⟨qs,ms⟩;intro h d t;refine jI5 ?_;intro B2 vq nq vm nm;refine jG7 ?_;intro le hq hm hi hl1 hl2 S hne
  rename_i yy0 yy1 _ _ _ _ _ _ _ _ yy2 _ _ _ _ _ _ yy3;clear yy3 yy2 yy1;clear ht ht0;injection hx G sa sb hb2j hset le hq hm hi hl1 hl2 S hne with ua ub tt yy0 z1 z2 t0 B' qa ma qs ms h d t B2 vq nq vm nm
  dsimp only at hq hm hi hl1 hl2 hne
  have hqs:qs=[]:=by simpa using hne
  subst hqs
  have hperm:ms.Perm (bl (eqN as bs) (jkN as jk) (0,as.length,0,bs.length)):=by have:=hi.2;simpa using this
  have hbx:=bl_lex (eqN as bs) (jkN as jk) (0,as.length,0,bs.length) (lC _) (lC _)
  have hbl:=bl_len (eqN as bs) (jkN as jk) (0,as.length,0,bs.length) (lC _) (lC _)
  generalize bl (eqN as bs) (jkN as jk) (0,as.length,0,bs.length)=bk at hperm hbx hbl⊢
  dsimp only at hbl
  have hml:=hperm.length_eq
  replace hx:=hx.le le
  replace G:=G.le le
  replace sa:=sa.le le
  replace sb:=sb.le le
  replace hb2j:=hb2j.le le
  replace hset:=hset.le le
  refine aZ (aU (aA S hE (by exact rfl) ?_))
  refine gm_sort S (kZ ..) ?_
  refine f_m0 (l_sort (M₁:=[]) (M₂:=[(qa,lstO vq nq),(dx,od)]) S G hm (hperm.nodup_iff.2 (lex_nodup hbx)) (by lia) (hr.le (by decide)).deeper ?_)
  clear S;intro h t n vs ms' hvs hp hpw S
  have hms:ms'=bk:=lex_eq (hp.trans hperm) hpw hbx
  subst hms
  have hmd:ma≠dx:=fun q=>S.apart (M₁:=[]) (M₂:=[(qa,lstO vq nq),(dx,od)]) (dx,od) (by simp) q.symm
  have S1:=St.keep (M₁:=[]) (M₂:=[(qa,lstO vq nq),(dx,od)]) S (e4.2 _ hmd)
  have lb1:Le B2 (Base.put B2 ma (lstO vs n)):=aV _ (S.m (ma,lstO vs n) (by simp)).2.2.2
  have hlst:Lst (Base.put B2 ma (lstO vs n)) ma vs:=⟨n,aM _ _ _⟩
  generalize Base.put B2 ma (lstO vs n)=B3 at S1 lb1 hlst
  replace S:St C B3 h _ [(dx,od)]:=S1.drop (qU _ _)
  clear S1
  replace hx:=hx.le lb1
  replace G:=G.le lb1
  replace sa:=sa.le lb1
  replace sb:=sb.le lb1
  replace hb2j:=hb2j.le lb1
  replace hset:=hset.le lb1
  replace hvs:=gM hvs lb1
  refine x_three (aF ?_);intro z0 _
  refine aK (aD S hE ?_);clear S;intro h t S
  refine aK (aD S hE ?_);clear S;intro h t S
  refine aK (aD S hE ?_);clear S;intro h t S
  refine aY (bA (aC (fR S (lC _) ?_)));clear S;intro h na S
  refine aD S hE ?_;clear S;intro h t S
  replace S:=S.few (.cons (x:=kY "non_adjacent") rfl (.cons (x:=kY "k1") rfl (.cons (x:=kY "j1") rfl (.cons (x:=kY "i1") rfl (.cons (x:=kY "matching_blocks") rfl (.cons (x:=kY "lb") rfl (.cons (x:=kY "la") rfl (.cons (x:=kY "self") rfl (.nil)))))))))
  refine eD (aA S hE (by exact rfl) ?_)
  have hvl:=hvs.length
  refine gR S hlst hh (fun n B' m' M'=>∃va ca x1 x2 x3,M'=[(na,lstO va ca),(dx,od)]∧m'=vars [(kY "non_adjacent",.ref na),(kY "k1",.int ((bU (ms'.take n)).1.2.2:Nat) x3),(kY "j1",.int ((bU (ms'.take n)).1.2.1:Nat) x2),(kY "i1",.int ((bU (ms'.take n)).1.1:Nat) x1),(kY "matching_blocks",.ref ma),(kY "lb",.int bs.length ub),(kY "la",.int as.length ua),(kY "self",.ref x)]∧F2 (Bl B') va (bU (ms'.take n)).2) (fun _ _ _=>False) (fun _ _ _ _=>False) ?_ ?_ ?_ (fun _ _ _ _ _ _ _ _ _ x=>x.elim)
  ·exact jJ5 [] _ _ _ _ (jH3 rfl rfl .nil)
  ·intro n v C' B' h m' M' d t hv;refine jI5 ?_;intro va ca x1 x2 x3;refine jG3 ?_;intro zz6 zz7 hva;obtain rfl:=zz6;obtain rfl:=zz7;intro S;rintro⟨eL,eB⟩;intro le
   rename_i yy0;clear yy0;clear hp hpw hperm hbx hml lb1 hlst hx sa sb hb2j hset hvl eB;injection hbl G hvs hv hva S eL le with vs ms' B3 na n v C' B' h d t va ca x1 x2 x3
   refine jI1 ?_ (hvs.get hv);intro c;refine jG2 ?_;intro hc hmt
   have hE':aP C' _:=⟨hE.k,hE.l.trans eL.symm,hE.g,hE.b⟩
   replace G:=G.le le
   refine jI4 ?_ (hmt.le le);intro xa y1 y2 y3;refine jG2 ?_;intro zz8;refine jI2 ?_;intro dd cc;intro hmo;obtain rfl:=zz8
   have hnl:n<ms'.length:=(nF.1 hc).1
   have hrl:=fL (ms'.take n)
   rw[nG] at hrl
   have hval:=hva.length
   have htk:bU (ms'.take (n+1))=cE (bU (ms'.take n)) c:=by rw[nH,hc];exact dT _ _
   generalize bU (ms'.take n)=st at hva hrl hval htk S
   obtain⟨⟨p1,p2,p3⟩,acc⟩:=st
   dsimp only at hva hrl hval S
   refine g_mt S G hmo hh ?_;clear S;intro h S
   refine aL (aK (aD S hE' ?_));clear S;intro h t S
   refine aL (aK (aD S hE' ?_));clear S;intro h t S
   refine aL (aK (aD S hE' ?_));clear S;intro h t S
   refine cK (bH (decide (p1+p3=c.1)&&(decide (p2+p3=c.2.1)&&true)) ?_ (fun c2 t=>?_) (fun c2 t=>?_))
   ·skip
    refine bI ?_ (fun cc9 t=>?_)
    ·skip
     refine aQ (aG (aA S hE' (by exact rfl) ?_))
     refine aA S hE' (by exact rfl) ?_
     refine aX ?_;intro uu10 _
     refine aA S hE' (by exact rfl) ?_
     refine hX (aI ?_)
     exact pu (by first | exact decide_eq_decide.2 (by lia) | rfl | (rw[lI];simp only[beq_iff_eq,decide_eq_true_eq];lia))
    try replace cc9:=of_decide_eq_true cc9
    refine bI ?_ (fun cc11 t=>?_)
    ·skip
     refine aQ (aG (aA S hE' (by exact rfl) ?_))
     refine aA S hE' (by exact rfl) ?_
     refine aX ?_;intro uu12 _
     refine aA S hE' (by exact rfl) ?_
     refine hX (aI ?_)
     exact pu (by first | exact decide_eq_decide.2 (by lia) | rfl | (rw[lI];simp only[beq_iff_eq,decide_eq_true_eq];lia))
    try replace cc11:=of_decide_eq_true cc11
    exact dG
   ·have c3:p1+p3=c.1∧p2+p3=c.2.1:=by simpa using c2
    refine x_aug (l_var S hE' (by exact rfl) ?_)
    refine aA S hE' (by exact rfl) ?_
    refine j_add ?_;intro uu13 _
    refine aD S hE' ?_;clear S;intro h t S
    refine aJ (aJ ?_)
    replace S:=S.few (.cons (x:=kY "non_adjacent") rfl (.cons (x:=kY "k1") rfl (.cons (x:=kY "j1") rfl (.cons (x:=kY "i1") rfl (.cons (x:=kY "matching_blocks") rfl (.cons (x:=kY "lb") rfl (.cons (x:=kY "la") rfl (.cons (x:=kY "self") rfl (.nil)))))))))
    have e:cE ((p1,p2,p3),acc) c=((p1,p2,p3+c.2.2),acc):=by unfold cE;exact if_pos c3
    exact jJ6 h _ _ _ _ _ (jH3 rfl S (jJ5 va ca x1 x2 _ (jH3 rfl (by rw[htk,e];dsimp only;rw[oB]) (by rw[htk,e];exact hva))))
   ·have c3:¬(p1+p3=c.1∧p2+p3=c.2.1):=by simpa using c2
    replace S:=S.few (.cons (x:=kY "k2") rfl (.cons (x:=kY "j2") rfl (.cons (x:=kY "i2") rfl (.cons (x:=kY "non_adjacent") rfl (.cons (x:=kY "k1") rfl (.cons (x:=kY "j1") rfl (.cons (x:=kY "i1") rfl (.cons (x:=kY "matching_blocks") rfl (.cons (x:=kY "lb") rfl (.cons (x:=kY "la") rfl (.cons (x:=kY "self") rfl (.nil))))))))))))
    refine fW S (fun B' m' M'=>∃va' ca',M'=[(na,lstO va' ca'),(dx,od)]∧m'=vars [(kY "k2",.int (c.2.2:Nat) y3),(kY "j2",.int (c.2.1:Nat) y2),(kY "i2",.int (c.1:Nat) y1),(kY "non_adjacent",.ref na),(kY "k1",.int (p3:Nat) x3),(kY "j1",.int (p2:Nat) x2),(kY "i1",.int (p1:Nat) x1),(kY "matching_blocks",.ref ma),(kY "lb",.int bs.length ub),(kY "la",.int as.length ua),(kY "self",.ref x)]∧F2 (Bl B') va' (if p3=0 then acc else acc++[(p1,p2,p3)])) ?_ ?_
    ·refine bH (decide (p3≠0)) ?_ (fun c4 t=>?_) (fun c4 t=>?_)
     ·refine dL (aA S hE' (by exact rfl) ?_)
      refine t_int ?_
      exact pu (by rw[lI];simp)
     ·replace c4:=of_decide_eq_true c4
      refine aZ (aU (aA S hE' (by exact rfl) ?_))
      refine cA (M:=[]++_::[(dx,od)]) S (lJ _ (kZ ..)) ?_
      refine dI (aB (bM (aB (aA S hE' (by exact rfl) ?_))))
      refine aB (aA S hE' (by exact rfl) ?_)
      refine aB (aA S hE' (by exact rfl) ?_)
      refine aC (bL S (lF rfl) ?_);clear S;intro h tl B5 le5 htl S
      refine aC (bV (M₁:=[]) (M₂:=[(dx,od)]) S (by rw[jZ];exact lB (mB hval) (lB hrl (lB (Nat.min_le_right _ _) (lB hbl (lB hs1 (by decide)))))) ?_);clear S;intro h n S
      refine aJ (aJ ?_)
      exact jJ6 h _ _ _ _ _ (jH4 rfl S le5 (jJ2 _ n (jH3 rfl rfl (by rw[if_neg c4];exact(bE hva le5).snoc (jJ4 tl _ _ _ ⟨rfl,htl⟩)))))
     ·replace c4:p3=0:=by simpa using c4
      refine aJ (aJ ?_)
      exact jJ6 h _ _ _ _ _ (jH4 rfl S (Le.refl _) (jJ2 _ _ (jH3 rfl rfl (by rw[if_pos c4];exact hva))))
    ·intro h d t B5 m' M' S le5;refine jI2 ?_;intro va' ca';refine jG3 ?_;intro zz9 zz10 hva';obtain rfl:=zz9;obtain rfl:=zz10
     rename_i yy0;clear yy0;clear hc hmo hv hmt hva hrl hval c2;injection htk c3 le5 hva' S with c xa y1 y2 y3 dd cc acc p1 p2 p3 h d t B5 va' ca'
     replace G:=G.le le5
     refine eC [kY "i1",kY "j1",kY "k1"] ?_
     refine bM (aB (aA S hE' (by exact rfl) ?_))
     refine aB (aA S hE' (by exact rfl) ?_)
     refine aB (aA S hE' (by exact rfl) ?_)
     refine aC (bL S (lF rfl) ?_);clear S;intro h aa14 B' le tt15 S
     replace G:=G.le le
     refine unpk S tt15 hh rfl ?_;clear S;intro h S
     refine aL (bnd (aD S hE' ?_));clear S;intro h t S
     refine aL (bnd (aD S hE' ?_));clear S;intro h t S
     refine aL (bnd (aD S hE' ?_));clear S;intro h t S
     refine cK (aJ (aJ ?_))
     replace S:=S.few (.cons (x:=kY "non_adjacent") rfl (.cons (x:=kY "k1") rfl (.cons (x:=kY "j1") rfl (.cons (x:=kY "i1") rfl (.cons (x:=kY "matching_blocks") rfl (.cons (x:=kY "lb") rfl (.cons (x:=kY "la") rfl (.cons (x:=kY "self") rfl (.nil)))))))))
     have e:cE ((p1,p2,p3),acc) c=(c,if p3=0 then acc else acc++[(p1,p2,p3)]):=by unfold cE;exact if_neg c3
     exact jJ6 h _ _ _ _ _ (jH3 rfl S (jJ5 va' ca' _ _ _ (jH3 rfl (by rw[htk,e]) (by rw[htk,e];exact hva'.mono fun _ _ z=>z.le le))))
  rintro h d t B4 m' M' S le hj
  rename_i yy0;clear yy0;clear hp hpw hperm hbx hml lb1 hlst hvs;injection hbl hx G sa sb hb2j hset hvl S le hj with vs ms' B3 na h d t B4 m' M'
  refine jI5 ?_ (hj.resolve_right id);intro va ca x1 x2 x3;refine jG3 ?_;intro zz11 zz12 hva;obtain rfl:=zz11;obtain rfl:=zz12
  replace hx:=hx.le le
  replace G:=G.le le
  replace sa:=sa.le le
  replace sb:=sb.le le
  replace hb2j:=hb2j.le le
  replace hset:=hset.le le
  rw[pA (by lia)] at hva S
  have hrl:=fL ms'
  have hval:=hva.length
  have hof:mgOf as.length bs.length ms'=(if(bU ms').1.2.2=0 then (bU ms').2 else (bU ms').2++[(bU ms').1])++[(as.length,bs.length,0)]:=rfl
  rw[hof]
  generalize bU ms'=st at hva S hrl hval⊢
  obtain⟨⟨p1,p2,p3⟩,acc⟩:=st
  dsimp only at hva S hrl hval⊢
  refine fW S (fun B' m' M'=>∃va' ca',M'=[(na,lstO va' ca'),(dx,od)]∧m'=vars [(kY "non_adjacent",.ref na),(kY "k1",.int (p3:Nat) x3),(kY "j1",.int (p2:Nat) x2),(kY "i1",.int (p1:Nat) x1),(kY "matching_blocks",.ref ma),(kY "lb",.int bs.length ub),(kY "la",.int as.length ua),(kY "self",.ref x)]∧F2 (Bl B') va' (if p3=0 then acc else acc++[(p1,p2,p3)])) ?_ ?_
  ·refine bH (decide (p3≠0)) ?_ (fun c4 t=>?_) (fun c4 t=>?_)
   ·refine dL (aA S hE (by exact rfl) ?_)
    refine t_int ?_
    exact pu (by rw[lI];simp)
   ·replace c4:=of_decide_eq_true c4
    refine aZ (aU (aA S hE (by exact rfl) ?_))
    refine cA (M:=[]++_::[(dx,od)]) S (lJ _ (kZ ..)) ?_
    refine dI (aB (bM (aB (aA S hE (by exact rfl) ?_))))
    refine aB (aA S hE (by exact rfl) ?_)
    refine aB (aA S hE (by exact rfl) ?_)
    refine aC (bL S (lF rfl) ?_);clear S;intro h tl B5 le5 htl S
    refine aC (bV (M₁:=[]) (M₂:=[(dx,od)]) S (by rw[jZ];lia) ?_);clear S;intro h n S
    refine aJ (aJ ?_)
    exact jJ6 h _ _ _ _ _ (jH4 rfl S le5 (jJ2 _ n (jH3 rfl rfl (by rw[if_neg c4];exact(bE hva le5).snoc (jJ4 tl _ _ _ ⟨rfl,htl⟩)))))
   ·replace c4:p3=0:=by simpa using c4
    refine aJ (aJ ?_)
    exact jJ6 h _ _ _ _ _ (jH4 rfl S (Le.refl _) (jJ2 _ _ (jH3 rfl rfl (by rw[if_pos c4];exact hva))))
  intro h d t B5 m' M' S le;refine jI2 ?_;intro va' ca';refine jG3 ?_;intro zz13 zz14 hva';obtain rfl:=zz13;obtain rfl:=zz14
  rename_i yy0;clear yy0;clear hj hva hval;injection hrl le hva' S with va ca x1 x2 x3 acc p1 p2 p3 h d t B5 va' ca'
  replace hx:=hx.le le
  replace G:=G.le le
  replace sa:=sa.le le
  replace sb:=sb.le le
  replace hb2j:=hb2j.le le
  replace hset:=hset.le le
  have hvl':=hva'.length
  have hvl2:va'.length≤1000:=by
   rw[hvl']
   by_cases z:p3=0
   ·rw[if_pos z];lia
   ·rw[if_neg z,lR,mG];lia
  refine aZ (aU (aA S hE (by exact rfl) ?_))
  refine cA (M:=[]++_::[(dx,od)]) S (lJ _ (kZ ..)) ?_
  refine dI (aB (bM (aB (aA S hE (by exact rfl) ?_))))
  refine aB (aA S hE (by exact rfl) ?_)
  refine aB (aF ?_);intro zz _
  refine aC (bL S (lF rfl) ?_);clear S;intro h tl B6 le htl S
  replace hx:=hx.le le
  replace G:=G.le le
  replace sa:=sa.le le
  replace sb:=sb.le le
  replace hb2j:=hb2j.le le
  replace hset:=hset.le le
  refine aC (bV (M₁:=[]) (M₂:=[(dx,od)]) S (by rw[jZ];lia) ?_);clear S;intro h n S
  replace hva':=(bE hva' le).snoc (b:=(as.length,bs.length,0)) (jJ4 tl _ _ _ ⟨rfl,htl⟩)
  generalize (if p3=0 then acc else acc++[(p1,p2,p3)])++[(as.length,bs.length,0)]=res at hva'⊢
  have hvrl:(va'++[Value.ref tl]).length≤1000+1:=by rw[lR,mG];lia
  generalize va'++[Value.ref tl]=vres at hva' S hvrl
  have hnd:na≠dx:=fun q=>S.apart (M₁:=[]) (M₂:=[(dx,od)]) (dx,od) (by simp) q.symm
  replace S:=S.few (.cons (x:=kY "non_adjacent") rfl (.cons (x:=kY "self") rfl (.nil)))
  have S1:=St.keep (M₁:=[]) (M₂:=[(dx,od)]) S (e4.2 _ hnd)
  have lb1:Le B6 (Base.put B6 na (lstO vres n)):=aV _ (S.m (na,lstO vres n) (by simp)).2.2.2
  have hlst:Lst (Base.put B6 na (lstO vres n)) na vres:=⟨n,aM _ _ _⟩
  generalize Base.put B6 na (lstO vres n)=B7 at S1 lb1 hlst
  clear S
  have S:St C B7 h _ [(dx,od)]:=S1
  clear S1
  replace hx:=hx.le lb1
  replace G:=G.le lb1
  replace sa:=sa.le lb1
  replace sb:=sb.le lb1
  replace hb2j:=hb2j.le lb1
  replace hset:=hset.le lb1
  replace hva':=bE hva' lb1
  refine gJ (aR (cM (v:=.type "list") S hE G (glob_list _) rfl ?_))
  refine dX (aB (aR (cM (v:=.type "map") S hE G (glob_map _) rfl ?_)))
  refine dX (aB (cX (dY S hE G (iU _) ?_)))
  refine a_make rfl S G ?_;clear S;intro h t b B8 le hb S
  replace hx:=hx.le le
  replace G:=G.le le
  replace sa:=sa.le le
  replace sb:=sb.le le
  replace hb2j:=hb2j.le le
  replace hset:=hset.le le
  replace hva':=bE hva' le
  replace hlst:=hlst.le le
  refine aB (aA S hE (by exact rfl) ?_)
  refine aC (c_mapS S hlst ?_);clear S;intro h it tp mp B9 le htp hmp S
  replace hx:=hx.le le
  replace G:=G.le le
  replace sa:=sa.le le
  replace sb:=sb.le le
  replace hb2j:=hb2j.le le
  replace hset:=hset.le le
  replace hva':=bE hva' le
  replace hlst:=hlst.le le
  replace hb:=le _ _ hb
  refine aC (c_lmap S rfl rfl G hmp htp hb hlst hva' (by rw[←hva'.length];exact hvrl) ((hr.le (by decide)).deeper) ?_);clear S;intro h d t B10 ml acc cm S le hacc
  have hnm:ml≠dx:=fun q=>S.apart (M₁:=[]) (M₂:=[(dx,od)]) (dx,od) (by simp) q.symm
  have S1:=St.keep (M₁:=[]) (M₂:=[(dx,od)]) S (e4.2 _ hnm)
  have lb2:Le B10 (Base.put B10 ml (lstO acc cm)):=aV _ (S.m (ml,lstO acc cm) (by simp)).2.2.2
  have hml:Lst (Base.put B10 ml (lstO acc cm)) ml acc:=⟨cm,aM _ _ _⟩
  generalize Base.put B10 ml (lstO acc cm)=B11 at S1 lb2 hml
  clear S
  have S:St C B11 h _ ([]++(dx,od)::[]):=S1
  clear S1
  replace hx:=hx.le (le.trans lb2)
  replace G:=G.le (le.trans lb2)
  replace sa:=sa.le (le.trans lb2)
  replace sb:=sb.le (le.trans lb2)
  replace hb2j:=hb2j.le (le.trans lb2)
  replace hset:=hset.le (le.trans lb2)
  replace hacc:=gM hacc lb2
  refine aA S hE (by exact rfl) ?_
  refine cO (M₁:=[]) (M₂:=[]) S G hx ho iS (iQ _) (dM _) (by lia) ?_;clear S;intro h t od2 ho2 S
  refine cN (cX (aA S hE (by exact rfl) ?_))
  refine dK S G hx (kZ ..) ho2 iS (iQ _) (cI _) (by exact rfl) rfl ?_;intro _
  exact S.endsM e1 e2 e3 e4 (kZ ..) (jJ2 ml acc (jH4 rfl hml hacc ho2))
end
abbrev Cd:=kJ×Nat×Nat×Nat×Nat
noncomputable def iN (i h0 j h1:Nat):kJ:=if i=h0 then "insert" else if j=h1 then "delete" else "replace"
noncomputable def cF (codes:List Cd)(here p:Nat×Nat):List Cd:=if p=here then codes else codes++[(iN p.1 here.1 p.2 here.2,here.1,p.1,here.2,p.2)]
noncomputable def cW (blocks:List (Nat×Nat×Nat))(p here:Nat×Nat):Nat×Nat×Nat:=if p=here∧blocks≠[] then blocks.getLastD (0,0,0) else (p.1,p.2,0)
noncomputable def bG (st:List (Nat×Nat×Nat)×List Cd×(Nat×Nat))(p:Nat×Nat):List (Nat×Nat×Nat)×List Cd×(Nat×Nat):=
 let codes:=cF st.2.1 st.2.2 p
 let l:=cW st.1 p st.2.2
 let bs:=if p=st.2.2∧st.1≠[] then st.1.dropLast else st.1
 let cs:=if p=st.2.2∧st.1≠[] then codes.dropLast else codes
 (bs++[(l.1,l.2.1,l.2.2+1)],cs++[((("equal":kJ),l.1,p.1+1,l.2.1,p.2+1):Cd)],(p.1+1,p.2+1))
noncomputable def bX (ps:List (Nat×Nat)):List (Nat×Nat×Nat)×List Cd×(Nat×Nat):=ps.foldl bG ([],[],(0,0))
noncomputable def gH (la lb:Nat)(ps:List (Nat×Nat)):List (Nat×Nat×Nat)×List Cd:=
 let st:=bX ps
 (st.1++[(la,lb,0)],cF st.2.1 st.2.2 (la,lb))
theorem dD (ps:List (Nat×Nat))(p:Nat×Nat):bX (ps++[p])=bG (bX ps) p:=by
 unfold bX;rw[pC];rfl
theorem dueRun_codes (ps:List (Nat×Nat)):(bX ps).1≠[]→(bX ps).2.1≠[]:=by
 rcases mW ps with rfl | ⟨qs,q,rfl⟩
 ·exact fun h=>absurd rfl h
 ·intro _;rw[mX,dD];unfold bG;simp
theorem dueStep_len (st:List (Nat×Nat×Nat)×List Cd×(Nat×Nat))(p:Nat×Nat):(bG st p).1.length≤st.1.length+1∧(bG st p).2.1.length≤st.2.1.length+2:=by
 revert st p;refine no_implicit_lambda% (hkI2 (neQ (neQ neL (neQ neL (neQ neN neN))) (neQ (neQ neN neN) neU)) ?_);generalize hkc _ _=z;delta hU2;generalize pj0 z=st,pj1 z=p;clear z
 unfold bG cF
 dsimp only
 refine⟨?_,?_⟩
 ·split<;>simp<;>lia
 ·split<;>split<;>simp<;>lia
theorem dueRun_len (ps:List (Nat×Nat)):(bX ps).1.length≤ps.length∧(bX ps).2.1.length≤2*ps.length:=by
 generalize hn:ps.length=n
 induction n generalizing ps with
 | zero=>have:=nT hn;subst this;exact⟨lE _,lE _⟩
 | succ n ih=>
  rcases mW ps with rfl | ⟨qs,q,rfl⟩
  ·simp at hn
  ·rw[mX] at hn⊢
   have h1:=ih qs (by simpa using hn)
   have h2:=dueStep_len (bX qs) q
   rw[dD]
   exact⟨lB h2.1 (pU h1.1),lB h2.2 (pL h1.2 2)⟩
noncomputable def CdR (B:Base)(v:jL)(c:Cd):Prop:=∃a x0 x1 x2 x3 x4,v=.ref a∧Tup B a [.str c.1 x0,.int c.2.1 x1,.int c.2.2.1 x2,.int c.2.2.2.1 x3,.int c.2.2.2.2 x4]
theorem CdR.le {B B':Base}{v:jL}{c:Cd}(x:CdR B v c)(l:Le B B'):CdR B' v c:=jI6 (fun a x0 x1 x2 x3 x4=>jG2 fun e t=>(jJ6 a x0 x1 x2 x3 x4 ⟨e,t.le l⟩)) x
theorem bS {B B':Base}{vs:List jL}{xs:List Cd}(h:F2 (CdR B) vs xs)(l:Le B B'):F2 (CdR B') vs xs:=h.mono fun _ _ x=>x.le l
noncomputable def dBl (c:Nat×Nat×Nat):PyData:=.tuple [.int c.1,.int c.2.1,.int c.2.2]
noncomputable def dCd (c:Cd):PyData:=.tuple [.str c.1,.int c.2.1,.int c.2.2.1,.int c.2.2.2.1,.int c.2.2.2.2]
theorem Bl.rd {B:Base}{v:jL}{c:Nat×Nat×Nat}(x:Bl B v c):Rd B v (dBl c):=by
 refine jI4 ?_ x;try clear x;intro a x1 x2 x3;refine jG2 ?_;intro zz1 t;obtain rfl:=zz1
 exact .tup t (.cons (.int _ _ _) (.cons (.int _ _ _) (.cons (.int _ _ _) .nil)))
theorem CdR.rd {B:Base}{v:jL}{c:Cd}(x:CdR B v c):Rd B v (dCd c):=by
 refine jI6 ?_ x;try clear x;intro a x0 x1 x2 x3 x4;refine jG2 ?_;intro zz2 t;obtain rfl:=zz2
 exact .tup t (.cons (.str _ _ _) (.cons (.int _ _ _) (.cons (.int _ _ _) (.cons (.int _ _ _) (.cons (.int _ _ _) .nil)))))
theorem F2.map {α β γ:Type}{R:α→β→Prop}{R':α→γ→Prop}{f:β→γ}{as:List α}{bs:List β}(h:F2 R as bs)(i:∀a b,R a b→R' a (f b)):F2 R' as (bs.map f):=by
 induction h with
 | nil=>exact .nil
 | cons x _ ih=>exact .cons (i _ _ x) ih
theorem layAll {α:Type}{f:α→PyData}{k:Nat}(h:∀x,(f x).canLay0=true∧(f x).depth≤k)(l:List α):nU (l.map f)=true∧nL (l.map f)≤k:=by
 induction l with
 | nil=>exact⟨rfl,lC _⟩
 | cons x r ih=>rw[mD,nU,nL];exact⟨by rw[(h x).1,ih.1];rfl,Nat.max_le.2 ⟨(h x).2,ih.2⟩⟩
theorem lay_bl (c:Nat×Nat×Nat):(dBl c).canLay0=true∧(dBl c).depth≤1:=⟨rfl,by simp[dBl,oK,nL]⟩
theorem shaped_bls (l:List (Nat×Nat×Nat)):SeqAt.shaped (.list (l.map dBl))=true:=by
 unfold SeqAt.shaped
 rw[pD,oK,(layAll lay_bl l).1,decide_eq_true (lB (pU (layAll lay_bl l).2) (by decide))];rfl
theorem fK (i j:Int):SeqAt.shaped (.tuple [.int i,.int j])=true:=by
 unfold SeqAt.shaped;simp[pD,nU,oK,nL]
theorem eqv_pr (i j k l:Nat):oT (.tuple [.int i,.int j]) (.tuple [.int k,.int l])=decide ((i,j)=(k,l)):=by
 rw[lI];simp[oT,PyData.eqvAll];exact and_congr Int.ofNat_inj Int.ofNat_inj
theorem eqv_nil (l:List (Nat×Nat×Nat)):oT (.list (l.map dBl)) (.list [])=decide (l=[]):=by
 cases l<;>simp[oT,PyData.eqvAll]
noncomputable def sc (s:Nat)(c:Nat×Nat×Nat):Nat×Nat×Nat:=(c.1*s,c.2.1*s,c.2.2*s)
section
variable {eq eq':Nat→Nat→Bool}{jk jk':Nat→Bool}{s:Nat}
structure Sc (s:Nat)(eq eq':Nat→Nat→Bool)(jk jk':Nat→Bool)(la lb:Nat):Prop where
 pos:0<s
 e:∀i j,i<la*s→j<lb*s→eq' i j=(decide (i%s=j%s)&&eq (i/s) (j/s))
 j:∀i,i<la*s→jk' i=jk (i/s)
variable {la lb:Nat}
theorem div_lt_iff (hs:0<s)(i h:Nat):i/s<h↔i<h*s:=nI hs
theorem grow_sc {p p':Nat→Bool}{f f' k:Nat}(hs:0<s)(h:∀t,p' t=p (t/s)){b:Nat}(hb:p b=false)(hk:k≤b)(hf:b≤k+f)(hf':b*s≤k*s+f'):grow p' f' (k*s)=grow p f k*s:=by
 have g1:=eN hb hk hf
 have g2:=cR (f:=f) hb hk
 have g3:k≤grow p f k:=iJ
 have g4:∀t,k≤t→t<grow p f k→p t=true:=fun t a b=>dU a b
 generalize grow p f k=n at *
 refine grow_eq (mI _ g3) (fun t h1 h2=>?_) ?_ (lB (mI _ g2) hf')
 ·rw[h]
  refine g4 _ ((qE hs).2 h1) ((nI hs).2 h2)
 ·rw[h,Nat.mul_div_cancel _ hs];exact g1
theorem bO (hs:0<s)(i t:Nat):(i*s+t)/s=i+t/s:=by rw[nO,Nat.mul_add_div hs]
theorem dB (i t:Nat):(i*s+t)%s=t%s:=by rw[nO,Nat.mul_add_mod]
theorem runP_al (S:Sc s eq eq' jk jk' la lb){high right i j:Nat}(h1:high≤la)(h2:right≤lb)(t:Nat):runP eq' jk' (high*s) (right*s) (i*s) (j*s) t=runP eq jk high right i j (t/s):=by
 injection S h1 h2 with eq eq' jk jk' s la lb high right i j t
 unfold runP
 have a1:(i*s+t<high*s)↔(i+t/s<high):=by rw[←bO S.pos,nI S.pos]
 have a2:(j*s+t<right*s)↔(j+t/s<right):=by rw[←bO S.pos,nI S.pos]
 rw[decide_eq_decide.2 a1,decide_eq_decide.2 a2]
 by_cases q1:i+t/s<high
 ·by_cases q2:j+t/s<right
  ·have b1:=a1.2 q1
   have b2:=a2.2 q2
   have m1:high*s≤la*s:=mI _ h1
   have m2:right*s≤lb*s:=mI _ h2
   rw[S.e _ _ (lP b1 m1) (lP b2 m2),S.j _ (by omega),bO S.pos,bO S.pos,dB,dB]
   simp
  ·rw[decide_eq_false q2];simp
 ·rw[decide_eq_false q1];simp
theorem runP_stop {high right i j:Nat}:runP eq jk high right i j (high-i)=false:=by unfold runP;rw[decide_eq_false (pS (Nat.sub_le_iff_le_add'.1 (lE _)))];rfl
theorem runL_al (S:Sc s eq eq' jk jk' la lb){high right i j:Nat}(h1:high≤la)(h2:right≤lb):runL eq' jk' (high*s) (right*s) (i*s) (j*s)=runL eq jk high right i j*s:=by
 unfold runL
 have:=grow_sc (p:=runP eq jk high right i j) (p':=runP eq' jk' (high*s) (right*s) (i*s) (j*s)) (f:=high-i) (f':=high*s-i*s) (k:=0) S.pos (runP_al S h1 h2) (b:=high-i) runP_stop (lC _) (by lia) (by rw[Nat.sub_mul];lia)
 rwa [pR] at this
theorem runL_any (S:Sc s eq eq' jk jk' la lb){high right i j:Nat}(h1:high≤la)(h2:right≤lb):runL eq' jk' (high*s) (right*s) i j=0∨(i%s=j%s∧runL eq' jk' (high*s) (right*s) i j+i%s≤runL eq jk high right (i/s) (j/s)*s):=by
 injection S h1 h2 with eq eq' jk jk' s la lb high right i j
 by_cases z:runL eq' jk' (high*s) (right*s) i j=0
 ·exact .inl z
 ·right
  have hp:=S.pos
  have all:∀t,t<runL eq' jk' (high*s) (right*s) i j→runP eq' jk' (high*s) (right*s) i j t=true:=fun t ht=>dU (lC _) ht
  have p0:=all 0 (by lia)
  have get:∀t,runP eq' jk' (high*s) (right*s) i j t=true→i+t<high*s∧j+t<right*s∧eq' (i+t) (j+t)=true∧jk' (i+t)=false:=fun t ht=>by
   unfold runP at ht;simpa using ht
  have m1:high*s≤la*s:=mI _ h1
  have m2:right*s≤lb*s:=mI _ h2
  refine jG4 ?_ (get 0 p0);intro c1 c2 c3 c4
  rw[S.e _ _ (lP c1 m1) (by lia)] at c3
  have c5:(i+0)%s=(j+0)%s:=by
   have:=(mT.1 c3).1;exact of_decide_eq_true this
  rw[oL,oL] at c5
  refine⟨c5,?_⟩
  have hi:=qF i s
  have hj:=qF j s
  have hr:i%s<s:=nS _ hp
  generalize hk:runL eq' jk' (high*s) (right*s) i j=k at *
  generalize i%s=r at *
  generalize hI:i/s=I at *
  generalize hJ:j/s=J at *
  subst hi
  rw[←c5] at hj
  subst hj
  refine lU.1 fun hlt=>?_
  have stop:runP eq jk high right I J (runL eq jk high right I J)=false:=eN runP_stop (lC _) (by lia)
  generalize hR:runL eq jk high right I J=R at *
  have hx:∃t,t<k∧(s*I+r+t)=(I+R)*s+(if R=0 then r else 0)∧(s*J+r+t)=(J+R)*s+(if R=0 then r else 0):=by
   by_cases q:R=0
   ·subst q
    refine⟨0,jH3 (by lia) ?_ ?_⟩<;>simp[nO]
   ·have:s≤R*s:=Nat.le_mul_of_pos_left _ (by lia)
    refine⟨R*s-r,jH3 (Nat.sub_lt_right_of_lt_add (lB (lL hr) this) hlt) ?_ ?_⟩
    ·rw[if_neg q,nC,nO s I];exact(nA _ _ _).trans (congrArg (I*s+ ·) (nK (lB (lL hr) this)))
    ·rw[if_neg q,nC,nO s J];exact(nA _ _ _).trans (congrArg (J*s+ ·) (nK (lB (lL hr) this)))
  refine jI1 ?_ hx;try clear hx;intro t;refine jG3 ?_;intro ht e1 e2
  have pt:=get t (all t ht)
  rw[e1,e2] at pt
  refine jG4 ?_ pt;try clear pt;intro d1 d2 d3 d4
  have hr':(if R=0 then r else 0)<s:=by split<;>omega
  generalize (if R=0 then r else 0)=r' at *
  rw[S.e _ _ (lP d1 m1) (lP d2 m2),bO hp,bO hp,qY hr',oL,oL] at d3
  rw[S.j _ (lP d1 m1),bO hp,qY hr',oL] at d4
  have d3':=(mT.1 d3).2
  have f1:I+R<high:=by
   have:(I+R)*s<high*s:=mM (mQ _ _) d1
   exact rH this
  have f2:J+R<right:=by
   have:(J+R)*s<right*s:=mM (mQ _ _) d2
   exact rH this
  unfold runP at stop
  rw[decide_eq_true f1,decide_eq_true f2,d3',d4] at stop
  cases stop
theorem best_sc (S:Sc s eq eq' jk jk' la lb){low high left right:Nat}(h1:high≤la)(h2:right≤lb):eG eq' jk' (low*s) (high*s) (left*s) (right*s)=sc s (eG eq jk low high left right):=by
 injection S h1 h2 with eq eq' jk jk' s la lb low high left right
 have hp:=S.pos
 have x:=best_is eq jk low high left right
 generalize eG eq jk low high left right=b at x
 obtain⟨b1,b2,b3⟩:=b
 refine best_eq ⟨fun z=>?_,fun z=>?_,fun i j d=>?_,fun i j d e z=>?_⟩
 ·have z1:b3*s=0:=z
  have:b3=0:=by
   rcases Nat.mul_eq_zero.1 z1 with q | q
   ·exact q
   ·lia
  have:=x.z this
  simp only[sc] at *
  rw[this.1,this.2];exact⟨rfl,rfl⟩
 ·have z':b3≠0:=fun q=>z (by simp[sc,q])
  have y:=x.s z'
  refine⟨?_,?_⟩
  ·have d:=y.1
   unfold full at d⊢
   simp only[sc] at d⊢
   refine jH4 (mI _ d.1) (qZ d.2.1 hp) (mI _ d.2.2.1) (qZ d.2.2.2 hp)
  ·show runL eq' jk' (high*s) (right*s) (b1*s) (b2*s)=b3*s
   rw[runL_al S h1 h2];rw[y.2]
 ·rcases runL_any S h1 h2 (i:=i) (j:=j) with z | ⟨_,z⟩
  ·rw[z];exact lC _
  ·have d':full low high left right (i/s) (j/s):=by
    unfold full at d⊢
    exact jH4 ((qE hp).2 d.1) ((nI hp).2 d.2.1) ((qE hp).2 d.2.2.1) ((nI hp).2 d.2.2.2)
   have:=x.m _ _ d'
   have:runL eq jk high right (i/s) (j/s)*s≤b3*s:=mI _ this
   show _≤b3*s
   exact lB (mU z) this
 ·have e':runL eq' jk' (high*s) (right*s) i j=b3*s:=e
  have z':b3*s≠0:=z
  have z3:b3≠0:=fun q=>z' (by simp[q])
  rcases runL_any S h1 h2 (i:=i) (j:=j) with q | ⟨q1,q⟩
  ·lia
  ·have d':full low high left right (i/s) (j/s):=by
    unfold full at d⊢
    exact jH4 ((qE hp).2 d.1) ((nI hp).2 d.2.1) ((qE hp).2 d.2.2.1) ((nI hp).2 d.2.2.2)
   have m:=x.m _ _ d'
   have m':runL eq jk high right (i/s) (j/s)*s≤b3*s:=mI _ m
   have r0:i%s=0:=ar_62 e' q m'
   have re:runL eq jk high right (i/s) (j/s)=b3:=Nat.eq_of_mul_eq_mul_right hp (ar_63 e' q m')
   have f:=x.f _ _ d' re z3
   have hi:=qF i s
   have hj:=qF j s
   have hi':i=i/s*s:=by rw[nO];lia
   have hj':j=j/s*s:=by rw[nO];lia
   show b1*s<i∨(b1*s=i∧b2*s≤j)
   rcases f with f | ⟨f,f'⟩
   ·left;rw[hi'];exact qZ f hp
   ·right
    have f:b1=i/s:=f
    have f':b2≤j/s:=f'
    refine⟨by rw[f];exact hi'.symm,by rw[hj'];exact mI _ f'⟩
theorem back_al (S:Sc s eq eq' jk jk' la lb){low left i j:Nat}(h1:i≤la)(h2:j≤lb)(t:Nat):bP eq' jk' (low*s) (left*s) (i*s) (j*s) t=bP eq jk low left i j (t/s):=by
 injection S h1 h2 with eq eq' jk jk' s la lb low left i j t
 have hp:=S.pos
 unfold bP
 have a:∀x y:Nat,(x*s+t<y*s)↔(x+t/s<y):=fun x y=>by rw[←bO hp,nI hp]
 rw[decide_eq_decide.2 (a low i),decide_eq_decide.2 (a left j)]
 by_cases q1:low+t/s<i
 ·by_cases q2:left+t/s<j
  ·have b1:=(a _ _).2 q1
   have b2:=(a _ _).2 q2
   have m1:i*s≤la*s:=mI _ h1
   have m2:j*s≤lb*s:=mI _ h2
   have ht:=qF t s
   have hr:t%s<s:=nS _ hp
   have key:∀y,t/s<y→y*s-t-1=(y-t/s-1)*s+(s-1-t%s):=fun y hy=>by
    obtain⟨z,rfl⟩:∃z,y=t/s+1+z:=⟨y-t/s-1,(nK hy).symm⟩
    rw[show t/s+1+z-t/s-1=z by exact(Nat.add_sub_cancel_left _ _:t/s+1+z-(t/s+1)=z),nC,nC,Nat.one_mul,nO (t/s) s]
    exact ar_25 ht hr
   rw[S.e _ _ (eQ b1 m1) (eQ b2 m2),S.j _ (eQ b1 m1),key i (by lia),key j (by lia),bO hp,bO hp,qY (a:=s-1-t%s) (ar_46 hr),dB,dB,oL,oL]
   simp
  ·rw[decide_eq_false q2];simp
 ·rw[decide_eq_false q1];simp
theorem fwd_al (S:Sc s eq eq' jk jk' la lb){high right i j:Nat}(h1:high≤la)(h2:right≤lb)(t:Nat):fwdP eq' jk' (high*s) (right*s) (i*s) (j*s) t=fwdP eq jk high right i j (t/s):=by
 have hp:=S.pos
 unfold fwdP
 have a:∀x y:Nat,(x*s+t<y*s)↔(x+t/s<y):=fun x y=>by rw[←bO hp,nI hp]
 rw[decide_eq_decide.2 (a i high),decide_eq_decide.2 (a j right)]
 by_cases q1:i+t/s<high
 ·by_cases q2:j+t/s<right
  ·have b1:=(a _ _).2 q1
   have b2:=(a _ _).2 q2
   have m1:high*s≤la*s:=mI _ h1
   have m2:right*s≤lb*s:=mI _ h2
   rw[S.e _ _ (lP b1 m1) (by lia),S.j _ (by lia),bO hp,bO hp,dB,dB]
   simp
  ·rw[decide_eq_false q2];simp
 ·rw[decide_eq_false q1];simp
theorem block_sc (S:Sc s eq eq' jk jk' la lb){low high left right:Nat}(h1:high≤la)(h2:right≤lb)(g1:low≤high)(g2:left≤right):bZ eq' jk' (low*s) (high*s) (left*s) (right*s)=sc s (bZ eq jk low high left right):=by
 injection S h1 h2 g1 g2 with eq eq' jk jk' s la lb low high left right
 have hp:=S.pos
 have y:=best_in eq jk g1 g2
 unfold bZ
 rw[best_sc S h1 h2]
 generalize eG eq jk low high left right=b at y
 obtain⟨b1,b2,b3⟩:=b
 dsimp only[sc] at y⊢
 have e1:grow (bP eq' jk' (low*s) (left*s) (b1*s) (b2*s)) (b1*s) 0=grow (bP eq jk low left b1 b2) b1 0*s:=by
  have:=grow_sc (p:=bP eq jk low left b1 b2) (p':=bP eq' jk' (low*s) (left*s) (b1*s) (b2*s)) (f:=b1) (f':=b1*s) (k:=0) hp (back_al S (by lia) (by lia)) (b:=b1-low) (by unfold bP;rw[decide_eq_false (by lia)];rfl) (lC _) (lB (mN _ _) (nX _ _)) (by rw[pR,pZ];exact mI _ (mN _ _))
  rwa [pR] at this
 have z:=jF eq jk (low:=low) (left:=left) (i:=b1) (j:=b2) (f:=b1) (by lia) (by lia)
 rw[e1]
 generalize grow (bP eq jk low left b1 b2) b1 0=t at z
 rw[←Nat.sub_mul,←Nat.sub_mul,←nC]
 have e2:grow (fwdP eq' jk' (high*s) (right*s) ((b1-t)*s) ((b2-t)*s)) (high*s) ((b3+t)*s)=grow (fwdP eq jk high right (b1-t) (b2-t)) high (b3+t)*s:=
  grow_sc hp (fwd_al S h1 h2) (b:=high-(b1-t)) (by unfold fwdP;rw[decide_eq_false (pS (Nat.sub_le_iff_le_add'.1 (lE _)))];rfl) (ar_61 z.1 y.2.2.1) (lB (mN _ _) (nX _ _)) (by
   have:(high-(b1-t))*s≤high*s:=mI _ (mN _ _)
   exact lB this (nX _ _))
 rw[e2]
theorem gT (S:Sc s eq eq' jk jk' la lb):∀n low high left right:Nat,high≤la→right≤lb→low≤high→left≤right→bD eq' jk' n (low*s) (high*s) (left*s) (right*s)=(bD eq jk n low high left right).map (sc s)
 | 0,_,_,_,_,_,_,_,_=>rfl
 | n+1,low,high,left,right,h1,h2,g1,g2=>by
  have e:=block_sc S h1 h2 g1 g2
  have hp:=S.pos
  by_cases q:(bZ eq jk low high left right).2.2=0
  ·rw[bB eq jk q,bB eq' jk' (by rw[e];simp[sc,q])];rfl
  ·have q':(bZ eq' jk' (low*s) (high*s) (left*s) (right*s)).2.2≠0:=by
    rw[e];simp only[sc];exact Nat.mul_ne_zero q (by lia)
   rw[bY eq jk q,bY eq' jk' q',e]
   have x:=cL eq jk g1 g2
   dsimp only at x⊢
   generalize bZ eq jk low high left right=c at x
   rw[mP,mD]
   dsimp only[sc]
   rw[←nC,←nC,gT S n low c.1 left c.2.1 (by lia) (by lia) (by lia) (by lia),gT S n (c.1+c.2.2) high (c.2.1+c.2.2) right (by omega) (by omega) (by lia) (by lia)]
theorem bl_sc (S:Sc s eq eq' jk jk' la lb):bl eq' jk' (0,la*s,0,lb*s)=(bl eq jk (0,la,0,lb)).map (sc s):=by
 have hp:=S.pos
 have h:=gT S (la*s) 0 la 0 lb (lE _) (lE _) (lC _) (lC _)
 rw[pR] at h
 unfold bl
 dsimp only
 rw[pQ,pQ,h]
 have:la≤la*s:=Nat.le_mul_of_pos_right _ hp
 rw[cS eq jk (la*s) la 0 la 0 lb (lC _) (lC _) (by omega) (by lia)]
theorem mgRun_sc (hs:0<s)(l:List (Nat×Nat×Nat)):bU (l.map (sc s))=(sc s (bU l).1,(bU l).2.map (sc s)):=by
 injection hs with s l
 generalize hn:l.length=n
 induction n generalizing l with
 | zero=>have:=nT hn;subst this;simp[bU,sc]
 | succ n ih=>
  rcases mW l with rfl | ⟨qs,q,rfl⟩
  ·simp at hn
  ·rw[mX] at hn⊢
   rw[mP,mD,List.map_nil,dT,dT,ih qs (by simpa using hn)]
   generalize bU qs=st
   obtain⟨⟨p1,p2,p3⟩,acc⟩:=st
   obtain⟨c1,c2,c3⟩:=q
   have a:∀x y:Nat,x*s=y*s↔x=y:=fun x y=>⟨fun h=>Nat.eq_of_mul_eq_mul_right hs h,fun h=>by rw[h]⟩
   have a1:(p1*s+p3*s=c1*s∧p2*s+p3*s=c2*s)↔(p1+p3=c1∧p2+p3=c2):=by rw[←nC,←nC,a,a]
   have a2:p3*s=0↔p3=0:=by have:=a p3 0;rwa [pR] at this
   by_cases q:p1+p3=c1∧p2+p3=c2
   ·have e1:cE ((p1,p2,p3),acc) (c1,c2,c3)=((p1,p2,p3+c3),acc):=if_pos q
    have e2:cE (sc s (p1,p2,p3),acc.map (sc s)) (sc s (c1,c2,c3))=((p1*s,p2*s,p3*s+c3*s),acc.map (sc s)):=if_pos (a1.2 q)
    rw[e1,e2];simp[sc,nC]
   ·have e1:cE ((p1,p2,p3),acc) (c1,c2,c3)=((c1,c2,c3),if p3=0 then acc else acc++[(p1,p2,p3)]):=if_neg q
    have e2:cE (sc s (p1,p2,p3),acc.map (sc s)) (sc s (c1,c2,c3))=(sc s (c1,c2,c3),if p3*s=0 then acc.map (sc s) else acc.map (sc s)++[sc s (p1,p2,p3)]):=if_neg fun h=>q (a1.1 h)
    rw[e1,e2]
    by_cases z:p3=0
    ·rw[if_pos z,if_pos (a2.2 z)]
    ·rw[if_neg z,if_neg fun h=>z (a2.1 h)];simp
noncomputable def eK (la lb:Nat)(p:Nat×Nat×Nat)(acc:List (Nat×Nat×Nat)):List (Nat×Nat×Nat):=(if p.2.2=0 then acc else acc++[p])++[(la,lb,0)]
theorem mgOf_sc (hs:0<s)(la lb:Nat)(l:List (Nat×Nat×Nat)):mgOf (la*s) (lb*s) (l.map (sc s))=(mgOf la lb l).map (sc s):=by
 have e:∀(la lb:Nat) (l:List (Nat×Nat×Nat)),mgOf la lb l=eK la lb (bU l).1 (bU l).2:=fun _ _ _=>rfl
 rw[e,e,mgRun_sc hs]
 generalize bU l=st
 obtain⟨⟨p1,p2,p3⟩,acc⟩:=st
 show eK (la*s) (lb*s) (p1*s,p2*s,p3*s) (acc.map (sc s))=(eK la lb (p1,p2,p3) acc).map (sc s)
 by_cases z:p3=0
 ·have e1:eK la lb (p1,p2,p3) acc=acc++[(la,lb,0)]:=by unfold eK;rw[if_pos z]
  have e2:eK (la*s) (lb*s) (p1*s,p2*s,p3*s) (acc.map (sc s))=acc.map (sc s)++[(la*s,lb*s,0)]:=by unfold eK;rw[if_pos (by show p3*s=0;rw[z,pR])]
  rw[e1,e2];simp[sc]
 ·have e1:eK la lb (p1,p2,p3) acc=acc++[(p1,p2,p3)]++[(la,lb,0)]:=by unfold eK;rw[if_neg z]
  have e2:eK (la*s) (lb*s) (p1*s,p2*s,p3*s) (acc.map (sc s))=acc.map (sc s)++[(p1*s,p2*s,p3*s)]++[(la*s,lb*s,0)]:=by unfold eK;rw[if_neg (by show ¬p3*s=0;exact Nat.mul_ne_zero z (by lia))]
  rw[e1,e2];simp[sc]
end
noncomputable def dN (h0 h1 i j:Nat):Option kJ:=if h0<i∧h1<j then some "replace" else if h0<i then some "delete" else if h1<j then some "insert" else none
noncomputable def cT (st:(Nat×Nat)×List Cd)(c:Nat×Nat×Nat):List Cd:=match dN st.1.1 st.1.2 c.1 c.2.1 with
 | some t=>st.2++[(t,st.1.1,c.1,st.1.2,c.2.1)]
 | none=>st.2
noncomputable def dH (st:(Nat×Nat)×List Cd)(c:Nat×Nat×Nat):(Nat×Nat)×List Cd:=
 ((c.1+c.2.2,c.2.1+c.2.2),if c.2.2=0 then cT st c else cT st c++[((("equal":kJ),c.1,c.1+c.2.2,c.2.1,c.2.1+c.2.2):Cd)])
noncomputable def bR (l:List (Nat×Nat×Nat)):(Nat×Nat)×List Cd:=l.foldl dH ((0,0),[])
theorem cC (l:List (Nat×Nat×Nat))(c:Nat×Nat×Nat):bR (l++[c])=dH (bR l) c:=by unfold bR;rw[pC];rfl
theorem opPre_tag (st:(Nat×Nat)×List Cd)(i j k:Nat)(h1:st.1.1≤i)(h2:st.1.2≤j):cT st (i,j,k)=cF st.2 st.1 (i,j):=by
 injection h1 h2 with st i j k
 obtain⟨⟨a,b⟩,cs⟩:=st
 dsimp only at h1 h2
 unfold cT cF dN iN
 dsimp only
 by_cases e1:i=a
 ·by_cases e2:j=b
  ·subst e1 e2;simp
  ·subst e1
   have:b<j:=by lia
   have e3:¬((i,j)=(i,b)):=by simp[e2]
   rw[if_neg e3,if_neg (by lia),if_neg (by lia),if_pos this,if_pos rfl]
 ·have q1:a<i:=by lia
  have e3:¬((i,j)=(a,b)):=by simp[e1]
  rw[if_neg e3,if_neg e1]
  by_cases e2:j=b
  ·subst e2;rw[if_neg (by lia),if_pos q1,if_pos rfl]
  ·rw[if_pos ⟨q1,by lia⟩,if_neg e2]
structure CI (st:List (Nat×Nat×Nat)×List Cd×(Nat×Nat)):Prop where
 c:st.2.1=(bR st.1).2
 h:(bR st.1).1=st.2.2
 z:∀b∈st.1,b.2.2≠0
theorem CI.step {st:List (Nat×Nat×Nat)×List Cd×(Nat×Nat)}(x:CI st){p:Nat×Nat}(h1:st.2.2.1≤p.1)(h2:st.2.2.2≤p.2):CI (bG st p):=by
 injection x h1 h2 with st p
 obtain⟨bs,cs,he⟩:=st
 obtain⟨xc,xh,xz⟩:=x
 obtain⟨i,j⟩:=p
 dsimp only at *
 by_cases q:(i,j)=he∧bs≠[]
 ·obtain⟨q1,q2⟩:=q
  obtain⟨b,⟨a1,a2,k⟩,rfl⟩:∃b c,bs=b++[c]:=jJ2 bs.dropLast (bs.getLast q2) ((List.dropLast_concat_getLast q2).symm)
  have hk:k≠0:=xz _ (lJ _ (lA.2 rfl))
  have e:bG (b++[(a1,a2,k)],cs,he) (i,j)=(b++[(a1,a2,k+1)],cs.dropLast++[((("equal":kJ),a1,i+1,a2,j+1):Cd)],(i+1,j+1)):=by
   unfold bG cF cW
   dsimp only
   simp[q1]
  rw[e]
  rw[cC] at xc xh
  have he':(a1+k,a2+k)=he:=xh
  rw[←q1] at he'
  have e1:a1+k=i:=congrArg Prod.fst he'
  have e2:a2+k=j:=congrArg Prod.snd he'
  have xc':cs=cT (bR b) (a1,a2,k)++[((("equal":kJ),a1,a1+k,a2,a2+k):Cd)]:=by rw[xc];unfold dH;dsimp only;rw[if_neg hk]
  refine⟨?_,?_,?_⟩
  ·dsimp only
   rw[cC,xc',List.dropLast_concat]
   unfold dH
   dsimp only
   rw[if_neg (by lia),←nA,←nA,e1,e2]
   rfl
  ·dsimp only
   rw[cC]
   show(a1+(k+1),a2+(k+1))=_
   rw[←nA,←nA,e1,e2]
  ·intro c hc
   rcases lQ.1 hc with hc | hc
   ·exact xz c (mJ _ hc)
   ·rw[lA.1 hc];exact pP _
 ·have e:bG (bs,cs,he) (i,j)=(bs++[(i,j,1)],cF cs he (i,j)++[((("equal":kJ),i,i+1,j,j+1):Cd)],(i+1,j+1)):=by
   unfold bG cW
   dsimp only
   rw[if_neg q,if_neg q,if_neg q]
  rw[e]
  refine⟨?_,?_,?_⟩
  ·dsimp only
   rw[cC]
   show _=(if(1:Nat)=0 then cT (bR bs) (i,j,1) else cT (bR bs) (i,j,1)++[((("equal":kJ),i,i+1,j,j+1):Cd)])
   rw[if_neg (by decide),opPre_tag _ _ _ _ (by rw[xh];exact h1) (by rw[xh];exact h2),xc,xh]
  ·dsimp only
   rw[cC];rfl
  ·intro c hc
   rcases lQ.1 hc with hc | hc
   ·exact xz c hc
   ·rw[lA.1 hc];exact pP _
theorem fI (qs:List (Nat×Nat))(q:Nat×Nat):(bX (qs++[q])).2.2=(q.1+1,q.2+1):=by rw[dD];rfl
theorem CI.run (ps:List (Nat×Nat))(h:ps.Pairwise fun a b=>a.1+1≤b.1∧a.2+1≤b.2):CI (bX ps):=by
 generalize hn:ps.length=n
 induction n generalizing ps with
 | zero=>have:=nT hn;subst this;exact⟨rfl,rfl,fun b hb=>by cases hb⟩
 | succ n ih=>
  rcases mW ps with rfl | ⟨qs,q,rfl⟩
  ·simp at hn
  ·rw[mX] at hn h⊢
   rw[qW] at h
   rw[dD]
   have x:=ih qs h.1 (by simpa using hn)
   rcases mW qs with rfl | ⟨rs,r,rfl⟩
   ·exact x.step (lC _) (lC _)
   ·rw[mX] at x h⊢
    have:=h.2.2 r (by simp) q (by simp)
    exact x.step (by rw[fI];exact this.1) (by rw[fI];exact this.2)
noncomputable def DI (st:List (Nat×Nat×Nat)×List Cd×(Nat×Nat))(p:Nat×Nat×Nat)(acc:List (Nat×Nat×Nat)):Prop:=
 (p=(0,0,0)∧acc=[]∧st.1=[]∧st.2.2=(0,0))∨(p.2.2≠0∧st.1=acc++[p]∧st.2.2=(p.1+p.2.2,p.2.1+p.2.2))
noncomputable def pls (i j n:Nat):List (Nat×Nat):=(lW n).map fun k=>(i+k,j+k)
theorem pls_succ (i j n:Nat):pls i j (n+1)=pls i j n++[(i+n,j+n)]:=by unfold pls;rw[List.range_succ,mP];rfl
theorem pls_cons (i j n:Nat):pls i j (n+1)=(i,j)::pls (i+1) (j+1) n:=by
 unfold pls;rw[List.range_succ_eq_map,mD,nP]
 congr 1
 apply qV;intro k _;show(i+(k+1),j+(k+1))=_;rw[qK,qK j];rfl
theorem due_join {st:List (Nat×Nat×Nat)×List Cd×(Nat×Nat)}{a1 a2 k:Nat}{acc:List (Nat×Nat×Nat)}(h1:st.1=acc++[(a1,a2,k)])(h2:st.2.2=(a1+k,a2+k))(n:Nat):
  ((pls (a1+k) (a2+k) n).foldl bG st).1=acc++[(a1,a2,k+n)]∧((pls (a1+k) (a2+k) n).foldl bG st).2.2=(a1+(k+n),a2+(k+n)):=by
 injection h1 h2 with st a1 a2 k acc n
 induction n with
 | zero=>exact⟨h1,h2⟩
 | succ n ih=>
  rw[pls_succ,pC]
  generalize (pls (a1+k) (a2+k) n).foldl bG st=s2 at ih
  obtain⟨bs,cs,he⟩:=s2
  obtain⟨e1,e2⟩:=ih
  dsimp only at e1 e2
  subst e1 e2
  show(bG _ _).1=_∧(bG _ _).2.2=_
  unfold bG cW
  dsimp only
  have q:(a1+k+n,a2+k+n)=(a1+(k+n),a2+(k+n))∧acc++[(a1,a2,k+n)]≠[]:=⟨by rw[nA,nA],by simp⟩
  rw[if_pos q,if_pos q]
  refine⟨by simp[nA],by simp[nA]⟩
theorem DI.step {st:List (Nat×Nat×Nat)×List Cd×(Nat×Nat)}{p:Nat×Nat×Nat}{acc:List (Nat×Nat×Nat)}(x:DI st p acc)(c:Nat×Nat×Nat)(hc:1≤c.2.2):
  DI ((pls c.1 c.2.1 c.2.2).foldl bG st) (cE (p,acc) c).1 (cE (p,acc) c).2:=by
 injection x hc with st p acc c
 obtain⟨c1,c2,c3⟩:=c
 obtain⟨n,rfl⟩:∃n,c3=n+1:=⟨c3-1,by dsimp only at hc;exact(pE hc).symm⟩
 obtain⟨p1,p2,p3⟩:=p
 dsimp only
 have new:¬((c1,c2)=st.2.2∧st.1≠[])→((pls c1 c2 (n+1)).foldl bG st).1=st.1++[(c1,c2,n+1)]∧((pls c1 c2 (n+1)).foldl bG st).2.2=(c1+(n+1),c2+(n+1)):=fun q=>by
  rw[pls_cons,qG]
  have e1:(bG st (c1,c2)).1=st.1++[(c1,c2,1)]:=by unfold bG cW;dsimp only;rw[if_neg q,if_neg q]
  have:=due_join (st:=bG st (c1,c2)) e1 rfl n
  rw[oQ 1 n] at this
  exact this
 rcases x with ⟨x1,x2,x3,x4⟩ | ⟨x1,x2,x3⟩
 ·obtain⟨rfl,rfl,rfl⟩:p1=0∧p2=0∧p3=0:=by simpa using x1
  subst x2
  have y:=new (by rw[x3];simp)
  rw[x3] at y
  by_cases q:(0+0=c1∧0+0=c2)
  ·have e:cE ((0,0,0),[]) (c1,c2,n+1)=((0,0,0+(n+1)),[]):=if_pos q
   rw[e]
   obtain⟨rfl,rfl⟩:=q
   refine .inr (jH3 (by simp) (by rw[y.1];simp) (by rw[y.2];simp))
  ·have e:cE ((0,0,0),[]) (c1,c2,n+1)=((c1,c2,n+1),[]):=if_neg q
   rw[e]
   exact .inr (jH3 (pP _) y.1 y.2)
 ·dsimp only at x1 x2 x3
  by_cases q:(p1+p3=c1∧p2+p3=c2)
  ·have e:cE ((p1,p2,p3),acc) (c1,c2,n+1)=((p1,p2,p3+(n+1)),acc):=if_pos q
   rw[e]
   obtain⟨rfl,rfl⟩:=q
   have y:=due_join x2 x3 (n+1)
   exact .inr (jH3 (by dsimp only;lia) y.1 y.2)
  ·have e:cE ((p1,p2,p3),acc) (c1,c2,n+1)=((c1,c2,n+1),acc++[(p1,p2,p3)]):=by
    have:cE ((p1,p2,p3),acc) (c1,c2,n+1)=((c1,c2,n+1),if p3=0 then acc else acc++[(p1,p2,p3)]):=if_neg q
    rw[this,if_neg x1]
   rw[e]
   have y:=new (by rw[x3];intro h;exact q ⟨(congrArg Prod.fst h.1).symm,(congrArg Prod.snd h.1).symm⟩)
   rw[x2] at y
   exact .inr (jH3 (pP _) y.1 y.2)
theorem DI.run (l:List (Nat×Nat×Nat))(h:∀c∈l,1≤c.2.2):DI (bX (aW l)) (bU l).1 (bU l).2:=by
 generalize hn:l.length=n
 induction n generalizing l with
 | zero=>have:=nT hn;subst this;exact .inl (jH4 rfl rfl rfl rfl)
 | succ n ih=>
  rcases mW l with rfl | ⟨qs,q,rfl⟩
  ·simp at hn
  ·rw[mX] at hn h⊢
   have x:=ih qs (fun c hc=>h c (mJ _ hc)) (by simpa using hn)
   have y:=x.step q (h q (by simp))
   have e:aW (qs++[q])=aW qs++pls q.1 q.2.1 q.2.2:=by unfold aW pls;rw[nQ];simp
   rw[e,dT]
   unfold bX
   rw[pC]
   exact y
theorem places_pw (l:List (Nat×Nat×Nat))(h:l.Pairwise fun a b=>a.1+a.2.2≤b.1∧a.2.1+a.2.2≤b.2.1):(aW l).Pairwise fun a b=>a.1+1≤b.1∧a.2+1≤b.2:=by
 induction h with
 | nil=>exact .nil
 | @cons a l ha _ ih=>
  unfold aW
  rw[mO,qW]
  refine jH3 ?_ ih (fun x hx y hy=>?_)
  ·rw[qN]
   refine List.Pairwise.imp (fun {x y} (q:x<y)=>?_) List.pairwise_lt_range
   dsimp only;lia
  ·refine jI1 ?_ (mC.1 hx);intro k;refine jG2 ?_;intro hk zz1;obtain rfl:=zz1
   refine jI1 ?_ (nV.1 hy);intro c;refine jG2 ?_;intro hc hy
   refine jI1 ?_ (mC.1 hy);intro k';refine jG2 ?_;intro hk' zz2;obtain rfl:=zz2
   have h1:=ha c hc
   have h2:=nB.1 hk
   dsimp only;exact⟨lB (lB (pH h2 _) h1.1) (mQ _ _),lB (lB (pH h2 _) h1.2) (mQ _ _)⟩
theorem mgOf_pos (la lb:Nat)(l:List (Nat×Nat×Nat)):mgOf la lb l=eK la lb (bU l).1 (bU l).2:=rfl
theorem due_eq {la lb:Nat}{l:List (Nat×Nat×Nat)}(h1:∀c∈l,c.1+c.2.2≤la∧c.2.1+c.2.2≤lb∧1≤c.2.2)(h2:l.Pairwise fun a b=>a.1+a.2.2≤b.1∧a.2.1+a.2.2≤b.2.1):
  gH la lb (aW l)=(mgOf la lb l,(bR (mgOf la lb l)).2):=by
 injection h1 h2 with la lb l
 have x:=CI.run _ (places_pw l h2)
 have y:=DI.run l (fun c hc=>(h1 c hc).2.2)
 have hb:(bX (aW l)).2.2.1≤la∧(bX (aW l)).2.2.2≤lb:=by
  rcases mW (aW l) with e | ⟨qs,q,e⟩
  ·rw[e];exact⟨lC _,lC _⟩
  ·rw[e,mX,fI]
   have:q∈aW l:=by rw[e];simp
   unfold aW at this
   refine jI1 ?_ (nV.1 this);intro c;refine jG2 ?_;intro hc hq
   refine jI1 ?_ (mC.1 hq);intro k;refine jG2 ?_;intro hk zz3;obtain rfl:=zz3
   have h3:=h1 c hc
   have h4:=nB.1 hk
   dsimp only;exact⟨lB (pH h4 _) h3.1,lB (pH h4 _) h3.2.1⟩
 have e:mgOf la lb l=(bX (aW l)).1++[(la,lb,0)]:=by
  rw[mgOf_pos]
  generalize bU l=m at y
  obtain⟨⟨p1,p2,p3⟩,acc⟩:=m
  unfold eK
  rcases y with ⟨y1,y2,y3,y4⟩ | ⟨y1,y2,y3⟩
  ·dsimp only at y1 y2
   obtain⟨rfl,rfl,rfl⟩:p1=0∧p2=0∧p3=0:=by simpa using y1
   rw[y3,y2];rfl
  ·dsimp only at y1 y2⊢
   rw[if_neg y1,y2]
 rw[e,cC]
 unfold gH
 generalize bX (aW l)=st at x hb
 obtain⟨bs,cs,he⟩:=st
 obtain⟨xc,xh,xz⟩:=x
 dsimp only at xc xh hb⊢
 have e3:(dH (bR bs) (la,lb,0)).2=cT (bR bs) (la,lb,0):=by unfold dH;dsimp only;rw[if_pos rfl]
 rw[e3,opPre_tag _ _ _ _ (by rw[xh];exact hb.1) (by rw[xh];exact hb.2),xc,xh]
noncomputable def scC (s:Nat)(c:Cd):Cd:=(c.1,c.2.1*s,c.2.2.1*s,c.2.2.2.1*s,c.2.2.2.2*s)
theorem opRun_sc {s:Nat}(hs:0<s)(l:List (Nat×Nat×Nat)):bR (l.map (sc s))=(((bR l).1.1*s,(bR l).1.2*s),(bR l).2.map (scC s)):=by
 injection hs with s l
 generalize hn:l.length=n
 induction n generalizing l with
 | zero=>have:=nT hn;subst this;simp[bR]
 | succ n ih=>
  rcases mW l with rfl | ⟨qs,q,rfl⟩
  ·simp at hn
  ·rw[mX] at hn⊢
   rw[mP,mD,List.map_nil,cC,cC,ih qs (by simpa using hn)]
   generalize bR qs=st
   obtain⟨⟨a,b⟩,cs⟩:=st
   obtain⟨i,j,k⟩:=q
   have lt:∀x y:Nat,x*s<y*s↔x<y:=fun x y=>⟨fun h=>rH h,fun h=>qZ h hs⟩
   have et:dN (a*s) (b*s) (i*s) (j*s)=dN a b i j:=by
    unfold dN
    simp only[lt]
   have ep:cT ((a*s,b*s),cs.map (scC s)) (i*s,j*s,k*s)=(cT ((a,b),cs) (i,j,k)).map (scC s):=by
    unfold cT
    dsimp only
    rw[et]
    cases dN a b i j with
    | none=>rfl
    | some t=>simp[scC]
   show dH ((a*s,b*s),cs.map (scC s)) (i*s,j*s,k*s)=_
   unfold dH
   dsimp only
   rw[ep]
   by_cases z:k=0
   ·subst z;simp
   ·have z':k*s≠0:=Nat.mul_ne_zero z (by lia)
    rw[if_neg z,if_neg z']
    simp[scC,nC]
section
variable {w:jS}{A:jV}{h:kI}{g:Array jX}{d:kU}{t:Nat}{os:jU}{QB:Bool→jP→Prop}{E:jL→jP→Prop}
theorem t_str {x:kJ}{u:Tok}(hx:x.cps.size≤1000)(k:∀t',QB (decide (x.cps.size≠0)) ⟨h,g,d,t',os⟩):jN (jM PW w) A (truthy (.str x u)) QB E ⟨h,g,d,t,os⟩:=by
 refine PySem.P.truthy_str (by unfold oG;lia) ?_
 have:((x.length:Int) != 0)=decide (x.cps.size≠0):=by rw[lI];unfold oG;simp
 rw[this];exact k _
end
section
variable {w:jS}{A:jV}{s:jP}{mg mb:kJ→Option jL}{B:Base}
theorem c_gmb2 {x dx ml:jQ}{od:kK}{L:List (kJ×jL)}
  (hx:InsB B x dx) (hd:s.heap.get? dx=some od) (hdB:B dx=none) (ho:NsO od (vars L))
  (lm:L.lookup (kY "matching_blocks")=some (.ref ml))
  (G:Gr w mg mb B) (hB:∀a o,B a=some o→s.heap.get? a=some o) (hr:Room A 1):
  jN (jM PW w) A (call (.ref 203) [.ref x]) (dF B s dx fun v B' od'=>v=.ref ml∧od'=od) no s:=by
 refine' gI (o:=o_203 w.params) (binds:=[(kY "self",.ref x)]) G hB hd hdB hr.d' ?ho ?hd ?hcd ?hb ?c1 ?c2 ?c3 ?c4 ?c5 ?_
 case ho=>exact rfl
 case hd=>exact rfl
 case hcd=>exact rfl
 case hb=>exact BindsTo.of_eq rfl
 case c1=>decide
 case c2=>exact locs rfl
 case c3=>exact rfl
 case c4=>exact rfl
 case c5=>exact rfl
 intro C h t e1 e2 S e3 e4
 generalize hEe:envX _ _ C.L _ _ []=env
 have hE:aP C env:=hEe▸⟨rfl,rfl,rfl,rfl⟩
 subst hEe
 change St C B h (vars [(kY "self",.ref x)]) ([]++(dx,od)::[]) at S
 refine aZ (bW ?_);intro _ _
 refine bH true ?_ (fun c t=>?_) (fun c=>nomatch c)
 ·refine aQ (cX (aA S hE (by exact rfl) ?_))
  refine dK S G hx (kZ ..) ho iS (iQ _) (cI _) lm rfl ?_;intro _
  refine dJ (isnot_none_ne (by intro q;cases q) ?_)
  refine aI ?_
  exact pu rfl
 refine cN (cX (aA S hE (by exact rfl) ?_))
 refine dK S G hx (kZ ..) ho iS (iQ _) (cI _) lm rfl ?_;intro _
 exact t_ret (S.endsM e1 e2 e3 e4 (kZ ..) ⟨rfl,rfl⟩)
theorem c_gop {x dx ml:jQ}{od:kK}{L:List (kJ×jL)}{vm:List jL}{ms:List (Nat×Nat×Nat)}
  (hx:InsB B x dx) (hd:s.heap.get? dx=some od) (hdB:B dx=none) (ho:NsO od (vars L)) (hsz:L.length≤50)
  (lm:L.lookup (kY "matching_blocks")=some (.ref ml)) (lo:L.lookup (kY "opcodes")=some .none) (lg:L.lookup (kY "get_matching_blocks")=none)
  (hl:Lst B ml vm) (hm:F2 (Mt B) vm ms) (hs1:ms.length≤1000)
  (G:Gr w mg mb B) (hB:∀a o,B a=some o→s.heap.get? a=some o) (hr:Room A 4):
  jN (jM PW w) A (call (.ref 210) [.ref x]) (dF B s dx fun v B' od'=>∃l vs,v=.ref l∧Lst B' l vs∧F2 (CdR B') vs (bR ms).2) no s:=by
 refine' gI (o:=o_210 w.params) (binds:=[(kY "self",.ref x)]) G hB hd hdB hr.d' ?ho ?hd ?hcd ?hb ?c1 ?c2 ?c3 ?c4 ?c5 ?_
 case ho=>exact rfl
 case hd=>exact rfl
 case hcd=>exact rfl
 case hb=>exact BindsTo.of_eq rfl
 case c1=>decide
 case c2=>exact locs rfl
 case c3=>exact rfl
 case c4=>exact rfl
 case c5=>exact rfl
 intro C h t e1 e2 S e3 e4
 have hh:=hr.h
 generalize hEe:envX _ _ C.L _ _ []=env
 have hE:aP C env:=hEe▸⟨rfl,rfl,rfl,rfl⟩
 subst hEe
 change St C B h (vars [(kY "self",.ref x)]) ([]++(dx,od)::[]) at S
 clear hd hdB hB;injection hx ho hsz lm lo lg hl hm hs1 G hr e1 e2 e3 e4 hh hE S with w A s mg mb B x dx ml od L vm ms C h t
 refine aZ (bW ?_);intro _ _
 refine bH false ?_ (fun c=>nomatch c) (fun c t=>?_)
 ·refine aQ (cX (aA S hE (by exact rfl) ?_))
  refine dK S G hx (kZ ..) ho ob_opc (sm_opc _) (cI _) lo rfl ?_;intro _
  refine dJ (isnot_none_none (aI ?_))
  exact pu rfl
 refine aJ (fQ (aF ?_));intro z0 _
 refine aK (aD S hE ?_);clear S;intro h t S
 refine aK (aD S hE ?_);clear S;intro h t S
 refine fQ (bA (aC (fR S (lC _) ?_)));clear S;intro h na S
 refine fS (aA S hE (by exact rfl) ?_)
 have hnd:na≠dx:=fun q=>S.apart (M₁:=[]) (M₂:=[(dx,od)]) (dx,od) (by simp) q.symm
 refine cO (M₁:=[(na,lstO [] 0)]) (M₂:=[]) S G hx ho ob_opc (sm_opc _) (dM _) (by lia) ?_;clear S;intro h t od2 ho2 S
 refine aK (aD S hE ?_);clear S;intro h t S
 refine eD (aU (aA S hE (by exact rfl) ?_))
 refine eF (of:=o_203 w.params) S G hx (by simp) ho2 (sm_gmb _) rfl rfl (cI _) (gW _) (by rw[bT (by decide)];exact lg) ob_gmb ?_
 refine iK S G (kp_203 _) ?_
 have A1:=S.m (dx,od2) (by simp)
 refine useM (M₁:=[(na,lstO [] 0)]) (M₂:=[]) S (c_gmb2 hx A1.1 A1.2.2.2 ho2 (by rw[bT (by decide)];exact lm) G S.b (hr.deeper.le (by decide))) ?_;clear S A1
 rintro v h d t B2 od3 S le ⟨rfl,rfl⟩
 replace hx:=hx.le le
 replace hl:=hl.le le
 replace hm:=gM hm le
 replace G:=G.le le
 replace S:=S.few (.cons (x:=kY "answer") rfl (.cons (x:=kY "j") rfl (.cons (x:=kY "i") rfl (.cons (x:=kY "self") rfl (.nil)))))
 have hml:=hm.length
 refine gR S hl hh (fun n B' m' M'=>∃va ca x1 x2,M'=[(na,lstO va ca),(dx,od3)]∧m'=vars [(kY "answer",.ref na),(kY "j",.int ((bR (ms.take n)).1.2:Nat) x2),(kY "i",.int ((bR (ms.take n)).1.1:Nat) x1),(kY "self",.ref x)]∧F2 (CdR B') va (bR (ms.take n)).2∧va.length≤2*n) (fun _ _ _=>False) (fun _ _ _ _=>False) ?_ ?_ ?_ (fun _ _ _ _ _ _ _ _ _ x=>x.elim)
 ·exact jJ4 [] _ _ _ (jH4 rfl rfl .nil (lC _))
 ·intro n v C' B' h m' M' d t hv;refine jI4 ?_;intro va ca x1 x2;refine jG4 ?_;intro zz1 zz2 hva hvl;obtain rfl:=zz1;obtain rfl:=zz2;intro S;rintro⟨eL,eB⟩;intro le
  rename_i yy0 yy1;clear yy1 yy0;clear hnd ho2 hx hl eB;injection hm G hv hva hvl S eL le with na B2 od3 n v C' B' h d t va ca x1 x2
  refine jI1 ?_ (hm.get hv);intro c;refine jG2 ?_;intro hc hmt
  have hE':aP C' _:=⟨hE.k,hE.l.trans eL.symm,hE.g,hE.b⟩
  have hnl:n<ms.length:=(nF.1 hc).1
  replace G:=G.le le
  refine jI4 ?_ (hmt.le le);intro xa y1 y2 y3;refine jG2 ?_;intro zz3;refine jI2 ?_;intro dd cc;intro hmo;obtain rfl:=zz3
  have htk:bR (ms.take (n+1))=dH (bR (ms.take n)) c:=by rw[nH,hc];exact cC _ _
  generalize bR (ms.take n)=st at hva htk S
  obtain⟨⟨p1,p2⟩,acc⟩:=st
  dsimp only at hva S
  refine g_mt S G hmo hh ?_;clear S;intro h S
  refine aL (aK (aD S hE' ?_));clear S;intro h t S
  refine aL (aK (aD S hE' ?_));clear S;intro h t S
  refine aL (aK (aD S hE' ?_));clear S;intro h t S
  refine cK (aY (bW ?_));intro ut _
  refine aD S hE' ?_;clear S;intro h t S
  replace S:=S.few (.cons (x:=kY "tag") rfl (.cons (x:=kY "size") rfl (.cons (x:=kY "bj") rfl (.cons (x:=kY "ai") rfl (.cons (x:=kY "answer") rfl (.cons (x:=kY "j") rfl (.cons (x:=kY "i") rfl (.cons (x:=kY "self") rfl (.nil)))))))))
  refine fW S (fun B' m' M'=>∃tg ut',M'=[(na,lstO va ca),(dx,od3)]∧m'=vars [(kY "tag",.str tg ut'),(kY "size",.int (c.2.2:Nat) y3),(kY "bj",.int (c.2.1:Nat) y2),(kY "ai",.int (c.1:Nat) y1),(kY "answer",.ref na),(kY "j",.int (p2:Nat) x2),(kY "i",.int (p1:Nat) x1),(kY "self",.ref x)]∧(tg.cps.size≤1000∧((tg=""∧dN p1 p2 c.1 c.2.1=none)∨(tg.cps.size≠0∧dN p1 p2 c.1 c.2.1=some tg)))) ?_ ?_
  ·refine bH (decide (p1<c.1)&&(decide (p2<c.2.1)&&true)) ?_ (fun c2 t=>?_) (fun c2 t=>?_)
   ·skip
    refine bI ?_ (fun cc1 t=>?_)
    ·skip
     refine aQ (aA S hE' (by exact rfl) ?_)
     refine aA S hE' (by exact rfl) ?_
     refine eX (aI ?_)
     exact pu (by first | exact decide_eq_decide.2 (mS) | rfl | (rw[lI];simp only[beq_iff_eq,decide_eq_true_eq];lia))
    try replace cc1:=of_decide_eq_true cc1
    refine bI ?_ (fun cc2 t=>?_)
    ·skip
     refine aQ (aA S hE' (by exact rfl) ?_)
     refine aA S hE' (by exact rfl) ?_
     refine eX (aI ?_)
     exact pu (by first | exact decide_eq_decide.2 (mS) | rfl | (rw[lI];simp only[beq_iff_eq,decide_eq_true_eq];lia))
    try replace cc2:=of_decide_eq_true cc2
    exact dG
   ·have c3:p1<c.1∧p2<c.2.1:=by simpa using c2
    refine aY (bW ?_);intro ut2 _
    refine aD S hE' ?_;clear S;intro h t S
    refine aJ (aJ ?_)
    replace S:=S.few (.cons (x:=kY "tag") rfl (.cons (x:=kY "size") rfl (.cons (x:=kY "bj") rfl (.cons (x:=kY "ai") rfl (.cons (x:=kY "answer") rfl (.cons (x:=kY "j") rfl (.cons (x:=kY "i") rfl (.cons (x:=kY "self") rfl (.nil)))))))))
    exact jJ6 h _ _ _ _ _ (jH4 rfl S (Le.refl _) (jJ2 ("replace") ut2 (jH4 rfl rfl (by decide) (.inr ⟨by decide,by unfold dN;rw[if_pos c3]⟩))))
   ·have c3:¬(p1<c.1∧p2<c.2.1):=by simpa using c2
    refine bH (decide (p1<c.1)) ?_ (fun c4 t=>?_) (fun c4 t=>?_)
    ·skip
     refine aQ (aA S hE' (by exact rfl) ?_)
     refine aA S hE' (by exact rfl) ?_
     refine eX (aI ?_)
     exact pu (by first | exact decide_eq_decide.2 (by lia) | rfl | (rw[lI];simp only[beq_iff_eq,decide_eq_true_eq];lia))
    ·replace c4:=of_decide_eq_true c4
     refine aY (bW ?_);intro ut2 _
     refine aD S hE' ?_;clear S;intro h t S
     refine aJ (aJ (aJ ?_))
     replace S:=S.few (.cons (x:=kY "tag") rfl (.cons (x:=kY "size") rfl (.cons (x:=kY "bj") rfl (.cons (x:=kY "ai") rfl (.cons (x:=kY "answer") rfl (.cons (x:=kY "j") rfl (.cons (x:=kY "i") rfl (.cons (x:=kY "self") rfl (.nil)))))))))
     exact jJ6 h _ _ _ _ _ (jH4 rfl S (Le.refl _) (jJ2 ("delete") ut2 (jH4 rfl rfl (by decide) (.inr ⟨by decide,by unfold dN;rw[if_neg c3,if_pos c4]⟩))))
    ·replace c4:=of_decide_eq_false c4
     refine bH (decide (p2<c.2.1)) ?_ (fun c5 t=>?_) (fun c5 t=>?_)
     ·skip
      refine aQ (aA S hE' (by exact rfl) ?_)
      refine aA S hE' (by exact rfl) ?_
      refine eX (aI ?_)
      exact pu (by first | exact decide_eq_decide.2 (by lia) | rfl | (rw[lI];simp only[beq_iff_eq,decide_eq_true_eq];lia))
     ·replace c5:=of_decide_eq_true c5
      refine aY (bW ?_);intro ut2 _
      refine aD S hE' ?_;clear S;intro h t S
      refine aJ (aJ (aJ (aJ ?_)))
      replace S:=S.few (.cons (x:=kY "tag") rfl (.cons (x:=kY "size") rfl (.cons (x:=kY "bj") rfl (.cons (x:=kY "ai") rfl (.cons (x:=kY "answer") rfl (.cons (x:=kY "j") rfl (.cons (x:=kY "i") rfl (.cons (x:=kY "self") rfl (.nil)))))))))
      exact jJ6 h _ _ _ _ _ (jH4 rfl S (Le.refl _) (jJ2 ("insert") ut2 (jH4 rfl rfl (by decide) (.inr ⟨by decide,by unfold dN;rw[if_neg c3,if_neg c4,if_pos c5]⟩))))
     ·replace c5:=of_decide_eq_false c5
      refine aJ (aJ (aJ (aJ ?_)))
      exact jJ6 h _ _ _ _ _ (jH4 rfl S (Le.refl _) (jJ2 ("") ut (jH4 rfl rfl (by decide) (.inl ⟨rfl,by unfold dN;rw[if_neg c3,if_neg c4,if_neg c5]⟩))))
  ·intro h d t B5 m' M' S le5;refine jI2 ?_;intro tg ut';refine jG4 ?_;intro zz4 zz5 htz htg;obtain rfl:=zz4;obtain rfl:=zz5
   rename_i yy0;clear yy0;clear hc hmo hv hmt;injection hva htk le5 htz htg S with c xa y1 y2 y3 dd cc acc p1 p2 h d t B5 tg ut'
   replace G:=G.le le5
   replace hva:=bS hva le5
   refine fW S (fun B' m' M'=>∃va' ca',M'=[(na,lstO va' ca'),(dx,od3)]∧m'=vars [(kY "tag",.str tg ut'),(kY "size",.int (c.2.2:Nat) y3),(kY "bj",.int (c.2.1:Nat) y2),(kY "ai",.int (c.1:Nat) y1),(kY "answer",.ref na),(kY "j",.int (p2:Nat) x2),(kY "i",.int (p1:Nat) x1),(kY "self",.ref x)]∧F2 (CdR B') va' (cT ((p1,p2),acc) c)∧va'.length≤2*n+1) ?_ ?_
   ·refine bH (decide (tg.cps.size≠0)) ?_ (fun c5 t=>?_) (fun c5 t=>?_)
    ·refine dL (aA S hE' (by exact rfl) ?_)
     refine t_str htz ?_;intro _
     exact pu rfl
    ·have c6:dN p1 p2 c.1 c.2.1=some tg:=by
      rcases htg with ⟨rfl,q⟩ | ⟨_,q⟩
      ·exact absurd c5 (by decide)
      ·exact q
     refine aZ (aU (aA S hE' (by exact rfl) ?_))
     refine cA (M:=[]++_::[(dx,od3)]) S (lJ _ (kZ ..)) ?_
     refine dI (aB (bM (aB (aA S hE' (by exact rfl) ?_))))
     refine aB (aA S hE' (by exact rfl) ?_)
     refine aB (aA S hE' (by exact rfl) ?_)
     refine aB (aA S hE' (by exact rfl) ?_)
     refine aB (aA S hE' (by exact rfl) ?_)
     refine aC (bL S (lF rfl) ?_);clear S;intro h tl B6 le6 htl S
     refine aC (bV (M₁:=[]) (M₂:=[(dx,od3)]) S (by rw[jZ];lia) ?_);clear S;intro h n' S
     refine aJ (aJ ?_)
     exact jJ6 h _ _ _ _ _ (jH4 rfl S le6 (jJ2 _ n' (jH4 rfl rfl (by unfold cT;dsimp only;rw[c6];exact(bS hva le6).snoc (jJ6 tl _ _ _ _ _ ⟨rfl,htl⟩)) (by rw[lR,mG];lia))))
    ·have c6:dN p1 p2 c.1 c.2.1=none:=by
      rcases htg with ⟨_,q⟩ | ⟨q,_⟩
      ·exact q
      ·exact absurd q (of_decide_eq_false c5)
     refine aJ (aJ ?_)
     exact jJ6 h _ _ _ _ _ (jH4 rfl S (Le.refl _) (jJ2 _ _ (jH4 rfl rfl (by unfold cT;dsimp only;rw[c6];exact hva) (by lia))))
   ·clear hva
    intro h d t B6 m' M' S le6;refine jI2 ?_;intro va' ca';refine jG4 ?_;intro zz6 zz7 hva hvl';obtain rfl:=zz6;obtain rfl:=zz7
    injection le6 hva hvl' S with h d t B6 va' ca'
    replace G:=G.le le6
    refine eC [kY "i",kY "j"] ?_
    refine bM (aB (aG (aA S hE' (by exact rfl) ?_)))
    refine aA S hE' (by exact rfl) ?_
    refine aX ?_;intro q1 _
    refine aB (aG (aA S hE' (by exact rfl) ?_))
    refine aA S hE' (by exact rfl) ?_
    refine aX ?_;intro q2 _
    refine aC (bL S (lF rfl) ?_);clear S;intro h tt B7 le7 htt S
    replace G:=G.le le7
    replace hva:=bS hva le7
    refine unpk S htt hh rfl ?_;clear S;intro h S
    refine aL (bnd (aD S hE' ?_));clear S;intro h t S
    refine aL (bnd (aD S hE' ?_));clear S;intro h t S
    refine cK ?_
    replace S:=S.few (.cons (x:=kY "size") rfl (.cons (x:=kY "bj") rfl (.cons (x:=kY "ai") rfl (.cons (x:=kY "answer") rfl (.cons (x:=kY "j") rfl (.cons (x:=kY "i") rfl (.cons (x:=kY "self") rfl (.nil))))))))
    have e:dH ((p1,p2),acc) c=((c.1+c.2.2,c.2.1+c.2.2),if c.2.2=0 then cT ((p1,p2),acc) c else cT ((p1,p2),acc) c++[((("equal":kJ),c.1,c.1+c.2.2,c.2.1,c.2.1+c.2.2):Cd)]):=rfl
    refine bH (decide (c.2.2≠0)) ?_ (fun c4 t=>?_) (fun c4 t=>?_)
    ·refine dL (aA S hE' (by exact rfl) ?_)
     refine t_int ?_
     exact pu (by rw[lI];simp)
    ·replace c4:=of_decide_eq_true c4
     refine aZ (aU (aA S hE' (by exact rfl) ?_))
     refine cA (M:=[]++_::[(dx,od3)]) S (lJ _ (kZ ..)) ?_
     refine dI (aB (bM (aB (bW ?_))));intro ue _
     refine aB (aA S hE' (by exact rfl) ?_)
     refine aB (aA S hE' (by exact rfl) ?_)
     refine aB (aA S hE' (by exact rfl) ?_)
     refine aB (aA S hE' (by exact rfl) ?_)
     refine aC (bL S (lF rfl) ?_);clear S;intro h tl B8 le8 htl S
     refine aC (bV (M₁:=[]) (M₂:=[(dx,od3)]) S (by rw[jZ];lia) ?_);clear S;intro h n' S
     refine aJ (aJ ?_)
     replace S:=S.few (.cons (x:=kY "answer") rfl (.cons (x:=kY "j") rfl (.cons (x:=kY "i") rfl (.cons (x:=kY "self") rfl (.nil)))))
     rw[if_neg c4] at e
     exact jJ6 h _ _ _ _ _ (jH3 rfl S (jJ4 _ n' _ _ (jH4 rfl (by rw[htk,e];dsimp only;rw[oB,oB]) (by rw[htk,e];exact(bS hva le8).snoc (jJ6 tl _ _ _ _ _ ⟨rfl,by dsimp only;rw[oB,oB];exact htl⟩)) (by rw[lR,mG];lia))))
    ·replace c4:c.2.2=0:=by simpa using c4
     refine aJ (aJ ?_)
     replace S:=S.few (.cons (x:=kY "answer") rfl (.cons (x:=kY "j") rfl (.cons (x:=kY "i") rfl (.cons (x:=kY "self") rfl (.nil)))))
     rw[if_pos c4] at e
     exact jJ6 h _ _ _ _ _ (jH3 rfl S (jJ4 _ _ _ _ (jH4 rfl (by rw[htk,e];dsimp only;rw[oB,oB]) (by rw[htk,e];exact hva) (by lia))))
 ·rintro h d t B4 m' M' S le hj
  rename_i yy0 yy1;clear yy1 yy0;clear ho2 hx hl hm G le;injection hnd S hj with na B2 od3 h d t B4 m' M'
  refine jI4 ?_ (hj.resolve_right id);intro va ca x1 x2;refine jG4 ?_;intro zz8 zz9 hva hvl;obtain rfl:=zz8;obtain rfl:=zz9
  rw[pA (by lia)] at hva
  have S1:=St.keep (M₁:=[]) (M₂:=[(dx,od3)]) S (e4.2 _ hnd)
  have lb1:Le B4 (Base.put B4 na (lstO va ca)):=aV _ (S.m (na,lstO va ca) (by simp)).2.2.2
  have hlst:Lst (Base.put B4 na (lstO va ca)) na va:=⟨ca,aM _ _ _⟩
  generalize Base.put B4 na (lstO va ca)=B5 at S1 lb1 hlst
  refine cN (aA S1 hE (by exact rfl) ?_)
  exact S1.endsM e1 e2 e3 e4 (kZ ..) (jJ2 na va (jH3 rfl hlst (bS hva lb1)))
end
noncomputable def BM (mg:kJ→Option jL)(B:Base):Prop:=∃bm ob,mg "__builtins__"=some (.ref bm)∧bm≠builtinsNs∧B bm=some ob∧ob.cls=.type "module"∧ob.dict=some builtinsNs∧ob.data=.plain
theorem BM.le {mg:kJ→Option jL}{B B':Base}(x:BM mg B)(l:Le B B'):BM mg B':=jI2 (fun bm ob=>jG4 fun a b c r=>(jJ2 bm ob (jH4 a b (l _ _ c) r))) x
noncomputable def Tab (B:Base)(pos:kW)(qual:kJ)(ps:Array jL):Prop:=
 ps= #[]∨∃c' oc vs tq,ps= #[rawInt pos.line,rawInt pos.col,.ref c']∧B c'=some oc∧oc.data=.fields vs∧vs[1]? =some (.str qual tq)
theorem Tab.le {B B':Base}{pos:kW}{qual:kJ}{ps:Array jL}(x:Tab B pos qual ps)(l:Le B B'):Tab B' pos qual ps:=
 x.imp id fun⟨c',oc,vs,tq,a,b,r⟩=>jJ4 c' oc vs tq (jH3 a (l _ _ b) r)
theorem Tab.ok {B:Base}{pos:kW}{qual:kJ}{ps:Array jL}(x:Tab B pos qual ps):TriplesOk ps.toList:=by
 rcases x with rfl | ⟨c',_,_,_,rfl,_⟩
 ·trivial
 ·trivial
noncomputable def inJ (md:Bool)(js:List Nat)(k:Nat):Bool:=match md with
 | false=>js.contains k
 | true=>Txt.contains ⟨js.toArray⟩ ⟨#[k]⟩
section
variable {w:jS}{A:jV}{C:Cx}{m mg mb:kJ→Option jL}{B B':Base}{M:List (jQ×kK)}
 {h h':kI} {g:Array jX} {d:kU} {t:Nat} {os:jU} {env:Env} {Q:jL→jP→Prop} {E:jL→jP→Prop}
theorem St.stepM {M₁ M₂:List (jQ×kK)}{dx:jQ}{od od':kK}(S:St C B h m (M₁++(dx,od)::M₂))(kp:∀a o,a≠dx→h.get? a=some o→h'.get? a=some o)(le:Le B B')(lh:∀a o,B' a=some o→h'.get? a=some o)
  (nw:∀a o,B' a=some o→a<h.objs.size→B a=some o) (eo:h'.get? dx=some od'):St C B' h' m (M₁++(dx,od')::M₂):=by
 have A:=S.m (dx,od) (lJ _ (kZ ..))
 have fr:∀a,a<h.objs.size→B a=none→B' a=none:=fun a hl hn=>by
  cases q:B' a with
  | none=>rfl
  | some o=>have:=nw a o q hl;rw[hn] at this;cases this
 have S₁:St C B h' m (M₁++(dx,od')::M₂):=S.chgK (fun b o hb e=>kp b o hb e) eo
 exact {S₁ with
  b:=lh
  v:=fun a hv=>⟨fr a (S.vlt hv) (S.v a hv).1,(S.v a hv).2⟩
  m:=fun p hp=>jH4 ((S₁.m p hp).1) ((S₁.m p hp).2.1) ((S₁.m p hp).2.2.1) (by
   have:p.1∈(M₁++(dx,od)::M₂).map Prod.fst:=by
    have:=mF (f:=Prod.fst) hp
    simpa using this
   refine jI1 ?_ (mC.1 this);intro q;refine jG2 ?_;intro hq e
   exact fr _ (e▸lM (S.m q hq).1) (S₁.m p hp).2.2.2)
  new:=fun a o e hl=>S.new a o (nw a o e (lP hl (lB S.nl (lL S.lt)))) hl
  up:=S.up.trans le}
theorem lam_make {M₁ M₂:List (jQ×kK)}{P c:jQ}{ps:Array jL}{params:Arguments}{body:Expr}{scope:Scope}{pos:kW}{clos:List (kJ×jQ)}{qual:kJ}
  (S:St C B h m (M₁++(P,tabObj ps)::M₂)) (G:Gr w mg mb B) (hbm:BM mg B) (htab:Tab B pos qual ps) (hC:CodeHd h c P) (hcode:env.code=.ref c) (hge:env.globals=mainGlobals) (hq:env.qual++"<lambda>"=qual)
  (hcl:closureFor scope env=pure clos) (hdef:defaultsOf params env=([],[]))
  (k:∀h' t' B' f ps' c' ctv pm oc vs tq,Le B B'→B' f=some (kla_obj "<lambda>" qual params body scope clos pm c' ctv)→B' c'=some oc→oc.data=.fields vs→vs[1]? =some (.str qual tq)→Tab B' pos qual ps'→
   St C B' h' m (M₁++(P,tabObj ps')::M₂)→Q (.ref f) ⟨h',g,d,t',os⟩):
  jN (jM PW w) A (eval (.Lambda params body scope pos) env) Q E ⟨h,g,d,t,os⟩:=by
 injection S G hbm htab hC hcode hge hq hcl hdef k with w A C m mg mb B h g d t os env Q E M₁ M₂ P c ps params body scope pos clos qual
 refine kla_eval hdef ?_
 rw[hq]
 have hP:=S.m (P,tabObj ps) (by simp)
 refine jI1 ?_ G.g;intro og;refine jG2 ?_;intro eg kg
 have hns:h.Ns mainGlobals mg:=kg h (S.b _ _ eg)
 have hgP:mainGlobals≠P:=fun q=>by have:=hP.2.2.2;rw[←q,eg] at this;cases this
 have hBA:h.BuiltinsAt mg P:=by
  refine jI2 ?_ hbm;try clear hbm;intro bm ob;refine jG6 ?_;intro b1 b2 b3 b4 b5 b6
  refine jJ2 bm ob (jH8 b1 b2 (fun q=>?_) (fun q=>?_) (S.b _ _ b3) b4 b5 b6)
  ·refine jI3 ?_ hns;try clear hns;intro o es ep;refine jG3 ?_;intro e hd _
   have:=S.b _ _ b3
   rw[q,e] at this;cases this;rw[hd] at b6;cases b6
  ·have:=hP.2.2.2;rw[←q,b3] at this;cases this
 rcases htab with rfl | ⟨c',oc,vs,tq,rfl,hc1,hc2,hc3⟩
 ·refine kla_makeFunction (s:=⟨h,g,d,t,os⟩) hcl hge hns hcode hC hP.1 trivial rfl hgP hBA fun c' ctv h' tk hx hge' hlt hrec htb=>?_
  refine jI4 ?_ hrec;try clear hrec;intro c₂ oc vs tq;refine jG4 ?_;intro e2 hoc hd hv
  cases e2
  have hne:c'≠P:=fun q=>absurd (lM hP.1) (by rw[←q];exact lU.2 hge')
  have hB1:B c'=none:=by
   cases q:B c' with
   | none=>rfl
   | some o=>exact absurd (S.blt q) (lU.2 hge')
  have hle:h.objs.size≤h'.objs.size:=lL (mM hge' hlt)
  have hB2:B h'.objs.size=none:=by
   cases q:B h'.objs.size with
   | none=>rfl
   | some o=>exact absurd (S.blt q) (lU.2 hle)
  have hcf:h'.objs.size≠c':=pW hlt
  have l1:Le B (Base.put B c' oc):=aV oc hB1
  have l2:Le (Base.put B c' oc) (Base.put (Base.put B c' oc) h'.objs.size (kla_obj "<lambda>" qual params body scope clos ((mg "__name__").getD .none) c' ctv)):=aV _ (by rw[cG _ _ hcf];exact hB2)
  have hc':(Base.put (Base.put B c' oc) h'.objs.size (kla_obj "<lambda>" qual params body scope clos ((mg "__name__").getD .none) c' ctv)) c'=some oc:=l2 _ _ (aM _ _ _)
  refine k _ tk _ h'.objs.size _ c' ctv _ oc vs tq (l1.trans l2) (aM _ _ _) hc' hd hv (.inr (jJ4 c' oc vs tq (jH4 rfl hc' hd hv))) (S.stepM (fun a o ha e=>lS _ (hx a o ha e)) (l1.trans l2) (fun a o e=>?_) (fun a o e hl=>?_) (lS _ htb))
  ·by_cases q:a=h'.objs.size
   ·rw[q,aM] at e;cases e;rw[q];exact lT _ rfl
   ·rw[cG _ _ q] at e
    by_cases q2:a=c'
    ·rw[q2,aM] at e;cases e;rw[q2];exact lS _ hoc
    ·rw[cG _ _ q2] at e
     exact lS _ (hx a o (fun q3=>by rw[q3,hP.2.2.2] at e;cases e) (S.b _ _ e))
  ·have a1:a≠h'.objs.size:=lN (lP hl hle)
   have a2:a≠c':=lN (lP hl hge')
   rwa [cG _ _ a1,cG _ _ a2] at e
 ·have hf:codeAmong pos (#[rawInt pos.line,rawInt pos.col,.ref c']:Array jL).toList=some (.ref c'):=by simp[codeAmong,rawInt]
  refine kla_makeFunctionHit (s:=⟨h,g,d,t,os⟩) hcl hge hns hcode hC hP.1 trivial hf hBA fun ctv h' tk hk hsz=>?_
  have hB2:B h'.objs.size=none:=by
   cases q:B h'.objs.size with
   | none=>rfl
   | some o=>exact absurd (S.blt q) (lU.2 hsz)
  have l2:Le B (Base.put B h'.objs.size (kla_obj "<lambda>" qual params body scope clos ((mg "__name__").getD .none) c' ctv)):=aV _ hB2
  refine k _ tk _ h'.objs.size _ c' ctv _ oc vs tq l2 (aM _ _ _) (l2 _ _ hc1) hc2 hc3 (.inr (jJ4 c' oc vs tq (jH4 rfl (l2 _ _ hc1) hc2 hc3))) (S.stepM (fun a o ha e=>lS _ (hk a o e)) l2 (fun a o e=>?_) (fun a o e hl=>?_) (lS _ (hk _ _ hP.1)))
  ·by_cases q:a=h'.objs.size
   ·rw[q,aM] at e;cases e;rw[q];exact lT _ rfl
   ·rw[cG _ _ q] at e
    exact lS _ (hk _ _ (S.b _ _ e))
  ·have a1:a≠h'.objs.size:=lN (lP hl hsz)
   rwa [cG _ _ a1] at e
theorem iI {vs:List jL}{ks:List Nat}(h:F2 (fun v k=>El false k v) vs ks):IntsAre vs (ks.map fun k:Nat=>(k:Int)):=by
 induction h with
 | nil=>exact .nil
 | cons x _ ih=>obtain⟨t,rfl⟩:=x;exact .cons _ t ih
theorem fT (ks:List Nat)(k:Nat):(ks.map fun k:Nat=>(k:Int)).contains (k:Int)=ks.contains k:=by
 induction ks with
 | nil=>rfl
 | cons x r ih=>
  rw[mD,List.contains_cons,List.contains_cons,ih,eS]
  congr 1
theorem r_in {md:Bool}{x vj:jL}{k:Nat}{js:List Nat}(S:St C B h m M)(hv:SeqV md B vj js)(hx:El md k x)(q:Q (.bool (inJ md js k)) ⟨h,g,d,t,os⟩):
  jN (jM PW w) A (compareOp .In x vj) Q E ⟨h,g,d,t,os⟩:=by
 cases md with
 | false=>
  refine jI2 ?_ hv;try clear hv;intro a vs;refine jG3 ?_;intro zz1 hl hi;obtain rfl:=zz1
  obtain⟨u,rfl⟩:=hx
  refine c_in S hl (iI hi) ?_
  rw[fT];exact q
 | true=>
  obtain⟨u,rfl⟩:=hv
  obtain⟨u',rfl⟩:=hx
  exact SB.contains q
end
section
variable {w:jS}{A:jV}{s:jP}{mg mb:kJ→Option jL}{B:Base}
theorem c_lam {md:Bool}{f c' cc:jQ}{oc ocell:kK}{vs:Array jL}{tq:Tok}{pm ctv vj x:jL}{nm qual sgn jn:kJ}{params:Arguments}{p1 p2 p3:kW}{scope:Scope}{js:List Nat}{k:Nat}
  (G:Gr w mg mb B) (hB:∀a o,B a=some o→s.heap.get? a=some o)
  (hf:B f=some (kla_obj nm qual params (.Compare (.Name sgn p1) [.In] [.Name jn p2] p3) scope [(jn,cc)] pm c' ctv)) (hc:B c'=some oc) (hcd:oc.data=.fields vs) (hv:vs[1]? =some (.str qual tq))
  (hcc:B cc=some ocell) (hcv:ocell.data=.cell (some vj)) (sj:SeqV md B vj js) (hx:El md k x)
  (hb:bindArgs (kla_fn nm qual params (.Compare (.Name sgn p1) [.In] [.Name jn p2] p3) scope [(jn,cc)] pm (.ref c') ctv) ⟨[x],[]⟩=pure [(sgn,x)])
  (hcell:∀y∈scope.names,y.2≠.cell) (hs1:scope.names.lookup sgn=some .local) (hs2:scope.names.lookup jn=some .free) (hk:scope.kind=.function) (hco:scope.isCoroutine=false) (hgen:scope.isGenerator=false)
  (hd1:(sgn==("__debug__":kJ))=false) (hd2:(jn==("__debug__":kJ))=false) (hd3:(jn==("__classdict__":kJ))=false) (hroom:A.depth<recursionLimit):
  jN (jM PW w) A (call (.ref f) [x]) (Ends B s fun v _=>v=.bool (inJ md js k)) no s:=by
 injection G hB hf hc hcd hv hcc hcv sj hx hb hcell hs1 hs2 hk hco hgen hd1 hd2 hd3 hroom with w A s mg mb B md f c' cc oc ocell vs tq pm ctv vj x nm qual sgn jn params p1 p2 p3 scope js k
 have hrec:s.heap.CodeRec (.ref c') qual:=jJ4 c' oc vs tq (jH4 rfl (hB _ _ hc) hcd hv)
 refine wpAny_call (kla_callFunE hroom (hB _ _ hf) rfl hco hgen rfl hrec ?_)
 rw[hb]
 refine jO (wpAny_newFunctionEnv hcell (fun y hy=>by rw[lA.1 hy];exact hs1) (fun h₁ hns hsb=>⟨((G.lim _ hB)).fresh _ hsb,?_⟩) hk)
 have hk₁:∀b o,s.heap.get? b=some o→h₁.get? b=some o:=fun b o e=>hsb.extBut b o (lN (lM e)) (lS _ e)
 show kN _ _ (.expr _ (envX qual scope s.heap.objs.size f (.ref c') [(jn,cc)])) _ _
 have S:St ⟨s.heap.objs.size,fun a=>a<s.heap.objs.size,fun a=>s.heap.get? a,fun a=>a=s.heap.objs.size,s.heap.objs.size,B,s.heap.objs.size,fun _=>False⟩ B h₁ (vars [(sgn,x)]) []:={
  ns:=.of hns
  ld:=lO _
  lv:=rfl
  fr:=fun a o _ e=>hk₁ a o e
  b:=fun a o e=>hk₁ a o (hB a o e)
  v:=fun a e=>⟨by
   subst e
   cases q:B s.heap.objs.size with
   | none=>rfl
   | some o=>exact absurd (lM (hB _ _ q)) (lO _),mB e⟩
  d:=fun a hl=>lL hl
  tp:=.inl rfl
  m:=fun p hp=>nomatch hp
  nd:=oO
  nl:=lE _
  ow:=fun p hp=>nomatch hp
  new:=fun a o e _=>e
  up:=Le.refl _}
 generalize hEe:envX qual scope s.heap.objs.size f (.ref c') [(jn,cc)]=env
 have hE:aP ⟨s.heap.objs.size,fun a=>a<s.heap.objs.size,fun a=>s.heap.get? a,fun a=>a=s.heap.objs.size,s.heap.objs.size,B,s.heap.objs.size,fun _=>False⟩ env:=hEe▸⟨hk,rfl,rfl,rfl⟩
 refine kla_codeExpr (jR (?_:jN (jM PW w) _ _ (fun v s'=>Ends B s (fun v _=>v=.bool (inJ md js k)) v s') no _) (fun v s' z=>z) fun _ _ z=>z.elim)
 refine wpAny_Compare1 ?_ (by with_unfolding_all rfl)
 refine gG S hE (by unfold vars;rw[nJ,beq_self_eq_true]) ?_ (by rw[←hEe];exact hs1) hd1
 refine e_free S hE hcc hcv ?_ (by rw[←hEe];show pB jn [(jn,cc)]=_;rw[nJ,beq_self_eq_true]) (by rw[←hEe];exact hs2) hd3 hd2
 refine r_in S sj hx ?_
 exact S.ends (s:=s) rfl rfl rfl ⟨fun _ z=>z,fun _ z=>z⟩ rfl
end
section
variable {w:jS}{A:jV}{C:Cx}{m mg mb:kJ→Option jL}{B:Base}{M:List (jQ×kK)}
 {h:kI} {g:Array jX} {d:kU} {t:Nat} {os:jU} {env:Env} {Q:jL→jP→Prop} {QL:List jL→jP→Prop} {QB:Bool→jP→Prop} {E:jL→jP→Prop}
theorem m_walks {it x dd:jQ}{c:Nat}{vs:List jL}(hh:A.handled=none)(hne:x≠it):
  Walks PW w A it [it,x] [it] vs.length (fun i v=>vs[i]? =some v) (fun i h=>h.get? it=some (tiO x i)∧h.get? x=some (mtO dd c vs)) where
 sub:=fun b hb=>by simp at hb;simp[hb]
 frame:=fun _ _ _ st hk=>⟨hk it (by simp) _ st.1,hk x (by simp) _ st.2⟩
 item:=fun i s Q E hi st hQ=>by
  obtain⟨h,g,d,t,os⟩:=s
  exact m_item st.1 st.2 (mH hi) fun h' e' s'=>hQ _ h' t (mH hi) ⟨e',(s'.2 x hne).trans st.2⟩ fun b o hb e=>(s'.2 b fun q=>hb (by simp[q])).trans e
 done:=fun s Q E st hQ=>by
  obtain⟨h,g,d,t,os⟩:=s
  exact m_end hh st.1 st.2 (by simp) fun h' k=>hQ h' t fun b o hb e=>k b o (fun q=>hb (by simp[q])) e
 self:=fun i s Q E st hQ=>by
  obtain⟨h,g,d,t,os⟩:=s
  exact wpAny_pyIter_tupleiter (s:=⟨h,g,d,t,os⟩) (show Heap.IsTupleIter h it x i from⟨_,jH3 st.1 rfl rfl⟩) hQ
theorem m_hint {x dd:jQ}{n:Nat}{vs:List jL}(X:(KF w.params).In h)(hx:h.get? x=some (mtO dd n vs))(hl:vs.length=3)(k:∀t',QB true ⟨h,g,d,t',os⟩):
  jN (jM PW w) A (Builtin.List.listLengthHint (.ref x)) QB E ⟨h,g,d,t,os⟩:=by
 injection X hx hl k with w A h g d t os QB E x dd n vs
 have t1:Looks (jM PW w) h (typeOf (.ref x)) (.ref 135):=(Looks.ld (part:=none) hx).andThen .now
 have s1:=looks_subIn (M:=jM PW w) X (ma_f4 w.params)
 have j1:Looks (jM PW w) h (isInstance (.ref x) (.type "tuple")) true:=t1.andThen s1
 have f1:=looks_findIn (M:=jM PW w) X (ma_f14 w.params)
 have sp:Looks (jM PW w) h (specialOf (.ref x) "__len__") (some (.builtin "tuple.__len__")):=t1.andThen f1
 unfold Builtin.List.listLengthHint
 refine jK (sp.at ?_)
 generalize hid:("tuple.__len__":String)=id0
 wp_delta
 rw[show splitId id0=some ("tuple","__len__") from by subst hid;decide +kernel]
 subst hid
 refine jK (j1.at ?_)
 refine wpAny_ite_split (fun hab=>absurd hab (by decide)) (fun _=>?_)
 refine wpAny_ite_split (fun _=>?_) (fun hab=>absurd (by decide +kernel) hab)
 refine jK (t1.at ?_)
 dsimp only
 refine jK (m_len X hx (by lia) ?_);intro u t'
 refine jK (jO ?_)
 refine jO ?_
 rw[hl]
 exact k _
theorem m_collect {x dd:jQ}{c:Nat}{vs:List jL}(hh:A.handled=none)(X:(KF w.params).In h)(hx:h.get? x=some (mtO dd c vs))(hl:vs.length=3)
  (k:∀(h':kI) t',(∀b o,h.get? b=some o→h'.get? b=some o)→QL vs ⟨h',g,d,t',os⟩):jN (jM PW w) A (collect (.ref x)) QL E ⟨h,g,d,t,os⟩:=by
 injection hh X hx hl k with w A h g d t os QL E x dd c vs
 have t1:Looks (jM PW w) h (typeOf (.ref x)) (.ref 135):=(Looks.ld (part:=none) hx).andThen .now
 unfold collect
 refine jK (wpAny_runValue (codeAny_builtin PySem.F.entry_proto_collect ?_))
 rw[Around.under_plainId PySem.F.plain_proto_collect _]
 show jN _ A.in1 (newList [] >>= fun l=>again (.builtin "list.__iadd__" ⟨[l,.ref x],[]⟩)) _ _ _
 refine jK (kP ?_)
 refine jO ⟨plainId_quiet PySem.F.plain_list_iadd _,codeAny_builtin PySem.F.entry_list_iadd ?_⟩
 rw[Around.under_plainId PySem.F.plain_list_iadd _]
 have hxs:x≠h.objs.size:=lN (lM hx)
 dsimp only
 have hS0:(h.push {cls:=.type "list",data:=.seq ([]:List jL).toArray}).get? h.objs.size=some {cls:=.type "list",data:=.seq ([]:List jL).toArray}:=lT _ rfl
 have k0:∀b o,h.get? b=some o→(h.push {cls:=.type "list",data:=.seq ([]:List jL).toArray}).get? b=some o:=fun b o e=>lS _ e
 show jN _ A.in1 (Builtin.List.listExtendWith (.ref h.objs.size) (.ref x) (.ref h.objs.size)) _ _ ⟨h.push {cls:=.type "list",data:=.seq ([]:List jL).toArray},g,d,t,os⟩
 generalize h.push {cls:=.type "list",data:=.seq ([]:List jL).toArray}=h1 at hS0 k0⊢
 have hb0:∀b o,h.get? b=some o→b≠h.objs.size:=fun b o e=>lN (lM e)
 generalize h.objs.size=S at hxs hS0 k0 hb0⊢
 have hx1:=k0 _ _ hx
 have X1:(KF w.params).In h1:=X.keeps k0
 have t2:Looks (jM PW w) h1 (typeOf (.ref x)) (.ref 135):=(Looks.ld (part:=none) hx1).andThen .now
 unfold Builtin.List.listExtendWith
 refine jK (t2.at ?_)
 have h1':Builtin.List.listSameRef (.ref S) (.ref x)=false:=by simp[Builtin.List.listSameRef,Ne.symm hxs]
 have h2':(Value.ref 135==Value.type "list")=false:=by decide
 have h3':(Value.ref 135==Value.type "tuple")=false:=by decide
 simp only[h1',h2',h3',Bool.or_false,oW,if_false]
 refine jK (m_iter X1 hx1 ?_)
 have k1:∀b o,h1.get? b=some o→(h1.push (tiO x 0)).get? b=some o:=fun b o e=>lS _ e
 have hI:=lT h1 (o:=tiO x 0) rfl
 have hIS:S≠h1.objs.size:=lN (lM hS0)
 have hIx:x≠h1.objs.size:=lN (lM hx1)
 have hb1:∀b o,h.get? b=some o→b≠h1.objs.size:=fun b o e=>lN (lM (k0 b o e))
 generalize h1.push (tiO x 0)=h2 at k1 hI⊢
 generalize h1.objs.size=I at hI hIS hIx hb1⊢
 refine jK (kB (m_hint (X1.keeps k1) (k1 _ _ hx1) hl ?_));intro t'
 refine wpAny_ite_split (fun _=>?_) (fun hab=>absurd rfl hab)
 refine jK (wpAny_rule ?_)
 refine jK ?_
 show jN _ A.in1 (updateSeq S (·.push .none) >>= fun _=>updateSeq S (·.pop)) _ _ _
 have hS2:=k1 _ _ hS0
 refine jK (wpAny_updateSeq hS2 rfl ?_)
 have hS₂:=nZ (Obj.mapSeq (·.push Value.none)) hS2 rfl
 refine wpAny_updateSeq hS₂ rfl ?_
 have hS₃:=nZ (Obj.mapSeq (·.pop)) hS₂ rfl
 have oth:∀b o,b≠S→h2.get? b=some o→((h2.update S (Obj.mapSeq (·.push Value.none))).update S (Obj.mapSeq (·.pop))).get? b=some o:=
  fun b o hb e=>(qX _ _ (Ne.symm hb)).trans ((qX _ _ (Ne.symm hb)).trans e)
 have hSx:S≠x:=Ne.symm hxs
 refine jO ⟨plainId_quiet PySem.F.plain_extend_loop _,codeAny_extend_loopS (m_walks (A:=A.in1) (c:=c) (dd:=dd) (vs:=vs) hh hIx).toS (by rw[jZ];lia) S (by simp[hIS,hSx]) (.ref S) vs.length 0 _ #[] _ rfl (lC _)
  ⟨oth _ _ (Ne.symm hIS) hI,oth _ _ hxs (k1 _ _ hx1)⟩ hS₃ (ItemsOf.nil _) fun s' acc c' hm hS' hacc=>?_⟩
 show jN _ A (load S >>= _) _ _ s'
 refine jK (wpAny_load hS' ?_)
 have ea:acc.toList=vs:=by
  apply List.ext_getElem?
  intro i
  by_cases hi:i<vs.length
  ·have hi':i<acc.size:=by rw[hacc.1];exact hi
   have e1:acc[i]? =some acc[i]:=by simp[hi']
   have:=hacc.2 i _ e1
   rw[Array.getElem?_toList,e1,this]
  ·rw[oS (by rw[oM,hacc.1];lia),oS (by lia)]
 show jN _ _ (pure acc.toList) _ _ _
 rw[ea]
 have es:=Moved.eq_with hm
 rw[es]
 refine jO (k s'.heap s'.toks fun b o e=>?_)
 refine hm.heap b o ?_ (oth b o (hb0 b o e) (k1 _ _ (k0 _ _ e)))
 simp[hb0 b o e,hb1 b o e]
theorem code_tuple_m {x dd:jQ}{c:Nat}{vs:List jL}{Q₁:jL→jP→Prop}(hh:A.handled=none)(X:(KF w.params).In h)(hx:h.get? x=some (mtO dd c vs))(hl:vs.length=3)
  (k:∀(h':kI) t',(∀b o,h.get? b=some o→h'.get? b=some o)→Q₁ (.ref h'.objs.size) ⟨h'.push (tupO vs),g,d,t',os⟩):
  kN (jM PW w) A (.call (.builtin "tuple.__new__") ⟨[.type "tuple",.ref x],[]⟩) (wants Q₁ E) ⟨h,g,d,t,os⟩:=by
 injection hh X hx hl k with w A h g d t os E x dd c vs Q₁
 have t1:Looks (jM PW w) h (typeOf (.ref x)) (.ref 135):=(Looks.ld (part:=none) hx).andThen .now
 have te:Looks (jM PW w) h (Builtin.Tuple.tupleIsExact (.ref x)) false:=t1.andThen (Looks.of_pure rfl)
 refine codeAny_of_tree ?_
 show jN _ A.in1 (do checkBuiltinCall "tuple.__new__" ⟨[.type "tuple",.ref x],[]⟩;again (.builtin "tuple.__new__" ⟨[.type "tuple",.ref x],[]⟩)) _ _ _
 refine jK (wpAny_of_eq (PySem.F.newCall_tuple_1 _) (jO ⟨plainId_quiet PySem.F.plain_tuple_new _,codeAny_builtin PySem.F.entry_tuple_new ?_⟩))
 rw[Around.under_plainId PySem.F.plain_tuple_new _]
 have hsub:=sub_tuple_self
 have hinit:=init_tuple_lookup
 have hmh:=madeHere_tuple
 unfold Builtin.«tuple.__new__»
 generalize hte:Builtin.Tuple.tupleExact=TE
 repeat (first | with_reducible refine te.at ?_ | with_reducible refine m_collect (A:=A.in1) hh X hx hl (fun h' t' hk=>?_) | wp_step)
 subst hte
 unfold Builtin.Tuple.tupleExact
 refine(kP ?_ (by show vs.toArray.size≤kC;rw[lY,jZ];lia))
 exact jO (k h' t' hk)
theorem c_tupm {x:jQ}{vs:List jL}(S:St C B h m M)(G:Gr w mg mb B)(hx:MtO B x vs)(hl:vs.length=3)(hh:A.handled=none)
  (k:∀h' t' a B',Le B B'→Tup B' a vs→St C B' h' m M→Q (.ref a) ⟨h',g,d,t',os⟩):jN (jM PW w) A (call (.type "tuple") [.ref x]) Q E ⟨h,g,d,t,os⟩:=by
 refine jI2 ?_ hx;try clear hx;intro dd c;intro e
 refine callType_codes (s:=⟨h,g,d,t,os⟩) (Q₁:=fun obj s₁=>s₁.TypeIs obj "tuple"∧Q obj s₁) PySem.F.called_tuple (PySem.F.typeCall_tuple_1 _) PySem.F.entry_object_init
  (code_tuple_m (A:=A.in1) hh (G.at S.b) (S.b _ _ e) hl fun h' t' hk=>⟨⟨_,lT _ rfl,rfl⟩,?_⟩) fun obj s₁ h₁=>?_
 ·have S1:=S.kp (h':=h') ⟨hk⟩
  exact k _ t' _ _ (aV _ S1.freshB) ⟨0,aM _ _ _⟩ (S1.froz _ rfl)
 ·exact jH3 h₁.1 (PySem.F.args_object_init_2 obj _) (object_init_meets PySem.F.called_tuple.init.lookup PySem.F.called_tuple.made (by decide) PW w A.in1 _ s₁ (jH3 h₁.1 rfl h₁.2))
end
theorem sm_k1 (P:jT):specialIn (KF P) (.ref 242) "__call__"=some (some (.builtin "type.__call__")):=by kernel_rfl!
theorem sm_k2 (P:jT):instIn (KF P) (.ref 242) (.type "type")=some true:=by kernel_rfl!
theorem sm_k3 (P:jT):findIn (KF P) (.ref 242) "__init__"=some (some (.ref 160)):=by kernel_rfl!
theorem sm_k5 (P:jT):subIn (KF P) (.ref 242) (.ref 242)=some true:=by kernel_rfl!
section
variable {w:jS}{A:jV}{C:Cx}{m mg mb:kJ→Option jL}{B:Base}{M:List (jQ×kK)}
 {h:kI} {g:Array jX} {d:kU} {t:Nat} {os:jU} {Q:jL→jP→Prop} {E:jL→jP→Prop}
theorem mk_sm {md:Bool}{va vb vj:jL}{bs:List Nat}{jk:Nat→Bool}(S:St C B h m M)(G:Gr w mg mb B)
  (hva:va≠.none) (sb:SeqV md B vb bs) (hj:JkV w md B vj jk) (hone:md=false→∀k l,jk k=true→jk l=true→k=l) (hs2:bs.length≤100) (hr:Room A 14)
  (q:∀h' d' t' x dx od db jb pb B',Le B B'→InsB B' x dx→NsO od (vars (smL vj va vb db jb pb))→B2J w md B' db bs jk→SetB w md B' jb (fun k=>bs.contains k&&jk k)→St C B' h' m ((dx,od)::M)→Q (.ref x) ⟨h',g,d',t',os⟩):
  jN (jM PW w) A (call (.ref 242) [vj,va,vb]) Q E ⟨h,g,d,t,os⟩:=by
 injection S G hva sb hj hone hs2 hr q with w A C m mg mb B M h g d t os Q E md va vb vj bs jk
 have X:(KF w.params).In h:=G.at S.b
 have f1:=looks_specialIn (M:=jM PW w) X (sm_k1 w.params)
 have f2:=looks_instIn (M:=jM PW w) X (sm_k2 w.params)
 have hC:=gK X
 have hn:=sm_ns X
 have hCk:=X 242 (o_242 w.params) rfl
 refine wpAny_call (codeAny_of_tree ?_)
 show jN _ _ (callAny (.ref 242) _) _ _ _
 refine nd_load hCk ?_
 show jN _ _ (callAny.viaDunder (.ref 242) _) _ _ _
 unfold callAny.viaDunder
 refine jK (f1.at ?_)
 dsimp only
 rw[tc_bind]
 refine jK (jO (jK (jO ?_)))
 refine jO (a:=Fin.again (.call (.builtin "type.__call__") ⟨.ref 242::[vj,va,vb],[]⟩)) (And.intro rfl ?_)
 refine codeAny_call_builtin_at (Code.quiet_builtin _ (by decide +kernel)) entry_typeCall ?_
 refine check_slot (i:="type.__call__") (owner:="type") (n:="__call__") (self:=.ref 242) (rest:=[vj,va,vb]) tc_kind tc_split f2 (tc_args _ _ _) ?_
 have hr':Room (A.under (Code.builtin "type.__call__" {pos:=[Value.ref 242,vj,va,vb]})) 13:=hr.under
 unfold Builtin.«type.__call__»
 repeat (first | with_reducible refine wpAny_loadPart_at hC ?_ | with_reducible refine wpAny_madeBy_exc hC ?_ | wp_step)
 refine codeAny_call_builtin_code (Code.quiet_builtin _ PySem.F.objNew.quiet) (wpAny_check_obj_new PySem.F.objNew hC ?_)
 refine codeAny_obj_new PySem.F.objNew hC hn (sm_init _) ?_
 show jN _ _ _ _ _ _
 have hsz:(h.push eA).objs.size=h.objs.size+1:=mK ..
 have S1:=S.own eA rfl
 have S2:=S1.froz {cls:=.ref 242,dict:=some h.objs.size,data:=.plain} rfl
 have le:Le B _:=aV {cls:=.ref 242,dict:=some h.objs.size,data:=.plain} S1.freshB
 have hx:InsB (Base.put B (h.push eA).objs.size {cls:=.ref 242,dict:=some h.objs.size,data:=.plain}) (h.objs.size+1) h.objs.size:=⟨_,jH5 (by rw[←hsz];exact aM _ _ _) rfl rfl (fun c e=>by cases e) (lN (nE _))⟩
 have ho0:NsO eA (vars []):=jJ2 (#[]) 0 (jH4 rfl (fun e he=>by simp at he) (by unfold UniqKeys;simp) (fun _=>rfl))
 have hx2:(Base.put B (h.push eA).objs.size {cls:=.ref 242,dict:=some h.objs.size,data:=.plain}) (h.objs.size+1)=some {cls:=.ref 242,dict:=some h.objs.size,data:=.plain}:=by rw[←hsz];exact aM _ _ _
 show jN (jM PW w) _ _ _ _ ⟨(h.push eA).push {cls:=.ref 242,dict:=some h.objs.size,data:=.plain},g,d,t,os⟩
 generalize Base.put B (h.push eA).objs.size {cls:=.ref 242,dict:=some h.objs.size,data:=.plain}=B1 at S2 le hx hx2
 generalize (h.push eA).push {cls:=.ref 242,dict:=some h.objs.size,data:=.plain}=h1 at S2⊢
 have hxo:=S2.b _ _ hx2
 generalize h.objs.size+1=x at hx hx2 hxo⊢
 generalize h.objs.size=dx at S2 hx hx2 hxo
 have G1:=G.le le
 have X1:(KF w.params).In h1:=G1.at S2.b
 have A1:=S2.m (dx,eA) (kZ ..)
 have t1:Looks (jM PW w) h1 (typeOf (.ref x)) (.ref 242):=(Looks.ld (part:=none) hxo).andThen .now
 have s1:=looks_subIn (M:=jM PW w) X1 (sm_k5 w.params)
 have j1:Looks (jM PW w) h1 (isInstance (.ref x) (.ref 242)) true:=t1.andThen s1
 have i1:=looks_findIn (M:=jM PW w) X1 (sm_k3 w.params)
 have t2:Looks (jM PW w) h1 (typeOf (.ref 160)) (.type "function"):=(Looks.ld (part:=none) (X1 160 (o_160 w.params) rfl)).andThen .now
 have cn:∀t',jN (jM PW w) (A.under (Code.builtin "type.__call__" {pos:=[Value.ref 242,vj,va,vb]})) (call (.ref 160) ([.ref x]++[vj,va,vb])) (dF B1 ⟨h1,g,d,t',os⟩ dx _) no ⟨h1,g,d,t',os⟩:=fun t'=>
  c_init (s:=⟨h1,g,d,t',os⟩) hx A1.1 A1.2.2.2 ho0 hva (sb.le le) (hj.le le) hone hs2 G1 S2.b hr'
 repeat (first | with_reducible refine useM (M₁:=[]) (M₂:=M) S2 (cn _) (fun v h' d' t' B' od' S' le' r=>?_) | lk)
 refine jG2 ?_ r;try clear r;intro zz1;refine jI3 ?_;intro db jb pb;refine jG3 ?_;intro ho hb hs;obtain rfl:=zz1
 repeat lk
 exact q _ _ _ _ _ _ _ _ _ _ (le.trans le') (hx.le le') ho hb hs S'
end
theorem sm_keep (P:jT):keepIn (KF P) (.ref 242)=true:=by kernel_rfl!
noncomputable abbrev posL:kW:=⟨585,31,585,56⟩
noncomputable abbrev gY:kJ:=kY "_law_told.<locals>.<lambda>"
noncomputable def jkOf (md:Bool)(js:List Nat)(k:Nat):Bool:=decide (js≠[])&&inJ md js k
theorem seq_nn' {md:Bool}{B:Base}{v:jL}{ks:List Nat}(x:SeqV md B v ks):v≠.none:=by
 cases md with
 | false=>refine jI2 ?_ x;try clear x;intro a vs;refine jG2 ?_;intro zz1 _;obtain rfl:=zz1;intro q;cases q
 | true=>obtain⟨t,rfl⟩:=x;intro q;cases q
section
variable {w:jS}{A:jV}{C:Cx}{m mg mb:kJ→Option jL}{B:Base}{M:List (jQ×kK)}
 {h:kI} {g:Array jX} {d:kU} {t:Nat} {os:jU} {env:Env} {Q:jL→jP→Prop} {E:jL→jP→Prop}
theorem fH {x:kJ}{pos:kW}{v:jL}{c:jQ}{o:kK}(S:St C B h m M)(hE:aP C env)(hb:B c=some o)(ho:o.data=.cell (some v))(k:Q v ⟨h,g,d,t,os⟩)
  (hc:autoParam (env.cells.lookup x=some c) tR) (hx:autoParam (env.kindOf x=some .cell) tR) (hd:autoParam ((x==("__debug__":kJ))=false) tD):
  jN (jM PW w) A (eval (.Name x pos) env) Q E ⟨h,g,d,t,os⟩:=wpAny_Name (wpAny_loadName_cell hE.k hx hc ⟨o,S.b _ _ hb,ho⟩ k) hd
end
section
variable {w:jS}{A:jV}{s:jP}{mg mb:kJ→Option jL}{B:Base}
theorem c_told {md:Bool}{va vb vj:jL}{as bs js:List Nat}{ps:Array jL}
  (sa:SeqV md B va as) (sb:SeqV md B vb bs) (sj:SeqV md B vj js)
  (hone:md=false→∀k l,jkOf md js k=true→jkOf md js l=true→k=l)
  (hs1:as.length≤60) (hs2:bs.length≤100) (hs3:js.length≤60)
  (hd:s.heap.get? 325=some (tabObj ps)) (hdB:B 325=none) (htab:Tab B posL gY ps) (hbm:BM mg B)
  (G:Gr w mg mb B) (hB:∀a o,B a=some o→s.heap.get? a=some o) (hr:Room A 16):
  jN (jM PW w) A (call (.ref 328) [va,vb,vj]) (dF B s 325 fun v B' od'=>(∃r x y,v=.ref r∧Tup B' r [x,y]∧dE Bl B' x (mgOf as.length bs.length (bl (eqN as bs) (jkN as (jkOf md js)) (0,as.length,0,bs.length)))∧dE CdR B' y (bR (mgOf as.length bs.length (bl (eqN as bs) (jkN as (jkOf md js)) (0,as.length,0,bs.length)))).2)∧∃ps',od'=tabObj ps'∧Tab B' posL gY ps') no s:=by
 injection sa sb sj hone hs1 hs2 hs3 hd hdB htab hbm G hB hr with w A s mg mb B md va vb vj as bs js ps
 refine' callMC (o:=o_328 w.params) (binds:=[(kY "one",va),(kY "other",vb),(kY "junk",vj)])
  [(kY "other",vb),(kY "one",va)]
  [(kY "junk",some vj)] (ps:=["one","other","junk"]) G hB hd hdB hr.d' ?ho ?hd ?hcd ?hb ?c1 ?c2 ?c3 ?c4 ?c5 ?c6 ?c7 ?c8 ?c9 ?_
 case ho=>exact rfl
 case hd=>exact rfl
 case hcd=>exact rfl
 case hb=>exact rfl
 case c1=>exact rfl
 case c9=>exact rfl
 case c2=>
  change ∀x∈([kY "one",kY "other",kY "junk"]:List kJ),pB x _=some NameKind.local∨(pB x _=some NameKind.cell∧x∈([kY "junk"]:List kJ))
  decide
 case c3=>exact .cons rfl (.cons rfl .nil)
 case c4=>intro c;rfl
 case c5=>exact .cons rfl .nil
 case c6=>
  change ([kY "junk"]:List kJ).Nodup
  decide
 case c7=>exact rfl
 case c8=>exact rfl
 intro C h t oc e1 e2 hoc S e3 e4
 injection e1 e2 hoc S e3 e4 with C h t oc
 have oj:(oc "junk").data=.cell (some vj):=hoc _ (kZ ..)
 change St C B h _ ([]++(C.L+1,oc "junk")::[(325,tabObj ps)]) at S
 generalize oc "junk"=oJ at S oj
 clear hoc
 have hh:=hr.h
 have hcc:C.L+1≠325:=fun q=>S.apart (M₁:=[]) (M₂:=[(325,tabObj ps)]) (325,tabObj ps) (by simp) q.symm
 have hb0:=(S.m (C.L+1,oJ) (kZ ..)).2.2.2
 have S1:=St.keep (M₁:=[]) (M₂:=[(325,tabObj ps)]) S (e4.2 _ hcc)
 have lb:Le B (Base.put B (C.L+1) oJ):=aV _ hb0
 have hcl:(Base.put B (C.L+1) oJ) (C.L+1)=some oJ:=aM _ _ _
 generalize Base.put B (C.L+1) oJ=B1 at S1 lb hcl
 clear S
 have S:St C B1 h _ ([]++(325,tabObj ps)::[]):=S1
 clear S1
 generalize hEe:envX _ _ C.L _ _ _=env
 have hE:aP C env:=hEe▸⟨rfl,rfl,rfl,rfl⟩
 subst hEe
 replace G:=G.le lb
 replace sa:=sa.le lb
 replace sb:=sb.le lb
 replace sj:=sj.le lb
 replace htab:=htab.le lb
 replace hbm:=hbm.le lb
 refine aY (aR (dY S hE G (glob_sm _) ?_))
 refine f_cls S G (sm_keep _) ?_
 refine aB (jR (Q:=fun v s'=>∃h' d' t' B' ps',s'=⟨h',s.gens,d',t',s.os⟩∧St C B' h' (vars [(kY "other",vb),(kY "one",va)]) ([]++(325,tabObj ps')::[])∧Le B1 B'∧JkV w md B' v (jkOf md js)∧Tab B' posL gY ps') (E:=no) ?_ ?_ (fun _ _ z=>z))
 ·refine e_ifp (decide (js≠[])) ?_ (fun c t=>?_) (fun c t=>?_)
  ·refine aQ (aR (cM (v:=.builtin "len") S hE G (cJ _) rfl ?_))
   refine eE (aB (fH S hE hcl oj ?_))
   refine aC (r_len S sj (by lia) ?_);intro u _
   refine aF ?_;intro u2 _
   refine c_gt (aI ?_)
   exact pu (by rw[lI];cases js<;>simp)
  ·have hjs:=of_decide_eq_true c
   refine lam_make (P:=325) (c:=327) (M₁:=[]) (M₂:=[]) (qual:=gY) S G hbm htab (jJ9 _ _ _ _ _ _ _ _ _ (jH10 (S.b _ _ (G.K 327 (o_327 w.params) rfl)) rfl rfl rfl rfl rfl rfl rfl rfl (by decide))) rfl rfl (by show((kY "_law_told"++".<locals>.":kJ)++"<lambda>":kJ)=gY;decide +kernel) rfl rfl ?_
   clear S
   intro h t B2 f ps' c' ctv pm oc vs tq le hf hc1 hc2 hc3 htab' S
   clear hb0 lb sa sb htab hbm;injection oj hcl G sj le hf hc1 hc2 hc3 htab' S with oJ B1 h t B2 f ps' c' ctv pm oc vs tq
   refine jJ5 h _ _ B2 ps' (jH5 rfl S le (.inr (jJ3 f _ _ (jH5 rfl hf rfl rfl ?_))) htab')
   intro A s B' k x l hB hr hx
   injection l hB hr hx with A s B' k x
   have:=c_lam (G.le (le.trans l)) hB (l _ _ hf) (l _ _ hc1) hc2 hc3 ((le.trans l) _ _ hcl) oj (sj.le (le.trans l)) hx rfl (by decide) rfl rfl rfl rfl rfl (by decide) (by decide) (by decide) hr.d'
   have e:jkOf md js k=inJ md js k:=by unfold jkOf;rw[decide_eq_true hjs];rfl
   rw[e];exact this
  ·have hjs:js=[]:=by simpa using c
   refine dJ ?_
   exact jJ5 h _ _ B1 ps (jH5 rfl S (Le.refl _) (.inl ⟨rfl,fun k=>by unfold jkOf;rw[hjs];rfl⟩) htab)
 clear S htab
 intro v s';refine jI5 ?_;intro h d t B2 ps2;refine jG5 ?_;intro zz2 S le hjk htab;obtain rfl:=zz2
 clear oj hb0 lb hcl;injection G sa sb sj hbm S le hjk htab with oJ B1 v h d t B2 ps2
 replace G:=G.le le
 replace sa:=sa.le le
 replace sb:=sb.le le
 replace sj:=sj.le le
 replace hbm:=hbm.le le
 refine aB (aA S hE (by exact rfl) ?_)
 refine aB (aA S hE (by exact rfl) ?_)
 refine aC ?_
 refine⟨G.at S.b,?_⟩
 refine mk_sm S G (seq_nn' sa) sb hjk hone hs2 (hr.deeper.le (by decide)) ?_;clear S
 intro h d t x dx od db jb pb B3 le hx ho hb2j hset S
 injection le hx ho hb2j hset S with h d t x dx od db jb pb B3
 replace G:=G.le le
 replace sa:=sa.le le
 replace sb:=sb.le le
 replace sj:=sj.le le
 replace hbm:=hbm.le le
 replace htab:=htab.le le
 refine aD S hE ?_;clear S;intro h t S
 replace S:=S.few (.cons (x:=kY "matcher") rfl (.nil))
 refine cN (bM (aB (gS rfl rfl (by decide) ?_)))
 refine aU (aA S hE (by exact rfl) ?_)
 refine eF (of:=o_203 w.params) S G hx (kZ ..) ho (sm_gmb _) rfl rfl (cI _) (gW _) (by exact rfl) ob_gmb ?_
 refine iK S G (kp_203 _) ?_
 have A1:=S.m (dx,od) (kZ ..)
 refine useM (M₁:=[]) (M₂:=[(325,tabObj ps2)]) S (c_gmb hx A1.1 A1.2.2.2 ho (lF rfl) (by exact rfl) (by exact rfl) (by exact rfl) (by exact rfl) (by exact rfl) (by exact rfl) sa sb hb2j hset hs1 hs2 G S.b (hr.deeper.le (by decide))) ?_
 clear S A1
 intro _ h d t B4 od2 S le;refine jI2 ?_;intro l vm;refine jG4 ?_;intro zz3 hl hm ho2;obtain rfl:=zz3
 injection S le hl hm ho2 with h d t B4 od2 l vm
 have hlen:(mgOf as.length bs.length (bl (eqN as bs) (jkN as (jkOf md js)) (0,as.length,0,bs.length))).length≤1000:=by
  have h1:=bl_len (eqN as bs) (jkN as (jkOf md js)) (0,as.length,0,bs.length) (lC _) (lC _)
  have h2:=fL (bl (eqN as bs) (jkN as (jkOf md js)) (0,as.length,0,bs.length))
  dsimp only at h1
  unfold mgOf
  split<;>simp<;>lia
 generalize (mgOf as.length bs.length (bl (eqN as bs) (jkN as (jkOf md js)) (0,as.length,0,bs.length)))=ms at hm hlen⊢
 replace G:=G.le le
 replace sa:=sa.le le
 replace sb:=sb.le le
 replace sj:=sj.le le
 replace hbm:=hbm.le le
 replace htab:=htab.le le
 replace hx:=hx.le le
 have hml:=hm.length
 refine fO S hl hh (by rw[jZ];lia) (by decide) rfl (fun i y B=>∃c,ms[i]? =some c∧Bl B y c) (fun i y B B' l x=>x.elim fun c z=>⟨c,z.1,z.2.le l⟩) ?_ ?_
 ·intro k v C' B' h m' M' d t hi S le kept
  generalize hEe:compEnvC _ _ C'.L _=env
  have hE':aP C' env:=hEe▸⟨rfl,rfl,rfl,rfl⟩
  subst hEe
  refine jI1 ?_ (hm.get hi);intro c;refine jG2 ?_;intro hc hmt
  refine jI4 ?_ (hmt.le le);intro xa y1 y2 y3;refine jG2 ?_;intro zz4 hmo;obtain rfl:=zz4
  refine aK (dC S hE' ?_);clear S;intro h t S
  replace S:=S.fewf (L':=[(kY "block",.ref xa)]) (.cons rfl .nil)
  replace G:=G.le le
  refine aR (cM (v:=.type "tuple") S hE' G (eU _) rfl ?_)
  refine dX (aB (aA S hE' (by exact rfl) ?_))
  refine aC (c_tupm S G hmo rfl hh ?_);clear S;intro h t a B5 le5 hta S
  exact jJ5 h _ _ _ _ (jH3 rfl S ⟨c,⟨hc,jJ4 a y1 y2 y3 ⟨rfl,hta⟩⟩⟩)
 clear S
 intro h d t B5 a ys S le hla hyl hys
 have hbls:F2 (Bl B5) ys ms:=F2.of_get (by lia) fun i y c h1 h2=>by
  refine jI1 ?_ (hys i y h1);intro c';refine jG2 ?_;intro h3 h4
  rw[h2] at h3;cases h3;exact h4
 replace G:=G.le le
 replace sa:=sa.le le
 replace sb:=sb.le le
 replace sj:=sj.le le
 replace hbm:=hbm.le le
 replace htab:=htab.le le
 replace hx:=hx.le le
 replace hl:=hl.le le
 replace hm:=gM hm le
 refine aB (aU (aA S hE (by exact rfl) ?_))
 refine eF (of:=o_210 w.params) S G hx (kZ ..) ho2 (sm_gop _) rfl rfl (cI _) (gW _) (by exact rfl) ob_gop ?_
 refine iK S G (kp_210 _) ?_
 have A1:=S.m (dx,od2) (kZ ..)
 refine useM (M₁:=[]) (M₂:=[(325,tabObj ps2)]) S (c_gop hx A1.1 A1.2.2.2 ho2 (lF rfl) (by exact rfl) (by exact rfl) (by exact rfl) hl hm hlen G S.b (hr.deeper.le (by decide))) ?_
 clear S A1
 intro _ h d t B6 od3 S le;refine jI2 ?_;intro l2 vo;refine jG3 ?_;intro zz5 hl2 ho3;obtain rfl:=zz5
 replace htab:=htab.le le
 replace hla:=hla.le le
 replace hbls:=bE hbls le
 refine aC (bL S (lF rfl) ?_);clear S;intro h tt B7 le htt S
 exact S.endsM e1 e2 e3 e4 (lX _ (kZ ..)) ⟨(jJ3 tt _ _ (jH4 rfl htt (jJ2 a ys (jH3 rfl (hla.le le) (bE hbls le))) (jJ2 l2 vo (jH3 rfl (hl2.le le) (bS ho3 le))))),ps2,rfl,htab.le le⟩
end
noncomputable def hexc (b:Array UInt8):Array Nat:=b.toList.zipIdx.foldl (fun(out:Array Nat) (ci:UInt8×Nat)=>(out.push (Builtin.Bytes.hexDigit (ci.1.toNat/16))).push (Builtin.Bytes.hexDigit (ci.1.toNat%16))) #[]
theorem hex_eq (b:Array UInt8)(t:Tok):Builtin.«bytes.hex» ⟨[.bytes b t],[]⟩=retStr ⟨hexc b⟩:=by kernel_rfl
theorem upper_eq (b:Array UInt8)(t:Tok):Builtin.«bytes.upper» ⟨[.bytes b t],[]⟩=(Builtin.Bytes.Kind.bytes.new (b.toList.map Builtin.Bytes.toUpper).toArray >>= fun v=>ret v):=by kernel_rfl
theorem dec_eq (c:UInt8)(cs:List UInt8)(t u:Tok):Builtin.«bytes.decode» ⟨[.bytes (c::cs).toArray t,.str (kY "ascii") u],[]⟩=(mkStr (PySem.Str.ofString "utf-8") >>= fun _=>mkStr (PySem.Str.ofString "ascii") >>= fun e=>mkStr (PySem.Str.ofString "bytes.decode") >>= fun d=>
  call (.builtin "_codecs.decode.text") [.bytes (c::cs).toArray t,e,.none,d] >>= fun v=>ret v):=by kernel_rfl
theorem road_eqA (b:Array UInt8)(id:String):Builtin._codecs.decodeRoad id b (PySem.Str.ofString "ascii") none []=(Builtin._codecs.runDecoder id Builtin._codecs.asciiDecoder none true b 0 [] >>= fun r=>mkStr ⟨r.1⟩):=by kernel_rfl
theorem enc_eq (x:kJ)(t u:Tok):Builtin.«str.encode» ⟨[.str x t,.str (kY "ascii") u],[]⟩=((Builtin._codecs.encodeNarrow "str.encode" Builtin._codecs.asciiCodec none (.str x t) x >>= fun b=>mkBytes b) >>= fun v=>ret v):=by kernel_rfl
theorem forIn_run {σ:Type}(f:Nat→σ→Sem (ForInStep σ))(g:Nat→σ):∀(n a k:Nat),(∀i x,i<n→f x (g (k+i))=pure (.yield (g (k+i+1))))→forIn (List.range' a n) (g k) f=pure (g (k+n))
 | 0,a,k,h=>by simp
 | n+1,a,k,h=>by
  rw[List.range'_succ,oV]
  have e:=h 0 a (by lia)
  rw[oL] at e
  rw[e,pure_bind]
  dsimp only
  rw[forIn_run f g n (a+1) (k+1) (fun i x hi=>by have:=h (i+1) x (by lia);rw[show k+1+i=k+(i+1) by lia];exact this)]
  rw[show k+1+n=k+(n+1) by lia]
section
open Builtin
theorem rd_key {σ:Type}(st:σ)(b:Array UInt8)(hz:b.size≤kC)(f:Nat→Nat×Array Nat×σ→Sem (ForInStep (Nat×Array Nat×σ)))
  (hf:∀x p out,p<b.size→out.size≤kC→f x (p,out,st)=pure (.yield (p+1,out++ #[(b.getD p 0).toNat],st))):
  (forIn [0:b.size] (0,#[],st) f >>= fun s=>(pure (s.2.1,s.1):Sem (Array Nat×Nat)))=pure (b.map fun c=>c.toNat,b.size):=by
 rw[Std.Legacy.Range.forIn_eq_forIn_range']
 simp only[Std.Legacy.Range.size,pQ,qH,Nat.div_one]
 have:=forIn_run f (fun p=>(p,((b.toList.take p).map fun c=>c.toNat).toArray,st)) b.size 0 0 (fun i x hi=>by
  rw[pZ]
  rw[hf x i _ hi (by rw[lY,lZ,nG];exact lB (Nat.min_le_left _ _) (lB (lL hi) hz))]
  congr 2
  have hi':i<b.toList.length:=by rw[oM];exact hi
  have e:b.getD i 0=b.toList[i]:=by simp[Array.getD,hi]
  rw[nH,mH hi',e]
  simp)
 rw[pZ] at this
 have e0:((b.toList.take 0).map fun c=>c.toNat).toArray=(#[]:Array Nat):=by simp
 rw[e0] at this
 rw[this,pure_bind]
 dsimp only
 rw[show b.toList.take b.size=b.toList from by rw[←oM,oH]]
 congr 2
 apply Array.ext';simp
theorem rd_ascii (id:String)(b:Array UInt8)(hb:∀c∈b.toList,c.toNat<128)(hz:b.size≤kC):_codecs.runDecoder id _codecs.asciiDecoder none true b 0 []=pure (b.map fun c=>c.toNat,b.size):=by
 unfold _codecs.runDecoder
 refine rd_key _ b hz _ (fun x p out hp ho=>?_)
 have hc:(b.getD p 0).toNat<128:=by
  have e:b.getD p 0=b[p]:=by simp[Array.getD,hp]
  rw[e];exact hb _ (by simp)
 have ef:_codecs.asciiDecoder.find true b p=.text [(b.getD p 0).toNat] (p+1):=by
  unfold _codecs.asciiDecoder
  dsimp only
  rw[if_pos hc];rfl
 dsimp only
 rw[if_neg (lU.2 ho),if_neg (Nat.not_le.2 hp),ef]
theorem en_key {σ:Type}(st:σ)(x:kJ)(hz:x.cps.size≤kC)(f:Nat→Nat×Array UInt8×σ→Sem (ForInStep (Nat×Array UInt8×σ)))(R:Array UInt8)(hR:R.size≤kC)(hR0:x.cps.size=0→R= #[])
  (h1:∀k,0<x.cps.size→f k (0,#[],st)=pure (.yield (x.cps.size,R,st))) (h2:∀k,f k (x.cps.size,R,st)=pure (.done (x.cps.size,R,st))):
  (forIn [0:x.length] (0,#[],st) f >>= fun s=>(pure s.2.1:Sem (Array UInt8)))=pure R:=by
 rw[Std.Legacy.Range.forIn_eq_forIn_range']
 simp only[Std.Legacy.Range.size,pQ,qH,Nat.div_one,oG]
 rcases oF 0 x.cps.size with q | q
 ·obtain⟨n,hn⟩:∃n,x.cps.size=n+1:=⟨x.cps.size-1,(pE q).symm⟩
  rw[hn] at h1 h2 q⊢
  rw[List.range'_succ,oV,h1 0 q,pure_bind]
  dsimp only
  cases n with
  | zero=>simp
  | succ n=>
   rw[List.range'_succ,oV,h2,pure_bind]
   dsimp only
   rw[pure_bind]
 ·have:x.cps.size=0:=by lia
  rw[this,hR0 this];simp
theorem foldl_app (f:Nat→UInt8):∀(l:List Nat) (acc:Array UInt8),l.foldl (fun acc y=>acc++[f y].toArray) acc=acc++(l.map f).toArray
 | [],acc=>by simp
 | y::r,acc=>by
  rw[qG,foldl_app f r];simp
theorem en_ascii (x:kJ)(t:Tok)(hb:∀c∈x.cps.toList,c<128)(hz:x.cps.size≤kC):_codecs.encodeNarrow "str.encode" _codecs.asciiCodec none (.str x t) x=pure (x.cps.map fun c=>c.toUInt8):=by
 injection hb hz with x t
 unfold _codecs.encodeNarrow
 have bad:∀c∈x.cps,_codecs.asciiCodec.bad c=false:=fun c hc=>by
  unfold _codecs.asciiCodec
  exact decide_eq_false (Nat.not_le.2 (hb c (by simpa using hc)))
 have hnone:Array.findIdx? _codecs.asciiCodec.bad (x.cps.extract 0)=none:=by
  rw[Array.findIdx?_eq_none_iff]
  intro c hc
  exact bad c (by simpa using hc)
 refine en_key _ x hz _ (x.cps.map fun c=>c.toUInt8) (by simpa using hz) (fun h=>by rw[Array.eq_empty_of_size_eq_zero h];simp) (fun k hk=>?_) (fun k=>?_)
 ·have e0:x.cps[0]? =some x.cps[0]:=by simp[hk]
  dsimp only
  rw[if_neg (by simp),e0]
  dsimp only
  rw[bad _ (by simp),hnone]
  simp only[Bool.not_false,if_true,Option.getD_none,pZ]
  congr 2
  have e1:(x.cps.extract 0).size=x.cps.size:=by simp
  rw[e1]
  have e2:(x.cps.extract 0).extract 0 x.cps.size=x.cps:=by simp
  rw[e2]
  rw[←Array.foldl_toList]
  have:=foldl_app (fun c=>c.toUInt8) x.cps.toList #[]
  have e3:(fun(acc:Array UInt8) (y:Nat)=>acc++(_codecs.asciiCodec.bytesOf y).toArray)=fun acc y=>acc++[y.toUInt8].toArray:=rfl
  rw[e3,this]
  congr 1
  congr 1
  apply Array.ext';simp
 ·dsimp only
  rw[if_neg (by rw[Array.size_map];lia),qT (by lia)]
theorem meets_hex (b:Array UInt8)(t:Tok):Meets («bytes.hex» ⟨[.bytes b t],[]⟩) (fun _ R s=>(hexc b).size≤kC∧∀t' k,R (.ok (.ret (.str ⟨hexc b⟩ t'))) {s with toks:=k}):=by
 refine .of_wp fun prog w A R s hS=>?_
 obtain⟨hsz,h⟩:=hS
 rw[hex_eq]
 unfold retStr
 exact jK (wpAny_mkStr (jO ⟨_,rfl,h _ _⟩) hsz)
theorem meets_upper (b:Array UInt8)(t:Tok):Meets («bytes.upper» ⟨[.bytes b t],[]⟩) (fun _ R s=>b.size≤kC∧∀t' k,R (.ok (.ret (.bytes (b.toList.map Bytes.toUpper).toArray t'))) {s with toks:=k}):=by
 refine .of_wp fun prog w A R s hS=>?_
 obtain⟨hsz,h⟩:=hS
 rw[upper_eq]
 show jN _ _ (mkBytes _ >>= fun v=>ret v) _ _ s
 refine jK ?_
 refine wpAny_mkBytes (jO ⟨_,rfl,h _ _⟩) (by simpa using hsz)
theorem meets_enc (x:kJ)(t u:Tok):Meets («str.encode» ⟨[.str x t,.str (kY "ascii") u],[]⟩) (fun _ R s=>((∀c∈x.cps.toList,c<128)∧x.cps.size≤kC)∧∀t' k,R (.ok (.ret (.bytes (x.cps.map fun c=>c.toUInt8) t'))) {s with toks:=k}):=by
 refine .of_wp fun prog w A R s hS=>?_
 obtain⟨⟨hb,hsz⟩,h⟩:=hS
 rw[enc_eq,en_ascii x t hb hsz,pure_bind]
 refine jK ?_
 refine wpAny_mkBytes (jO ⟨_,rfl,h _ _⟩) (by simpa using hsz)
theorem meets_textA {b:Array UInt8}{t t1 t2:Tok}{d:kJ}:Meets («_codecs.decode.text» ⟨[.bytes b t,.str (PySem.Str.ofString "ascii") t1,.none,.str d t2],[]⟩) (fun _ R s=>((∀c∈b.toList,c.toNat<128)∧b.size≤kC)∧R (.ok (.ret (.str ⟨b.map fun c=>c.toNat⟩ s.toks))) {s with toks:=s.toks+1}):=by
 refine .of_wp fun prog w A R s hS=>?_
 obtain⟨⟨hb,hsz⟩,h⟩:=hS
 show jN _ _ (Bytes.bytesLike _ (.bytes b t) >>= fun r=>_) _ _ s
 refine jK (wpAny_of_eq KBd.like_eq ?_)
 refine jK (wpAny_of_eq KBd.held_eq ?_)
 show jN _ _ (_codecs.decodeRoad _ b (PySem.Str.ofString "ascii") none [] >>= fun v=>_) _ _ s
 rw[road_eqA,rd_ascii _ b hb hsz]
 refine jK (jK (jO ?_))
 exact wpAny_mkStr (jO ⟨_,rfl,h⟩) (by unfold oG;simpa using hsz)
theorem meets_decA (c:UInt8)(cs:List UInt8)(t u:Tok):Meets («bytes.decode» ⟨[.bytes (c::cs).toArray t,.str (kY "ascii") u],[]⟩) (fun _ R s=>((∀x∈(c::cs),x.toNat<128)∧(c::cs).length≤kC)∧∀t' k,R (.ok (.ret (.str ⟨((c::cs).map fun c=>c.toNat).toArray⟩ t'))) {s with toks:=k}):=by
 refine .of_wp fun prog w A R s hS=>?_
 obtain⟨⟨hb,hsz⟩,h⟩:=hS
 rw[dec_eq]
 refine jK (wpAny_mkStr ?_ (by decide))
 refine jK (wpAny_mkStr ?_ (by decide))
 refine jK (wpAny_mkStr ?_ (by decide))
 refine jK (call_function_meets KBd.kind_text KBd.plain_text KBd.entry_text (KBd.args_text _ _ _ _) meets_textA ⟨⟨hb,by rw[lY];exact hsz⟩,jO ⟨_,rfl,?_⟩⟩)
 rw[List.map_toArray]
 exact h _ _
end
theorem sl_upper:Slot "bytes" "upper" "bytes.upper":=
 .of (owner:="bytes") (n:="upper") (by rw[jY,kH];kernel_rfl) (by decide +kernel) (by decide +kernel) (by decide +kernel)
  (by first | exact .inl (by decide +kernel) | exact .inr (by decide +kernel)) (by rw[isSubtype_type];kernel_rfl)
theorem ty_upper:typeOf (.builtin "bytes.upper")=pure (.type "method_descriptor"):=by show builtinType _=_;rw[builtinType_eq_fast];kernel_rfl
theorem en_upper:entryFor table "bytes.upper"=some Builtin.«bytes.upper»:=entryFor_of_tree (by kernel_rfl)
theorem ar_upper (a:jL):argsOk "bytes.upper" ⟨[a],[]⟩:=by unfold argsOk;kernel_rfl
theorem sl_enc:Slot "str" "encode" "str.encode":=
 .of (owner:="str") (n:="encode") (by rw[jY,kH];kernel_rfl) (by decide +kernel) (by decide +kernel) (by decide +kernel)
  (by first | exact .inl (by decide +kernel) | exact .inr (by decide +kernel)) (by rw[isSubtype_type];kernel_rfl)
theorem ty_enc:typeOf (.builtin "str.encode")=pure (.type "method_descriptor"):=by show builtinType _=_;rw[builtinType_eq_fast];kernel_rfl
theorem en_enc:entryFor table "str.encode"=some Builtin.«str.encode»:=entryFor_of_tree (by kernel_rfl)
theorem ar_enc (a b:jL):argsOk "str.encode" ⟨[a,b],[]⟩:=by unfold argsOk;kernel_rfl
theorem ar_dec2 (a b:jL):argsOk "bytes.decode" ⟨[a,b],[]⟩:=by unfold argsOk;kernel_rfl
section
variable {w:jS}{A:jV}{h:kI}{g:Array jX}{d:kU}{t:Nat}{os:jU}{Q:jL→jP→Prop}{QP:jL×List jL→jP→Prop}{E:jL→jP→Prop}
theorem n_hex {b:Array UInt8}{u:Tok}(hsz:(hexc b).size≤kC)(k:∀u' t',Q (.str ⟨hexc b⟩ u') ⟨h,g,d,t',os⟩):jN (jM PW w) A (call (.builtin "bytes.hex") [.bytes b u]) Q E ⟨h,g,d,t,os⟩:=
 call_meets FB.slot_bytes_hex (typeIs_bytes _ _ _) FB.entry_bytes_hex (FB.args_bytes_hex_1 _) (meets_hex b u) ⟨hsz,k⟩
theorem n_upper {b:Array UInt8}{u:Tok}(hsz:b.size≤kC)(k:∀u' t',Q (.bytes (b.toList.map Builtin.Bytes.toUpper).toArray u') ⟨h,g,d,t',os⟩):jN (jM PW w) A (call (.builtin "bytes.upper") [.bytes b u]) Q E ⟨h,g,d,t,os⟩:=
 call_meets sl_upper (typeIs_bytes _ _ _) en_upper (ar_upper _) (meets_upper b u) ⟨hsz,k⟩
theorem n_enc {x:kJ}{u u2:Tok}(hb:∀c∈x.cps.toList,c<128)(hsz:x.cps.size≤kC)(k:∀u' t',Q (.bytes (x.cps.map fun c=>c.toUInt8) u') ⟨h,g,d,t',os⟩):jN (jM PW w) A (call (.builtin "str.encode") [.str x u,.str (kY "ascii") u2]) Q E ⟨h,g,d,t,os⟩:=
 call_meets sl_enc (typeIs_str _ _ _) en_enc (ar_enc _ _) (meets_enc x u u2) ⟨⟨hb,hsz⟩,k⟩
theorem n_dec {c:UInt8}{cs:List UInt8}{u u2:Tok}(hb:∀x∈(c::cs),x.toNat<128)(hsz:(c::cs).length≤kC)(k:∀u' t',Q (.str ⟨((c::cs).map fun c=>c.toNat).toArray⟩ u') ⟨h,g,d,t',os⟩):
  jN (jM PW w) A (call (.builtin "bytes.decode") [.bytes (c::cs).toArray u,.str (kY "ascii") u2]) Q E ⟨h,g,d,t,os⟩:=
 call_meets FB.slot_bytes_decode (typeIs_bytes _ _ _) FB.entry_bytes_decode (ar_dec2 _ _) (meets_decA c cs u u2) ⟨⟨hb,hsz⟩,k⟩
theorem gm_hex {b:Array UInt8}{u:Tok}{pl:Sem Bool}(k:QP (.builtin "bytes.hex",[.bytes b u]) ⟨h,g,d,t,os⟩):jN (jM PW w) A (getMethod (.bytes b u) "hex" pl) QP E ⟨h,g,d,t,os⟩:=
 KBd.method_of (.bytes b u) (typeIs_bytes _ _ _) FB.slot_bytes_hex FB.type_bytes_hex KBd.noRef k
theorem gm_upper {b:Array UInt8}{u:Tok}{pl:Sem Bool}(k:QP (.builtin "bytes.upper",[.bytes b u]) ⟨h,g,d,t,os⟩):jN (jM PW w) A (getMethod (.bytes b u) "upper" pl) QP E ⟨h,g,d,t,os⟩:=
 KBd.method_of (.bytes b u) (typeIs_bytes _ _ _) sl_upper ty_upper KBd.noRef k
theorem gm_dec {b:Array UInt8}{u:Tok}{pl:Sem Bool}(k:QP (.builtin "bytes.decode",[.bytes b u]) ⟨h,g,d,t,os⟩):jN (jM PW w) A (getMethod (.bytes b u) "decode" pl) QP E ⟨h,g,d,t,os⟩:=KBd.method k
end
theorem glob_B64 (P:jT):glob P "_B64"=some (.bytes #[65,66,67,68,69,70,71,72,73,74,75,76,77,78,79,80,81,82,83,84,85,86,87,88,89,90,97,98,99,100,101,102,103,104,105,106,107,108,109,110,111,112,113,114,115,116,117,118,119,120,121,122,48,49,50,51,52,53,54,55,56,57,43,47] 601):=by kernel_rfl!
section
variable {w:jS}{A:jV}{h:kI}{g:Array jX}{d:kU}{t:Nat}{os:jU}{env:Env}{Q:jL→jP→Prop}{E:jL→jP→Prop}
theorem c_isT {a b:String}(k:Q (.bool (Value.type a==Value.type b)) ⟨h,g,d,t,os⟩):jN (jM PW w) A (compareOp .Is (.type a) (.type b)) Q E ⟨h,g,d,t,os⟩:=jO (a:=Value.bool (Value.type a==Value.type b)) k
theorem c_isnotT {a b:String}(k:Q (.bool (!(Value.type a==Value.type b))) ⟨h,g,d,t,os⟩):jN (jM PW w) A (compareOp .IsNot (.type a) (.type b)) Q E ⟨h,g,d,t,os⟩:=jO (a:=Value.bool (!(Value.type a==Value.type b))) k
theorem c_isR {a:jQ}(k:Q (.bool true) ⟨h,g,d,t,os⟩):jN (jM PW w) A (compareOp .Is (.ref a) (.ref a)) Q E ⟨h,g,d,t,os⟩:=wpAny_is_ref_self k
end
section
variable {w:jS}{A:jV}{s:jP}{mg mb:kJ→Option jL}{B:Base}
theorem c_buffer {b:Array UInt8}{u:Tok}(G:Gr w mg mb B)(hB:∀a o,B a=some o→s.heap.get? a=some o)(hr:Room A 1):
  jN (jM PW w) A (call (.ref 253) [.bytes b u]) (Ends B s fun v _=>v=.bytes b u) no s:=by
 refine' eP (o:=o_253 w.params) (binds:=[(kY "data",.bytes b u)]) G hB hr.d' ?ho ?hd ?hcd ?hb ?c1 ?c2 ?c3 ?c4 ?c5 ?_
 case ho=>exact rfl
 case hd=>exact rfl
 case hcd=>exact rfl
 case hb=>exact BindsTo.of_eq rfl
 case c1=>decide
 case c2=>exact locs rfl
 case c3=>exact rfl
 case c4=>exact rfl
 case c5=>exact rfl
 intro C h t e1 e2 S e3 e4
 generalize hEe:envX _ _ C.L _ _ []=env
 have hE:aP C env:=hEe▸⟨rfl,rfl,rfl,rfl⟩
 subst hEe
 change St C B h (vars [(kY "data",.bytes b u)]) [] at S
 clear hB hr;injection G e1 e2 e3 e4 hE S with w A s mg mb B b u C h t
 refine aY (aR (cM (v:=.type "type") S hE G (gP _) rfl ?_))
 refine dX (aB (aA S hE (by exact rfl) ?_))
 refine aC (call_type_of (Tx:="bytes") rfl (by decide) ?_)
 refine aD S hE ?_;clear S;intro h t S
 refine bH true ?_ (fun c t=>?_) (fun c=>nomatch c)
 ·refine aQ (aA S hE (by exact rfl) ?_)
  refine cM (v:=.type "bytes") S hE G (eV _) rfl ?_
  refine c_isT (aI ?_)
  exact pu (by decide)
 refine cN (aA S hE (by exact rfl) ?_)
 exact t_ret (S.ends e1 e2 e3 e4 rfl)
theorem c_truth {b:Bool}(G:Gr w mg mb B)(hB:∀a o,B a=some o→s.heap.get? a=some o)(hr:Room A 1):
  jN (jM PW w) A (call (.ref 260) [.bool b]) (Ends B s fun v _=>v=.bool b) no s:=by
 refine' eP (o:=o_260 w.params) (binds:=[(kY "x",.bool b)]) G hB hr.d' ?ho ?hd ?hcd ?hb ?c1 ?c2 ?c3 ?c4 ?c5 ?_
 case ho=>exact rfl
 case hd=>exact rfl
 case hcd=>exact rfl
 case hb=>exact BindsTo.of_eq rfl
 case c1=>decide
 case c2=>exact locs rfl
 case c3=>exact rfl
 case c4=>exact rfl
 case c5=>exact rfl
 intro C h t e1 e2 S e3 e4
 generalize hEe:envX _ _ C.L _ _ []=env
 have hE:aP C env:=hEe▸⟨rfl,rfl,rfl,rfl⟩
 subst hEe
 change St C B h (vars [(kY "x",.bool b)]) [] at S
 clear hB hr;injection G e1 e2 e3 e4 hE S with w A s mg mb B b C h t
 refine aY (aR (cM (v:=.type "type") S hE G (gP _) rfl ?_))
 refine dX (aB (aA S hE (by exact rfl) ?_))
 refine aC (call_type_of (Tx:="bool") rfl (by decide) ?_)
 refine aD S hE ?_;clear S;intro h t S
 refine bH true ?_ (fun c t=>?_) (fun c=>nomatch c)
 ·refine p_or (p:=false) (q:=true) ?_ (fun _ t=>p_or (p:=true) (q:=true) ?_ (fun c=>nomatch c))
  ·refine aQ (aA S hE (by exact rfl) ?_)
   refine dJ (is_none_ne (by intro q;cases q) ?_)
   refine aI ?_
   exact pu rfl
  ·refine aQ (aA S hE (by exact rfl) ?_)
   refine cM (v:=.type "bool") S hE G (glob_bool _) rfl ?_
   refine c_isT (aI ?_)
   exact pu (by decide)
 refine cN (e_ifp b ?_ (fun c t=>?_) (fun c t=>?_))
 ·refine dL (aA S hE (by exact rfl) ?_)
  refine aI ?_
  exact pu rfl
 ·refine e_bool ?_
  rw[c]
  exact t_ret (S.ends e1 e2 e3 e4 rfl)
 ·refine e_bool ?_
  rw[c]
  exact t_ret (S.ends e1 e2 e3 e4 rfl)
theorem c_hexlify {b:Array UInt8}{u:Tok}(hsz:b.size≤1000)(hhex:∀c∈(hexc b).toList,c<128)(hhs:(hexc b).size≤2000)(G:Gr w mg mb B)(hB:∀a o,B a=some o→s.heap.get? a=some o)(hr:Room A 3):
  jN (jM PW w) A (call (.ref 277) [.bytes b u]) (Ends B s fun v _=>∃u',v=.bytes ((hexc b).map fun c=>c.toUInt8) u') no s:=by
 refine' eP (o:=o_277 w.params) (binds:=[(kY "data",.bytes b u),(kY "sep",.ref 269),(kY "bytes_per_sep",.int 1 618)]) G hB hr.d' ?ho ?hd ?hcd ?hb ?c1 ?c2 ?c3 ?c4 ?c5 ?_
 case ho=>exact rfl
 case hd=>exact rfl
 case hcd=>exact rfl
 case hb=>exact binds_K (G.at hB) rfl rfl rfl rfl rfl
 case c1=>decide
 case c2=>exact locs rfl
 case c3=>exact rfl
 case c4=>exact rfl
 case c5=>exact rfl
 intro C h t e1 e2 S e3 e4
 generalize hEe:envX _ _ C.L _ _ []=env
 have hE:aP C env:=hEe▸⟨rfl,rfl,rfl,rfl⟩
 subst hEe
 change St C B h (vars [(kY "bytes_per_sep",.int 1 618),(kY "sep",.ref 269),(kY "data",.bytes b u)]) [] at S
 clear hB;injection hsz hhex hhs G hr e1 e2 e3 e4 hE S with w A s mg mb B b u C h t
 refine aY (aR (dY S hE G (hN _) ?_))
 refine cZ (o:=o_253 w.params) rfl ?_
 refine aB (aA S hE (by exact rfl) ?_)
 refine aC ?_
 refine⟨S.b _ _ (G.K _ _ rfl),use S (c_buffer G S.b (hr.deeper.le (by decide))) ?_⟩
 clear S
 rintro _ h d t B1 S le rfl
 injection S le with h d t B1
 replace G:=G.le le
 refine aD S hE ?_;clear S;intro h t S
 refine bH false ?_ (fun c=>nomatch c) (fun c t=>?_)
 ·refine p_or (p:=false) (q:=false) ?_ (fun _ t=>p_or (p:=false) (q:=false) ?_ (fun _ t=>p_or (p:=false) (q:=false) ?_ fun _ t=>p_or0))
  ·refine aQ (aR (cM (v:=.type "type") S hE G (gP _) rfl ?_))
   refine dX (aB (aA S hE (by exact rfl) ?_))
   refine aC (call_type_of (Tx:="int") rfl (by decide) ?_)
   refine cM (v:=.type "int") S hE G (glob_int _) rfl ?_
   refine c_isnotT (aI ?_)
   exact pu (by decide)
  ·refine aQ (aA S hE (by exact rfl) ?_)
   refine UnaryOp_ (aF ?_);intro u1 _
   refine PyProof.Rows.neg_int ?_
   refine eX (aI ?_)
   exact pu (by decide)
  ·refine aQ (aA S hE (by exact rfl) ?_)
   refine aF ?_;intro u1 _
   refine c_gt (aI ?_)
   exact pu (by decide)
 refine aJ (bH true ?_ (fun c t=>?_) (fun c=>nomatch c))
 ·refine aQ (aA S hE (by exact rfl) ?_)
  refine dY S hE G (glob_nosep _) ?_
  refine c_isR (aI ?_)
  exact pu rfl
 refine cN (aU (aU (aA S hE (by exact rfl) ?_)))
 refine gm_hex (f_m0 (n_hex (by rw[jZ];lia) ?_));intro u1 _
 refine GM.of (.str _ _) (typeIs_str _ _ _) sl_enc ty_enc GM.noRef ?_
 refine dI (aB (bW ?_));intro u2 _
 refine aC (n_enc hhex (by show(hexc b).size≤_;rw[jZ];lia) ?_);intro u3 _
 exact t_ret (S.ends e1 e2 e3 e4 ⟨_,rfl⟩)
theorem c_b16 {b:Array UInt8}{u:Tok}(hsz:b.size≤1000)(hhex:∀c∈(hexc b).toList,c<128)(hhs:(hexc b).size≤2000)(G:Gr w mg mb B)(hB:∀a o,B a=some o→s.heap.get? a=some o)(hr:Room A 5):
  jN (jM PW w) A (call (.ref 292) [.bytes b u]) (Ends B s fun v _=>∃u',v=.bytes (((hexc b).map fun c=>c.toUInt8).toList.map Builtin.Bytes.toUpper).toArray u') no s:=by
 refine' eP (o:=o_292 w.params) (binds:=[(kY "s",.bytes b u)]) G hB hr.d' ?ho ?hd ?hcd ?hb ?c1 ?c2 ?c3 ?c4 ?c5 ?_
 case ho=>exact rfl
 case hd=>exact rfl
 case hcd=>exact rfl
 case hb=>exact BindsTo.of_eq rfl
 case c1=>decide
 case c2=>exact locs rfl
 case c3=>exact rfl
 case c4=>exact rfl
 case c5=>exact rfl
 intro C h t e1 e2 S e3 e4
 generalize hEe:envX _ _ C.L _ _ []=env
 have hE:aP C env:=hEe▸⟨rfl,rfl,rfl,rfl⟩
 subst hEe
 change St C B h (vars [(kY "s",.bytes b u)]) [] at S
 clear hB;injection hsz hhex hhs G hr e1 e2 e3 e4 hE S with w A s mg mb B b u C h t
 refine aZ (bW ?_);intro _ _
 refine cN (aU (aR (dY S hE G (glob_hex _) ?_)))
 refine cZ (o:=o_277 w.params) rfl ?_
 refine aB (aA S hE (by exact rfl) ?_)
 refine aC ?_
 refine⟨S.b _ _ (G.K _ _ rfl),use S (c_hexlify hsz hhex hhs G S.b (hr.deeper.le (by decide))) ?_⟩
 clear S
 rintro _ h d t B1 S le ⟨u1,rfl⟩
 refine gm_upper (f_m0 (n_upper (by rw[Array.size_map,jZ];lia) ?_));intro u2 _
 exact S.ends e1 e2 e3 e4 ⟨_,rfl⟩
end
noncomputable def B64A:Array UInt8:=#[65,66,67,68,69,70,71,72,73,74,75,76,77,78,79,80,81,82,83,84,85,86,87,88,89,90,97,98,99,100,101,102,103,104,105,106,107,108,109,110,111,112,113,114,115,116,117,118,119,120,121,122,48,49,50,51,52,53,54,55,56,57,43,47]
noncomputable def b64c (i:Nat):Nat:=((KBw.bInts B64A).getD i 0).toNat
abbrev BS:=List Nat×Nat×Nat
noncomputable def bsg (lb lc j:Nat):Nat:=b64c (lc/2 ^ (lb+8-6*(j+1))%64)
noncomputable def fU (st:BS)(b:Nat):BS:=(st.1++(lW ((st.2.1+8)/6)).map (bsg st.2.1 ((st.2.2*256+b)%65536)),(st.2.1+8)%6,(st.2.2*256+b)%65536)
noncomputable def brun (bs:List Nat):BS:=bs.foldl fU ([],0,0)
theorem brun_snoc (bs:List Nat)(b:Nat):brun (bs++[b])=fU (brun bs) b:=by unfold brun;rw[pC];rfl
theorem brun_ok (bs:List Nat):(brun bs).2.1<6∧(brun bs).2.2<65536∧(brun bs).1.length≤2*bs.length:=by
 generalize hn:bs.length=n
 induction n generalizing bs with
 | zero=>have:=nT hn;subst this;exact jH3 (by decide) (by decide) (lE _)
 | succ n ih=>
  rcases mW bs with rfl | ⟨qs,q,rfl⟩
  ·simp at hn
  ·rw[mX] at hn⊢
   have h1:=ih qs (by simpa using hn)
   rw[brun_snoc]
   unfold fU
   dsimp only
   refine jH3 (nS _ (by decide)) (nS _ (by decide)) ?_
   rw[lR,lZ,oA]
   lia
theorem b64_in:∀i<64,b64c i<256:=by decide +kernel
theorem ints_nv {vs:List jL}{ns:List Nat}(h:F2 NV vs ns):IntsAre vs (ns.map fun n:Nat=>(n:Int)):=by
 induction h with
 | nil=>exact .nil
 | cons x _ ih=>obtain⟨t,rfl⟩:=x;exact .cons _ t ih
theorem bitOr_nat (m n:Nat):Builtin.bitOr (m:Int) (n:Int)=((m ||| n:Nat):Int):=by
 unfold Builtin.bitOr
 have e:∀k:Nat,Builtin.bitNot (k:Int)<0:=fun k=>by unfold Builtin.bitNot;lia
 have e2:∀k:Nat,(Builtin.bitNot (Builtin.bitNot (k:Int)))=k:=fun k=>by unfold Builtin.bitNot;lia
 unfold Builtin.bitAnd
 rw[decide_eq_false (by have:=e m;lia),decide_eq_false (by have:=e n;lia)]
 dsimp only
 rw[e2,e2,e2]
 rfl
section
variable {w:jS}{A:jV}{C:Cx}{m mg mb:kJ→Option jL}{B:Base}{M:List (jQ×kK)}
 {h:kI} {g:Array jX} {d:kU} {t:Nat} {os:jU} {env:Env} {Q:jL→jP→Prop} {QF:kS→jP→Prop} {E:jL→jP→Prop}
theorem i_shl8 {a:Nat}{u v:Tok}(ha:a<65536)(k:∀u' t',Q (.int ((a*256:Nat):Int) u') ⟨h,g,d,t',os⟩):jN (jM PW w) A (binaryOp .LShift (.int (a:Nat) u) (.int 8 v)) Q E ⟨h,g,d,t,os⟩:=by
 refine PyProof.Rows.lshift_int (by decide) ?_ ?_
 ·have:Builtin.Int.intBits (a:Int)≤16:=intBits_le_iff.2 (by rw[Int.natAbs_natCast];exact ha)
  have e:((Builtin.Int.intBits (a:Int):Nat):Int)≤16:=by exact_mod_cast this
  have:(2:Int) ^ 27=134217728:=by decide
  lia
 ·have e:((a:Nat):Int)*2 ^ ((8:Int).toNat)=((a*256:Nat):Int):=by
   have:(2:Int) ^ ((8:Int).toNat)=256:=by decide
   rw[this,oN];rfl
  rw[e];exact k _ _
theorem i_orb {a b:Nat}{u v:Tok}(hb:b<256)(k:∀u' t',Q (.int ((a*256+b:Nat):Int) u') ⟨h,g,d,t',os⟩):jN (jM PW w) A (binaryOp .BitOr (.int ((a*256:Nat):Int) u) (.int (b:Nat) v)) Q E ⟨h,g,d,t,os⟩:=by
 refine PyProof.Rows.or_int ?_
 rw[bitOr_nat]
 have e:a*256 ||| b=a*256+b:=by
  have:=Nat.shiftLeft_add_eq_or_of_lt (i:=8) (by omega:b<2 ^ 8) a
  rw[Nat.shiftLeft_eq] at this
  exact this.symm
 rw[e];exact k _ _
theorem i_and16 {a:Nat}{u v:Tok}(k:∀u' t',Q (.int ((a%65536:Nat):Int) u') ⟨h,g,d,t',os⟩):jN (jM PW w) A (binaryOp .BitAnd (.int (a:Nat) u) (.int 65535 v)) Q E ⟨h,g,d,t,os⟩:=by
 refine PyProof.Rows.and_int ?_
 rw[bitAnd_m16]
 exact k _ _
theorem i_and6 {a:Nat}{u v:Tok}(k:∀u' t',Q (.int ((a%64:Nat):Int) u') ⟨h,g,d,t',os⟩):jN (jM PW w) A (binaryOp .BitAnd (.int (a:Nat) u) (.int 63 v)) Q E ⟨h,g,d,t,os⟩:=by
 refine PyProof.Rows.and_int ?_
 rw[bitAnd_m6]
 exact k _ _
theorem i_shr {a n:Nat}{i:Int}{u v:Tok}(hi:i=(n:Nat))(k:∀u' t',Q (.int ((a/2 ^ n:Nat):Int) u') ⟨h,g,d,t',os⟩):jN (jM PW w) A (binaryOp .RShift (.int (a:Nat) u) (.int i v)) Q E ⟨h,g,d,t,os⟩:=by
 subst hi
 refine PyProof.Rows.rshift_int (by lia) ?_
 have e:((a:Nat):Int).fdiv (2 ^ ((n:Nat):Int).toNat)=((a/2 ^ n:Nat):Int):=by
  rw[nY]
  have:((2:Int) ^ n)=((2 ^ n:Nat):Int):=by push_cast;rfl
  rw[this,Int.fdiv_eq_ediv_of_nonneg _ (qP _)]
  rfl
 rw[e];exact k _ _
theorem for_bytes {target:Expr}{body rest:List jW}{b:Array UInt8}{tb:Tok}(S:St C B h m M)(hh:A.handled=none)
  (J:Nat→Inv) (h0:J 0 B m M)
  (turn:∀(i:Nat) c u C' B' h' m' M' d t,b[i]? =some c→J i B' m' M'→St C' B' h' m' M'→C'.L=C.L∧C'.B₀=B'∧C'.W=C.W→Le B B'→
   jN (jM PW w) A (assign target env (.int (c.toNat:Nat) u)) (fun _ s₂=>jN (jM PW w) A (kO body env) (Turn C' g os (J (i+1)) (fun _ _ _=>False) (fun _ _ _ _=>False)) no s₂) no ⟨h',g,d,t,os⟩)
  (fin:∀h d t B' m' M',St C B' h m' M'→Le B B'→J b.size B' m' M'→jN (jM PW w) A (kO rest env) QF no ⟨h,g,d,t,os⟩)
  (ht:autoParam (∀i v,kE target (.ref i) v=pure ()) tR):
  fJ w A env target body rest QF (.bytes b tb) ⟨h,g,d,t,os⟩:=by
 injection S hh h0 turn fin ht with w A C m B M h g d t os env QF target body rest b tb J
 refine KBw.pyIter_bytes (s:=⟨h,g,d,t,os⟩) ?_
 have T:=S.kp (Kp.push h {cls:=.type "bytes_iterator",data:=.fields #[.bytes b tb,.int 0 0]})
 refine iW (KBw.walks hh h.objs.size b tb) T (fits1 S) (fun i h z b hb=>?_) (fun p hp x=>S.freshM p hp (lA.1 x)) (fun b hb=>by rw[lA.1 hb];exact S.freshB)
  ⟨_,jH3 (lT _ rfl) rfl rfl⟩ (fun i B' m' M'=>Le B B'∧J i B' m' M') (fun _ _ _=>False) (fun _ _ _ _=>False) ⟨Le.refl _,h0⟩ (fun i v C' B' h' m' M' d t hi hP j S' e' l=>?_)
  (fun h d t B' m' M' S' j=>fin h d t B' m' M' S' (j.elim (·.1) False.elim) (j.elim (·.2) False.elim)) (fun _ _ _ _ _ _ _ _ x=>x.elim) (ht _)
 ·refine jI1 ?_ z;try clear z;intro o;refine jG2 ?_;intro ho _;exact⟨o,lA.1 hb▸ho⟩
 ·refine jI2 ?_ hP;try clear hP;intro c u;refine jG2 ?_;intro hc zz1;obtain rfl:=zz1
  exact jR (turn i c u C' B' h' m' M' d t hc j.2 S' e' l) (fun _ s x=>jR x (fun fl s' y=>by
   cases fl with
   | next=>refine jI6 ?_ y;try clear y;intro h₁ d₁ t₁ B₁ m₁ M₁;refine jG3 ?_;intro e₁ S₁ j₁;exact jJ6 h₁ d₁ t₁ B₁ m₁ M₁ (jH4 e₁ S₁ (l.trans (e'.2.1▸S₁.up)) j₁)
   | cont=>refine jI6 ?_ y;try clear y;intro h₁ d₁ t₁ B₁ m₁ M₁;refine jG3 ?_;intro e₁ S₁ j₁;exact jJ6 h₁ d₁ t₁ B₁ m₁ M₁ (jH4 e₁ S₁ (l.trans (e'.2.1▸S₁.up)) j₁)
   | brk=>refine jI6 ?_ y;try clear y;intro _ _ _ _ _ _;refine jG3 ?_;intro _ _ x;exact x.elim
   | ret v=>refine jI6 ?_ y;try clear y;intro _ _ _ _ _ _;refine jG3 ?_;intro _ _ x;exact x.elim) fun _ _ x=>x) fun _ _ x=>x
end
theorem kp_268 (P:jT):keepIn (KF P) (.ref 268)=true:=by kernel_rfl!
section
variable {w:jS}{A:jV}{h:kI}{g:Array jX}{d:kU}{t:Nat}{os:jU}{env:Env}{Q:jL→jP→Prop}{E:jL→jP→Prop}
theorem e_callK {func:Expr}{args:List Expr}{kws:List Keyword}{pos:kW}
  (k:jN (jM PW w) A (eval func env) (fun f s₁=>jN (jM PW w) A (callWith pos f [] (backTo pos (kD args env)) (backToKw pos (keywordEach kws env))) Q E s₁) E ⟨h,g,d,t,os⟩)
  (he:autoParam (eval (.Call func args kws pos) env=(do callWith pos (←eval func env) [] (backTo pos (kD args env)) (backToKw pos (keywordEach kws env)))) tR):
  jN (jM PW w) A (eval (.Call func args kws pos) env) Q E ⟨h,g,d,t,os⟩:=by
 rw[he]
 exact jK k
end
section
variable {w:jS}{A:jV}{s:jP}{mg mb:kJ→Option jL}{B:Base}
theorem c_b2a {b:Array UInt8}{u:Tok}(hsz:b.size≤1000)(h0:(brun (b.toList.map fun c=>c.toNat)).2.1=0)(hout:∀c∈(brun (b.toList.map fun c=>c.toNat)).1,c<256)(G:Gr w mg mb B)(hB:∀a o,B a=some o→s.heap.get? a=some o)(hr:Room A 3):
  jN (jM PW w) A (call (.ref 268) [.bytes b u] [(kY "newline",.bool false)]) (Ends B s fun v _=>∃u',v=.bytes (byteArr ((brun (b.toList.map fun c=>c.toNat)).1.map fun n:Nat=>(n:Int))) u') no s:=by
 refine' eP (o:=o_268 w.params) (binds:=[(kY "data",.bytes b u),(kY "newline",.bool false)]) G hB hr.d' ?ho ?hd ?hcd ?hb ?c1 ?c2 ?c3 ?c4 ?c5 ?_
 case ho=>exact rfl
 case hd=>exact rfl
 case hcd=>exact rfl
 case hb=>exact BindsTo.of_eq rfl
 case c1=>decide
 case c2=>exact locs rfl
 case c3=>exact rfl
 case c4=>exact rfl
 case c5=>exact rfl
 intro C h t e1 e2 S e3 e4
 have hh:=hr.h
 generalize hEe:envX _ _ C.L _ _ []=env
 have hE:aP C env:=hEe▸⟨rfl,rfl,rfl,rfl⟩
 subst hEe
 change St C B h (vars [(kY "newline",.bool false),(kY "data",.bytes b u)]) [] at S
 clear hB;injection hsz h0 hout G hr e1 e2 e3 e4 hh hE S with w A s mg mb B b u C h t
 refine aY (aR (dY S hE G (hN _) ?_))
 refine cZ (o:=o_253 w.params) rfl ?_
 refine aB (aA S hE (by exact rfl) ?_)
 refine aC ?_
 refine⟨S.b _ _ (G.K _ _ rfl),use S (c_buffer G S.b (hr.deeper.le (by decide))) ?_⟩
 clear S
 rintro _ h d t B1 S le rfl
 injection S le with h d t B1
 replace G:=G.le le
 refine aD S hE ?_;clear S;intro h t S
 refine aY (aR (dY S hE G (glob_truth _) ?_))
 refine cZ (o:=o_260 w.params) rfl ?_
 refine aB (aA S hE (by exact rfl) ?_)
 refine aC ?_
 refine⟨S.b _ _ (G.K _ _ rfl),use S (c_truth G S.b (hr.deeper.le (by decide))) ?_⟩
 clear S
 rintro _ h d t B2 S le2 rfl
 injection S le2 with h d t B2
 replace G:=G.le le2
 refine aD S hE ?_;clear S;intro h t S
 refine aY (bA (aC (fR S (lC _) ?_)));clear S;intro h oa S
 refine aD S hE ?_;clear S;intro h t S
 refine aY (aF ?_);intro z1 _
 refine aD S hE ?_;clear S;intro h t S
 refine aY (aF ?_);intro z2 _
 refine aD S hE ?_;clear S;intro h t S
 replace S:=S.few (.cons (x:=kY "leftchar") rfl (.cons (x:=kY "leftbits") rfl (.cons (x:=kY "out") rfl (.cons (x:=kY "newline") rfl (.cons (x:=kY "bin_data") rfl (.nil))))))
 refine eD (aA S hE (by exact rfl) ?_)
 refine for_bytes S hh (fun n B' m' M'=>∃vs c x1 x2,M'=[(oa,lstO vs c)]∧m'=vars [(kY "leftchar",.int ((brun ((b.toList.map fun c=>c.toNat).take n)).2.2:Nat) x2),(kY "leftbits",.int ((brun ((b.toList.map fun c=>c.toNat).take n)).2.1:Nat) x1),(kY "out",.ref oa),(kY "newline",.bool false),(kY "bin_data",.bytes b u)]∧F2 NV vs (brun ((b.toList.map fun c=>c.toNat).take n)).1) ?_ ?_ ?_
 ·exact jJ4 [] _ z1 z2 (jH3 rfl rfl .nil)
 ·intro n c ub C' B' h m' M' d t hc;refine jI4 ?_;intro vs cn x1 x2;refine jG3 ?_;intro zz2 zz3 hvs;obtain rfl:=zz2;obtain rfl:=zz3;intro S;rintro⟨eL,eB⟩;intro le
  rename_i yy0;clear yy0;clear eB;injection hc hvs S eL le with oa n c ub C' B' h d t vs cn x1 x2
  have hE':aP C' _:=⟨hE.k,hE.l.trans eL.symm,hE.g,hE.b⟩
  replace G:=G.le le
  have hcl:(b.toList.map fun c=>c.toNat)[n]? =some c.toNat:=by rw[oZ,Array.getElem?_toList,hc];rfl
  have hnb:n<b.size:=by
   rcases oF n b.size with q | q
   ·exact q
   ·rw[qT q] at hc;cases hc
  have htk:brun ((b.toList.map fun c=>c.toNat).take (n+1))=fU (brun ((b.toList.map fun c=>c.toNat).take n)) c.toNat:=by rw[nH,hcl];exact brun_snoc _ _
  have hok:=brun_ok ((b.toList.map fun c=>c.toNat).take n)
  rw[nG,lZ,oM] at hok
  have hvl:=hvs.length
  generalize brun ((b.toList.map fun c=>c.toNat).take n)=st at hvs htk S hok hvl
  obtain⟨out,lb,lc⟩:=st
  dsimp only at hvs S hok hvl
  have hc8:c.toNat<256:=c.toNat_lt
  have est:fU (out,lb,lc) c.toNat=(out++(lW ((lb+8)/6)).map (bsg lb ((lc*256+c.toNat)%65536)),(lb+8)%6,(lc*256+c.toNat)%65536):=rfl
  generalize hcn:c.toNat=cb at *
  refine aK (aD S hE' ?_);clear S;intro h t S
  refine aY (aG (aG (aG (aA S hE' (by exact rfl) ?_))))
  refine aF ?_;intro q1 _
  refine i_shl8 hok.2.1 ?_;intro q2 _
  refine aA S hE' (by exact rfl) ?_
  refine i_orb hc8 ?_;intro q3 _
  refine aF ?_;intro q4 _
  refine i_and16 ?_;intro q5 _
  refine aD S hE' ?_;clear S;intro h t S
  generalize hlc:(lc*256+cb)%65536=lc' at est S
  refine aY (aG (aA S hE' (by exact rfl) ?_))
  refine aF ?_;intro q6 _
  refine aX ?_;intro q7 _
  refine aD S hE' ?_;clear S;intro h t S
  replace S:=S.few (.cons (x:=kY "leftbits") rfl (.cons (x:=kY "leftchar") rfl (.cons (x:=kY "out") rfl (.cons (x:=kY "newline") rfl (.cons (x:=kY "bin_data") rfl (.nil))))))
  refine x_wh (σ:=Nat) (fun j h=>∃vs c ux,6*j≤lb+8∧F2 NV vs (out++(lW j).map (bsg lb lc'))∧St C' B' h (vars [(kY "leftbits",.int ((lb+8-6*j:Nat):Int) ux),(kY "leftchar",.int (lc':Nat) q5),(kY "out",.ref oa),(kY "newline",.bool false),(kY "bin_data",.bytes b u)]) [(oa,lstO vs c)]) (fun j=>lb+8-6*j) (fun j=>decide (6≤lb+8-6*j)) 0 ?_ ?_ ?_ ?_
  ·refine jJ3 vs cn q7 (jH3 (by lia) (by simpa using hvs) ?_)
   have e:((lb+8-6*0:Nat):Int)=(lb:Int)+8:=by lia
   rw[e];exact S
  ·intro j h d t;refine jI3 ?_;intro vs cn u';refine jG3 ?_;intro hj hv S
   rename_i yy0;clear yy0;clear hvs hok hvl hcn hcl htk hc8 hlc est hj hv;injection S with out lb lc cb q5 lc' j h d t vs cn u'
   refine aQ (aA S hE' (by exact rfl) ?_)
   refine aF ?_;intro q1 _
   refine c_ge (aI ?_)
   exact pu (decide_eq_decide.2 (by lia))
  ·intro j h d t;refine jI3 ?_;intro vs cn u';refine jG3 ?_;intro hj hv S hp
   rename_i yy0;clear yy0;clear hvs hvl hcn hcl hc8 hlc;injection hok htk est hj hv S hp with out lb lc cb q5 lc' j h d t vs cn u'
   have hp':=of_decide_eq_true hp
   have hvl':=hv.length
   rw[lR,lZ,oA] at hvl'
   refine aZ (aU (aA S hE' (by exact rfl) ?_))
   refine cA (M:=[]++_::[]) S (lJ _ (kZ ..)) ?_
   refine dI (aB (bJ (dY S hE' G (glob_B64 _) ?_)))
   refine aG (aG (aA S hE' (by exact rfl) ?_))
   refine aG (aA S hE' (by exact rfl) ?_)
   refine aF ?_;intro q1 _
   refine dP ?_;intro q2 _
   refine i_shr (n:=lb+8-6*(j+1)) (ar_26 hp') ?_;intro q3 _
   refine aF ?_;intro q4 _
   refine i_and6 ?_;intro q5' _
   refine KBw.item_K (ks:=KBw.bInts B64A) rfl (by decide) (qP _) (by
    have e:(KBw.bInts B64A).length=64:=by decide
    rw[e];exact mS.2 (nS _ (by decide))) ?_
   intro ti _ hlo hhi
   refine aC (bV (M₁:=[]) (M₂:=[]) S (by rw[jZ];exact ar_78 hvl' hok.2.2 hsz hj hok.1) ?_);clear S;intro h n' S
   refine aY (aG (aA S hE' (by exact rfl) ?_))
   refine aF ?_;intro q6 _
   refine dP ?_;intro q7 _
   refine aD S hE' ?_;clear S;intro h t S
   refine aJ ?_
   replace S:=S.few (.cons (x:=kY "leftbits") rfl (.cons (x:=kY "leftchar") rfl (.cons (x:=kY "out") rfl (.cons (x:=kY "newline") rfl (.cons (x:=kY "bin_data") rfl (.nil))))))
   refine jJ4 (j+1) h _ _ (jH3 rfl (ar_27 hp') (jJ3 ?vs n' q7 (jH3 (qJ hj hp') ?h1 ?h2)))
   case h2=>
    have e:((lb+8-6*(j+1):Nat):Int)=((lb+8-6*j:Nat):Int)-6:=(ar_26 hp').symm
    rw[e];exact S
   case h1=>
    rw[List.range_succ,mP,←nR]
    refine hv.snoc ⟨ti,?_⟩
    show Value.int _ _=Value.int ((b64c _:Nat):Int) _
    congr 1
    unfold b64c
    rw[nY] at hlo⊢
    exact(Int.toNat_of_nonneg hlo).symm
  ·intro j h d t;refine jI3 ?_;intro vs cn u';refine jG3 ?_;intro hj hv S hp
   rename_i yy0;clear yy0;clear hvs hvl hcn hcl hc8 hlc;injection hok htk est hj hv S hp with out lb lc cb q5 lc' j h d t vs cn u'
   have hp':¬6≤lb+8-6*j:=of_decide_eq_false hp
   refine aJ ?_
   have ej:j=(lb+8)/6:=ar_72 hj hp'
   subst ej
   replace S:=S.few (.cons (x:=kY "leftchar") rfl (.cons (x:=kY "leftbits") rfl (.cons (x:=kY "out") rfl (.cons (x:=kY "newline") rfl (.cons (x:=kY "bin_data") rfl (.nil))))))
   refine jJ6 h _ _ _ _ _ (jH3 rfl S (jJ4 vs cn u' q5 (jH3 rfl ?_ ?_)))
   ·rw[htk,est]
    have e:(lb+8-6*((lb+8)/6):Nat)=(lb+8)%6:=Nat.mod_eq_sub_mul_div.symm
    dsimp only
    rw[e]
   ·rw[htk,est];exact hv
 ·intro h d t B4 m' M' S le;refine jI4 ?_;intro vs cn x1 x2;refine jG3 ?_;intro zz4 zz5 hvs;obtain rfl:=zz4;obtain rfl:=zz5
  rename_i yy0;clear yy0;injection le hvs S with oa h d t B4 vs cn x1 x2
  have e:(b.toList.map fun c=>c.toNat).take b.size=(b.toList.map fun c=>c.toNat):=pA (by rw[lZ,oM];exact lE _)
  rw[e] at hvs S
  have hok:=brun_ok (b.toList.map fun c=>c.toNat)
  rw[lZ,oM] at hok
  generalize brun (b.toList.map fun c=>c.toNat)=st at hvs S h0 hok hout⊢
  obtain⟨out,lb,lc⟩:=st
  dsimp only at hvs S h0 hok hout⊢
  subst h0
  replace G:=G.le le
  refine bH false ?_ (fun c=>nomatch c) (fun c t=>?_)
  ·refine aQ (aA S hE (by exact rfl) ?_)
   refine aF ?_;intro q1 _
   refine hX (aI ?_)
   exact pu rfl
  refine bH false ?_ (fun c=>nomatch c) (fun c t=>?_)
  ·refine aQ (aA S hE (by exact rfl) ?_)
   refine aF ?_;intro q1 _
   refine hX (aI ?_)
   exact pu rfl
  refine aJ (aJ (bH false ?_ (fun c=>nomatch c) (fun c t=>?_)))
  ·refine dL (aA S hE (by exact rfl) ?_)
   refine aI ?_
   exact pu rfl
  refine aJ (cN (aR (cM (v:=.type "bytes") S hE G (eV _) rfl ?_)))
  refine dX (aB (aA S hE (by exact rfl) ?_))
  refine aC ?_
  have hvl:=hvs.length
  refine call_bytes_ints (s:=⟨h,s.gens,d,_,s.os⟩) (eI S (kZ ..)) (ints_nv hvs) (fun n hn=>?_) (by rw[jZ];lia) hh (fun h' t' k hk=>?_)
  ·refine jI1 ?_ (mC.1 hn);intro c;refine jG2 ?_;intro hc zz6;obtain rfl:=zz6
   have:=hout c hc
   lia
  ·exact(S.kp ⟨hk⟩).ends e1 e2 e3 e4 ⟨_,rfl⟩
theorem c_b64 {b:Array UInt8}{u:Tok}(hsz:b.size≤1000)(h0:(brun (b.toList.map fun c=>c.toNat)).2.1=0)(hout:∀c∈(brun (b.toList.map fun c=>c.toNat)).1,c<256)(G:Gr w mg mb B)(hB:∀a o,B a=some o→s.heap.get? a=some o)(hr:Room A 5):
  jN (jM PW w) A (call (.ref 285) [.bytes b u]) (Ends B s fun v _=>∃u',v=.bytes (byteArr ((brun (b.toList.map fun c=>c.toNat)).1.map fun n:Nat=>(n:Int))) u') no s:=by
 refine' eP (o:=o_285 w.params) (binds:=[(kY "s",.bytes b u),(kY "altchars",.none)]) G hB hr.d' ?ho ?hd ?hcd ?hb ?c1 ?c2 ?c3 ?c4 ?c5 ?_
 case ho=>exact rfl
 case hd=>exact rfl
 case hcd=>exact rfl
 case hb=>exact binds_K (G.at hB) rfl rfl rfl rfl rfl
 case c1=>decide
 case c2=>exact locs rfl
 case c3=>exact rfl
 case c4=>exact rfl
 case c5=>exact rfl
 intro C h t e1 e2 S e3 e4
 generalize hEe:envX _ _ C.L _ _ []=env
 have hE:aP C env:=hEe▸⟨rfl,rfl,rfl,rfl⟩
 subst hEe
 change St C B h (vars [(kY "altchars",.none),(kY "s",.bytes b u)]) [] at S
 clear hB;injection hsz h0 hout G hr e1 e2 e3 e4 hE S with w A s mg mb B b u C h t
 refine aZ (bW ?_);intro _ _
 refine aY (e_callK (dY S hE G (glob_b2a64 _) ?_))
 refine callWith_KW (G.at S.b) (kp_268 _) rfl ?_
 refine aB (aA S hE (by exact rfl) ?_)
 refine aC (kwAll_cons (e_bool (kwAll_nil ?_)))
 refine⟨G.at S.b,?_⟩
 refine use S (c_b2a hsz h0 hout G S.b (hr.deeper.le (by decide))) ?_
 clear S
 rintro _ h d t B1 S le ⟨u1,rfl⟩
 replace G:=G.le le
 refine aD S hE ?_;clear S;intro h t S
 refine bH false ?_ (fun c=>nomatch c) (fun c t=>?_)
 ·refine aQ (aA S hE (by exact rfl) ?_)
  refine dJ (isnot_none_none (aI ?_))
  exact pu rfl
 refine aJ (cN (aA S hE (by exact rfl) ?_))
 exact S.ends e1 e2 e3 e4 ⟨_,rfl⟩
noncomputable def gU (k:Int):Int:=4*k*262144+(4*k+1)*4096+(4*k+2)*64+4*k+3
theorem c_octets {k:Int}{t:Tok}(h0:0≤k)(h8:k<8)(G:Gr w mg mb B)(hB:∀a o,B a=some o→s.heap.get? a=some o)(hroom:A.depth<recursionLimit):
  jN (jM PW w) A (call (.ref 299) [.int k t]) (Ends B s fun v B=>∃a vs,v=.ref a∧Lst B a vs∧IntsAre vs [(gU k).fdiv 65536,((gU k).fdiv 256).fmod 256,(gU k).fmod 256]) no s:=by
 refine' eP (o:=o_299 w.params) (binds:=[(kY "letter",.int k t)]) G hB hroom ?ho ?hd ?hcd ?hb ?c1 ?c2 ?c3 ?c4 ?c5 ?_
 case ho=>exact rfl
 case hd=>exact rfl
 case hcd=>exact rfl
 case hb=>exact BindsTo.of_eq rfl
 case c1=>decide
 case c2=>exact locs rfl
 case c3=>exact rfl
 case c4=>exact rfl
 case c5=>exact rfl
 intro C h t e1 e2 S e3 e4
 rename_i yy0;clear G hB hroom;injection h0 h8 e1 e2 S e3 e4 with w A s mg mb B k yy0 C h t
 generalize hEe:envX _ _ C.L _ _ []=env
 have hE:aP C env:=hEe▸⟨rfl,rfl,rfl,rfl⟩
 subst hEe
 refine aY (aG (aG (aG (aG (aG (aG (aF ?_)))))));intro _ _
 refine gG S hE (by exact rfl) ?_
 refine cP (by mul_fits) ?_;intro _ _
 refine aF ?_;intro _ _
 refine cP (by mul_fits) ?_;intro _ _
 refine aG (aG (aG (aF ?_)));intro _ _
 refine gG S hE (by exact rfl) ?_
 refine cP (by mul_fits) ?_;intro _ _
 refine aF ?_;intro _ _
 refine aX ?_;intro _ _
 refine aF ?_;intro _ _
 refine cP (by mul_fits) ?_;intro _ _
 refine aX ?_;intro _ _
 refine aG (aG (aG (aF ?_)));intro _ _
 refine gG S hE (by exact rfl) ?_
 refine cP (by mul_fits) ?_;intro _ _
 refine aF ?_;intro _ _
 refine aX ?_;intro _ _
 refine aF ?_;intro _ _
 refine cP (by mul_fits) ?_;intro _ _
 refine aX ?_;intro _ _
 refine aG (aF ?_);intro _ _
 refine gG S hE (by exact rfl) ?_
 refine cP (by mul_fits) ?_;intro _ _
 refine aX ?_;intro _ _
 refine aF ?_;intro _ _
 refine aX ?_;intro _ _
 refine dC S hE ?_;intro h t S
 refine cN (bA (aB (aG (gG S hE (by exact rfl) ?_))))
 refine aF ?_;intro _ _
 refine i_div (by decide) (PyProof.noPylong_small (by lia)) ?_;intro _ _
 refine aB (aG (aG (gG S hE (by exact rfl) ?_)))
 refine aF ?_;intro _ _
 refine i_div (by decide) (PyProof.noPylong_small (by lia)) ?_;intro _ _
 refine aF ?_;intro _ _
 refine i_mod (by decide) ?_;intro _ _
 refine aB (aG (gG S hE (by exact rfl) ?_))
 refine aF ?_;intro _ _
 refine i_mod (by decide) ?_;intro _ _
 refine aC (mk_lst S (lF rfl) ?_);intro h a B' kp le eB S
 exact S.ends e1 e2 e3 e4 (jJ2 a _ (jH3 rfl ⟨0,eB⟩ (.cons _ _ (.cons _ _ (.cons _ _ .nil)))))
end
noncomputable abbrev T16:kJ:=kY "08192A3B4C5D6E7F"
noncomputable abbrev T64:kJ:=kY "ABCDEFGHIJKLMNOPQRSTUVWXYZabcdef"
noncomputable def s16 (k:Nat):List Nat:=(T16.cps.toList.drop (2*k)).take 2
noncomputable def s64 (k:Nat):List Nat:=(T64.cps.toList.drop (4*k)).take 4
noncomputable def octN (k:Nat):List Nat:=
 let b:=4*k*262144+(4*k+1)*4096+(4*k+2)*64+4*k+3
 [b/65536,b/256%256,b%256]
theorem oct_cast:∀k<8,[(gU (k:Nat)).fdiv 65536,((gU (k:Nat)).fdiv 256).fmod 256,(gU (k:Nat)).fmod 256]=(octN k).map fun n:Nat=>(n:Int):=by decide +kernel
theorem slc16:∀k<8,(Txt.slice T16 (some (2*(k:Nat))) (some (2*(k:Nat)+2))).cps.toList=s16 k:=by decide +kernel
theorem slc64:∀k<8,(Txt.slice T64 (some (4*(k:Nat))) (some (4*(k:Nat)+4))).cps.toList=s64 k:=by decide +kernel
theorem gO (b:Array UInt8):(hexc b).toList=b.toList.flatMap fun c=>[Builtin.Bytes.hexDigit (c.toNat/16),Builtin.Bytes.hexDigit (c.toNat%16)]:=by
 unfold hexc
 have go:∀(l:List UInt8) (i:Nat) (acc:Array Nat),((l.zipIdx i).foldl (fun(out:Array Nat) (ci:UInt8×Nat)=>(out.push (Builtin.Bytes.hexDigit (ci.1.toNat/16))).push (Builtin.Bytes.hexDigit (ci.1.toNat%16))) acc).toList=acc.toList++l.flatMap fun c=>[Builtin.Bytes.hexDigit (c.toNat/16),Builtin.Bytes.hexDigit (c.toNat%16)]:=by
  intro l
  induction l with
  | nil=>intro i acc;simp
  | cons c r ih=>intro i acc;rw[List.zipIdx_cons,qG,ih];simp
 have:=go b.toList 0 #[]
 simpa using this
noncomputable def up16 (c:UInt8):List Nat:=[Builtin.Bytes.hexDigit (c.toNat/16),Builtin.Bytes.hexDigit (c.toNat%16)].map fun n=>(Builtin.Bytes.toUpper n.toUInt8).toNat
theorem hex1:∀k<8,up16 ((17*(k:Nat)+8:Int).toNat.toUInt8)=s16 k:=by decide +kernel
theorem hG:∀n<16,Builtin.Bytes.hexDigit n<128:=by decide +kernel
noncomputable abbrev by16 (ks:List Nat):Array UInt8:=byteArr (ks.map fun k:Nat=>(17*(k:Nat)+8:Int))
theorem hexc_lt (b:Array UInt8):∀c∈(hexc b).toList,c<128:=by
 intro c hc
 rw[gO] at hc
 refine jI1 ?_ (nV.1 hc);intro x;refine jG2 ?_;intro _ hx
 have h1:=x.toNat_lt
 rcases lH.1 hx with rfl | hx
 ·exact hG _ (by lia)
 ·rw[lA.1 hx];exact hG _ (by lia)
theorem flatMap_len2 (l:List UInt8):(l.flatMap fun c=>[Builtin.Bytes.hexDigit (c.toNat/16),Builtin.Bytes.hexDigit (c.toNat%16)]).length=2*l.length:=by
 induction l with
 | nil=>rfl
 | cons c r ih=>rw[mO,lR,ih];simp;lia
theorem hexc_size (b:Array UInt8):(hexc b).size=2*b.size:=by
 rw[←oM,gO,flatMap_len2,oM]
noncomputable def tx16 (b:Array UInt8):List UInt8:=((hexc b).map fun c=>c.toUInt8).toList.map Builtin.Bytes.toUpper
theorem tx16_eq (ks:List Nat)(h:∀k∈ks,k<8):(tx16 (by16 ks)).map (fun c=>c.toNat)=ks.flatMap s16:=by
 unfold tx16
 rw[Array.toList_map,gO,nP,nP,List.map_flatMap]
 show(by16 ks).toList.flatMap up16=_
 have e:(by16 ks).toList=ks.map fun k:Nat=>(17*(k:Nat)+8:Int).toNat.toUInt8:=by unfold by16 byteArr;simp
 rw[e,List.flatMap_map]
 induction ks with
 | nil=>rfl
 | cons k r ih=>
  rw[mO,mO,ih (fun x hx=>h x (lX _ hx)) (by unfold by16 byteArr;simp),hex1 k (h k (kZ ..))]
theorem bfold_out (bs:List Nat):∀(out:List Nat) (lb lc:Nat),bs.foldl fU (out,lb,lc)=(out++(bs.foldl fU ([],lb,lc)).1,(bs.foldl fU ([],lb,lc)).2):=by
 induction bs with
 | nil=>intro out lb lc;simp
 | cons b r ih=>
  intro out lb lc
  have e:∀o:List Nat,fU (o,lb,lc) b=(o++(lW ((lb+8)/6)).map (bsg lb ((lc*256+b)%65536)),(lb+8)%6,(lc*256+b)%65536):=fun _=>rfl
  rw[qG,qG,e,e,ih,ih ([]++_)]
  simp
noncomputable def lcs:List Nat:=0::(lW 8).map fun k=>((octN k).getD 1 0*256+(octN k).getD 2 0)%65536
theorem oct_step:∀lc∈lcs,∀k<8,(octN k).foldl fU ([],0,lc)=(s64 k,0,((octN k).getD 1 0*256+(octN k).getD 2 0)%65536):=by decide +kernel
theorem brun_oct (ks:List Nat)(h:∀k∈ks,k<8):∃lc∈lcs,brun (ks.flatMap octN)=(ks.flatMap s64,0,lc):=by
 generalize hn:ks.length=n
 induction n generalizing ks with
 | zero=>have:=nT hn;subst this;exact⟨0,⟨kZ ..,rfl⟩⟩
 | succ n ih=>
  rcases mW ks with rfl | ⟨qs,q,rfl⟩
  ·simp at hn
  ·rw[mX] at hn h⊢
   refine jI1 ?_ (ih qs (fun k hk=>h k (mJ _ hk)) (by simpa using hn));intro lc;refine jG2 ?_;intro hlc e
   have hq:q<8:=h q (by simp)
   refine⟨((octN q).getD 1 0*256+(octN q).getD 2 0)%65536,⟨lX _ (mC.2 ⟨q,nB.2 hq,rfl⟩),?_⟩⟩
   unfold brun at e⊢
   rw[nQ,nQ,pC,e]
   simp only[mO,qC,nD]
   rw[bfold_out,oct_step lc hlc q hq]
theorem s64_lt:∀k<8,∀c∈s64 k,c<128:=by decide +kernel
theorem s16_lt:∀k<8,∀c∈s16 k,c<128:=by decide +kernel
theorem iB:∀k<8,(s64 k).length=4:=by decide +kernel
theorem iC:∀k<8,(s16 k).length=2:=by decide +kernel
theorem oct_lt:∀k<8,∀c∈octN k,c<256:=by decide +kernel
theorem u8_nat (n:Nat)(h:n<256):((n:Int).toNat.toUInt8).toNat=n:=by
 rw[nY];simp;omega
theorem hU (ns:List Nat)(h:∀n∈ns,n<256):(byteArr (ns.map fun n:Nat=>(n:Int))).toList.map (fun c=>c.toNat)=ns:=by
 unfold byteArr
 rw[nP]
 simp only[nP]
 induction ns with
 | nil=>rfl
 | cons n r ih=>
  rw[mD,ih (fun x hx=>h x (lX _ hx))]
  congr 1
  exact u8_nat n (h n (kZ ..))
theorem join_flat (ys:List kJ):(Txt.join (kY "") ys).cps.toList=ys.flatMap fun y=>y.cps.toList:=by
 have e0:∀z:kJ,(kY ""++z)=z:=fun z=>by
  apply Str.ext';rw[Str.cps_append]
  have:(kY "").cps= #[]:=by decide
  rw[this];simp
 rw[show Txt.join (kY "") ys=Builtin.Str.glued (kY "") ys from rfl,StrLaws.glued_eq_join]
 induction ys with
 | nil=>rfl
 | cons y r ih=>
  cases r with
  | nil=>simp[Str.join]
  | cons z r=>
   show((y++kY "")++Str.join (kY "") (z::r)).cps.toList=_
   rw[Str.append_assoc,e0,Str.cps_append,Array.toList_append,ih];rfl
section
variable {w:jS}{A:jV}{C:Cx}{m mg mb:kJ→Option jL}{B:Base}{M:List (jQ×kK)}
 {h:kI} {g:Array jX} {d:kU} {t:Nat} {os:jU} {env:Env} {Q:jL→jP→Prop} {QF:kS→jP→Prop} {QB:Bool→jP→Prop} {E:jL→jP→Prop} {R:Result→jP→Prop} {s:jP}
theorem cl_any {elt target iter:Expr}{scope:Scope}{pos:kW}{it acc:jL}{env:Env}(I:Nat→jP→Prop)
  (turn:∀n s,I n s→jN (jM PW w) A (pyNext it) (fun r s₁=>match r with
   | none=>R (.ok .next) s₁
   | some v=>jN (jM PW w) A (kE target it v) (fun _ s₁'=>jN (jM PW w) A (assign target env v) (fun _ s₂=>jN (jM PW w) A (eval elt env) (fun x s₃=>
     jN (jM PW w) A (call (.builtin "list.append") [acc,x]) (fun _ s₄=>∃m,m<n∧I m s₄) (notedBy (jM PW w) A env fun e s'=>R (.error e) s') s₃)
     (notedBy (jM PW w) A env fun e s'=>R (.error e) s') s₂) (notedBy (jM PW w) A env fun e s'=>R (.error e) s') s₁') (notedBy (jM PW w) A env fun e s'=>R (.error e) s') s₁) (notedBy (jM PW w) A env fun e s'=>R (.error e) s') s)
  (n:Nat) (h:I n s):
  kN (jM PW w) A (.compLoop (.ListComp elt [⟨target,iter,[],0⟩] scope pos) 0 it acc env) R s:=by
 injection turn h with w A R s elt target iter scope pos it acc env I n
 refine codeAny_loop rfl I (fun n s hI=>?_) n h
 show jN _ _ ((compTurn (.ListComp elt [⟨target,iter,[],0⟩] scope pos) 0 it acc env).onRaise (fun x=>do noteFrame x env;theTreesLotGoes x)) _ _ s
 refine wpAny_noted ?_
 rw[compTurn_list1]
 refine jK (wpAny_standAt (jK (jR (turn n s hI) (fun r s₁ h₁=>?_) fun _ _ h'=>h')))
 cases r with
 | none=>exact jO h₁
 | some v=>
  refine jK (jR h₁ (fun _ s₁' h₁'=>?_) fun _ _ h'=>h')
  exact jK (jR h₁' (fun _ s₂ h₂=>jK (jK (jR h₂ (fun x s₃ h₃=>jK (jR h₃
   (fun _ s₄ h₄=>jO (jO ⟨rfl,h₄⟩)) fun _ _ h'=>h')) fun _ _ h'=>h'))) fun _ _ h'=>h')
theorem jD {elt target iter:Expr}{scope:Scope}{pos:kW}{I T a:jQ}{c₀:Nat}{fp wr:List jQ}{n:Nat}{P:Nat→jL→Prop}{Z:Nat→kI→Prop}(W:Walks PW w A I fp wr n P Z)
  (S:St C B h m [(a,lstO [] c₀)]) (Mo:List (jQ×kK)) (hMo:∀p∈Mo,C.D p.1∧C.H p.1=some p.2∧p.1∉fp) (F:Fits C fp wr T) (live:∀i h,Z i h→∀b∈fp,∃o,h.get? b=some o) (ha:a∉fp) (hB:∀b∈wr,B b=none) (z0:Z 0 h) (hsz:n≤kC)
  (Y:Nat→jL→Base→Prop) (hY:∀i y B B',Le B B'→Y i y B→Y i y B')
  (turn:∀i v C' B' h' m' M' d t,i<n→P i v→St C' B' h' m' M'→C'.L=C.L→Le B B'→(∀p∈Mo,C'.D p.1∧C'.H p.1=some p.2)→
   jN (jM PW w) A (assign target env v) (fun _ s₂=>jN (jM PW w) A (eval elt env) (fun y s₃=>∃h' d' t' B'' m'',s₃=⟨h',g,d',t',os⟩∧St C' B'' h' m'' M'∧Y i y B'') no s₂) no ⟨h',g,d,t,os⟩)
  (fin:∀h d t B' m' ys c,St C B' h m' [(a,lstO ys c)]→Le B B'→ys.length=n→(∀i y,ys[i]? =some y→Y i y B')→R (.ok .next) ⟨h,g,d,t,os⟩)
  (hgo:∀i (s:jP) v (Q:Unit→jP→Prop) (E:jL→jP→Prop),Z i s.heap→Q () s→jN (jM PW w) A (kE target (.ref I) v) Q E s):
  kN (jM PW w) A (.compLoop (.ListComp elt [⟨target,iter,[],0⟩] scope pos) 0 (.ref I) (.ref a) env) R ⟨h,g,d,t,os⟩:=by
 injection W S hMo F live ha hB z0 hsz hY turn fin hgo with w A C m B h g d t os env R elt target iter scope pos I T a c₀ fp wr n P Z Mo Y
 have hLw:C.L∉wr:=fun q=>F.L (F.sub _ q)
 refine cl_any (fun k s=>∃h' d' t' B' m' ys c,k=n+1-ys.length∧ys.length≤n∧s=⟨h',g,d',t',os⟩∧St C B' h' m' [(a,lstO ys c)]∧Z ys.length h'∧(∀b∈wr,B' b=none)∧Le B B'∧(∀i y,ys[i]? =some y→Y i y B')) ?_ (n+1)
  (jJ7 h d t B m ([]) c₀ (jH8 rfl (lC _) rfl S z0 hB (Le.refl _) (fun i y e=>by simp at e)))
 intro k s;refine jI7 ?_;intro h' d' t' B' m' ys c;refine jG8 ?_;intro zz1 hi zz2 S' z hB' hle hys;obtain rfl:=zz1;obtain rfl:=zz2
 injection hi S' z hB' hle hys with h' d' t' B' m' ys c
 have hM':∀p∈[(a,lstO ys c)],p.1∉fp:=fun p hp=>by rw[lA.1 hp];exact ha
 have hMw:∀p∈[(a,lstO ys c)],p.1∉wr:=fun p hp q=>hM' p hp (F.sub _ q)
 by_cases hlt:ys.length<n
 ·refine W.item ys.length _ _ _ hlt z fun v h₁ tk₁ hP z₁ k₁=>?_
  have S₁:St C B' h₁ m' [(a,lstO ys c)]:=S'.turn k₁ hLw hMw hB' F.wD
  have S₂:=S₁.inn F (live _ _ z₁) hM' hB'
  refine hgo (ys.length+1) ⟨h₁,g,d',tk₁,os⟩ v _ _ z₁ ?_
  refine jR (turn ys.length v _ B' h₁ m' _ d' tk₁ hlt hP S₂ rfl hle fun p hp=>⟨.inr (hMo p hp).1,by show(if p.1∈fp then h₁.get? p.1 else C.H p.1)=some p.2;rw[if_neg (hMo p hp).2.2];exact(hMo p hp).2.1⟩) (fun _ s₂ x=>jR x (fun y s₃ z=>?_) fun _ _ x=>x.elim) fun _ _ x=>x.elim
  refine jI5 ?_ z;try clear z;intro h₃ d₃ t₃ B₃ m₃;refine jG3 ?_;intro zz3 S₃ hy;obtain rfl:=zz3
  refine bV (M₁:=[]) (M₂:=[]) S₃ (lB hi hsz) fun h₄ c₄ S₄=>?_
  refine⟨n+1-(ys.length+1),⟨by exact ar_1 (mZ hlt),jJ7 h₄ d₃ t₃ B₃ m₃ (ys++[y]) c₄ (jH8 (by simp) (by rw[lR,mG];exact hlt) rfl (S₄.outt S₁) ?_ (fun b hb=>(S₄.v b (.inl hb)).1) (hle.trans S₄.up) (fun i u e=>?_))⟩⟩
  ·rw[lR,mG]
   exact W.frame _ _ _ z₁ fun b hb o e=>S₄.fr b o (.inl hb) (by simpa[Cx.into,hb] using e)
  ·rcases pM i ys.length with q | q | q
   ·exact hY _ _ _ _ S₄.up (hys i u (by rwa [oR q] at e))
   ·subst q;simp at e;subst e;exact hy
   ·rw[oS (by rw[lR,mG];lia)] at e;cases e
 ·have hin:ys.length=n:=by lia
  subst hin
  exact W.done _ _ _ z fun h₁ tk₁ k₁=>fin _ _ _ _ _ _ _ (S'.turn k₁ hLw hMw hB' F.wD) hle rfl hys
theorem comp_walkT {elt target iter:Expr}{scope:Scope}{cl:List (kJ×jQ)}{pos:kW}{I:jQ}{fp wr:List jQ}{n:Nat}{P:Nat→jL→Prop}{Z:Nat→kI→Prop}{E:jL→jP→Prop}(W:Walks PW w A I fp wr n P Z)
  (S:St C B h m M) (sub:∀b∈wr,b∈fp) (lt:∀b∈fp,b<h.objs.size) (live:∀i h,Z i h→∀b∈fp,∃o,h.get? b=some o) (hMf:∀p∈M,p.1∉fp) (hB:∀b∈wr,B b=none) (hD:∀b∈wr,¬C.D b) (hL:C.L∉wr) (z0:Z 0 h) (hsz:n≤kC)
  (hcell:∀y∈scope.names,y.2≠.cell) (hkind:scope.kind=.function)
  (Y:Nat→jL→Base→Prop) (hY:∀i y B B',Le B B'→Y i y B→Y i y B')
  (turn:∀i v C' B' h' m' M' d t,i<n→P i v→St C' B' h' m' M'→Le B B'→(∀p∈M,C'.D p.1∧C'.H p.1=some p.2)→
   jN (jM PW w) A (assign target (compEnvC scope cl C'.L env) v) (fun _ s₂=>jN (jM PW w) A (eval elt (compEnvC scope cl C'.L env)) (fun y s₃=>∃h' d' t' B'' m'',s₃=⟨h',g,d',t',os⟩∧St C' B'' h' m'' M'∧Y i y B'') no s₂) no ⟨h',g,d,t,os⟩)
  (fin:∀h d t B' a ys,St C B' h m M→Le B B'→Lst B' a ys→ys.length=n→(∀i y,ys[i]? =some y→Y i y B')→Q (.ref a) ⟨h,g,d,t,os⟩)
  (hgo:∀i (s:jP) v (Q:Unit→jP→Prop) (E:jL→jP→Prop),Z i s.heap→Q () s→jN (jM PW w) A (kE target (.ref I) v) Q E s):
  jN (jM PW w) A (newList []) (fun acc s₃=>jN (jM PW w) A (newFunctionEnv scope env.globals cl [] env.qual none .none (some env)) (fun cenv s₄=>
   kN (jM PW w) A (.compStart (.ListComp elt [⟨target,iter,[],0⟩] scope pos) 0 (.ref I) acc {cenv with scope:=relabel scope env}) (compPost (jM PW w) A E none Q acc cenv.locals) s₄) E s₃) E ⟨h,g,d,t,os⟩:=by
 have hM:∀p∈M,p.1∉wr:=fun p hp q=>hMf p hp (sub _ q)
 refine kP (wpAny_newFunctionEnv hcell (by intro y hy;simp at hy) (fun h₁ hns₁ hsb₁=>?_) hkind)
 dsimp only at hns₁ hsb₁⊢
 generalize hH2:h.push {cls:=.type "list",dict:=none,data:=.seq ([]:List jL).toArray}=H2 at hns₁ hsb₁⊢
 have hC:H2.objs.size=h.objs.size+1:=by rw[←hH2,mK]
 have old:∀b o,H2.get? b=some o→h₁.get? b=some o:=fun b o e=>hsb₁.extBut b o (lN (lM e)) (lS _ e)
 have old':∀b o,h.get? b=some o→h₁.get? b=some o:=fun b o e=>old b o (hH2▸lS _ e)
 have S₁:St (cH h wr B H2.objs.size) B h₁ (fun x=>([]:List (kJ×jL)).reverse.lookup x) [(h.objs.size,lstO [] 0)]:={
  ns:=.of hns₁
  ld:=fun x=>absurd x.1 (by rw[hC];exact lU.2 (lV _))
  lv:=.inl rfl
  fr:=fun a o _ e=>old' a o e
  b:=fun a o e=>old' a o (S.b a o e)
  v:=fun a x=>x.elim (fun e=>⟨by
   cases q:B a with
   | none=>rfl
   | some o=>exact absurd (S.blt q) (by rw[e,hC];exact lU.2 (lV _)),mB e⟩) fun e=>⟨hB a e,by rw[show(cH h wr B H2.objs.size).top=h.objs.size+1 from hC];exact mV (lL (lt a (sub a e)))⟩
  d:=fun a x=>by rw[show(cH h wr B H2.objs.size).top=h.objs.size+1 from hC];exact mV (lL x.1)
  tp:=.inl rfl
  m:=fun p hp=>by
   rw[lA.1 hp]
   refine jH4 (old _ _ (hH2▸lT _ rfl)) (fun x=>absurd x.1 (lO _)) (fun x=>x.elim (fun e=>absurd e (by rw[hC];exact lN (nE _))) fun e=>absurd (lt _ (sub _ e)) (lO _)) S.freshB
  nd:=by simp
  nl:=by show h.objs.size≤H2.objs.size;rw[hC];exact lV _
  ow:=fun p hp=>by rw[lA.1 hp];exact .inl (lE _)
  new:=fun a o e _=>e
  up:=Le.refl _}
 have F₁:Fits (cH h wr B H2.objs.size) fp wr H2.objs.size:={
  sub:=sub
  L:=fun x=>absurd (lt _ x) (by show ¬H2.objs.size<h.objs.size;rw[hC];exact lU.2 (lV _))
  le:=fun b x=>by rw[hC];exact mV (lL (lt b x))
  top:=lE _
  mem:=.inl rfl
  wD:=fun b x y=>y.2 x}
 have loop:∀d t,kN (jM PW w) A (.compLoop (.ListComp elt [⟨target,iter,[],0⟩] scope pos) 0 (.ref I) (.ref h.objs.size) (compEnvC scope cl H2.objs.size env))
    (compPost (jM PW w) A E none Q (.ref h.objs.size) H2.objs.size) ⟨h₁,g,d,t,os⟩:=by
  intro d t
  refine jD W S₁ M (fun p hp=>jH3 ⟨lM (S.m p hp).1,hM p hp⟩ ((S.m p hp).1) (hMf p hp)) F₁ live (fun x=>absurd (lt _ x) (lO _)) hB (W.frame _ _ _ z0 fun b _ o e=>old' b o e) hsz Y hY
   (fun i v C' B' h' m' M' d t hi hP S' e l kk=>?_) (fun h₂ d t B' m' ys c S₂ hle hlen hys=>?_) hgo
  ·have:=turn i v C' B' h' m' M' d t hi hP S' l kk
   rw[show C'.L=H2.objs.size from e] at this
   exact this
  ·refine jI1 ?_ S₂.ns;intro mx;refine jG2 ?_;intro nx _
   refine⟨mx,nx,fun h₃ hs₃=>?_⟩
   have A:=S₂.m _ (lA.2 rfl)
   exact fin h₃ d t _ h.objs.size ys (S.back S₂ hs₃ (lE _) (by rw[hC];exact lV _) hM hD hL) (hle.trans (aV _ A.2.2.2)) ⟨c,aM _ _ _⟩ hlen fun i y e=>hY _ _ _ _ (aV _ A.2.2.2) (hys i y e)
 exact codeAny_compStart_list (loop _ _) (W.self 0 _ _ _ (W.frame _ _ _ z0 fun b _ o e=>old' b o e) (loop _ _))
theorem comp_listT {elt iter:Expr}{elts:List Expr}{kt:Nat}{tpos:kW}{scope:Scope}{cl:List (kJ×jQ)}{pos:kW}{l:jQ}{items:List jL}(S:St C B h m M)(hl:Lst B l items)(hh:A.handled=none)(hsz:items.length≤kC)
  (hcell:∀y∈scope.names,y.2≠.cell) (hkind:scope.kind=.function)
  (Y:Nat→jL→Base→Prop) (hY:∀i y B B',Le B B'→Y i y B→Y i y B')
  (turn:∀i v C' B' h' m' M' d t,items[i]? =some v→St C' B' h' m' M'→Le B B'→(∀p∈M,C'.D p.1∧C'.H p.1=some p.2)→
   jN (jM PW w) A (assign (.Tuple elts kt tpos) (compEnvC scope cl C'.L env) v) (fun _ s₂=>jN (jM PW w) A (eval elt (compEnvC scope cl C'.L env)) (fun y s₃=>∃h' d' t' B'' m'',s₃=⟨h',g,d',t',os⟩∧St C' B'' h' m'' M'∧Y i y B'') no s₂) no ⟨h',g,d,t,os⟩)
  (fin:∀h d t B' a ys,St C B' h m M→Le B B'→Lst B' a ys→ys.length=items.length→(∀i y,ys[i]? =some y→Y i y B')→Q (.ref a) ⟨h,g,d,t,os⟩)
  :
  CompGo w A env elt (.Tuple elts kt tpos) iter scope cl pos Q E (.ref l) ⟨h,g,d,t,os⟩:=by
 obtain⟨n,e⟩:=id hl
 refine wpAny_pyIter_list (hl.at S) ?_
 have hne:l≠h.objs.size:=lN (S.blt e)
 have F:=iZ S e
 have T:=S.kp (Kp.push h {cls:=.type "list_iterator",data:=.fields #[.ref l,.int 0 0]})
 refine comp_walkT (Walks.list hh h.objs.size l hne items.toArray) T F.sub (fun b hb=>?_) (fun i h z b hb=>?_) (iY S e) (fun b hb=>by rw[lA.1 hb];exact S.freshB) F.wD (fun q=>F.L (F.sub _ q))
  ⟨⟨_,jH3 (lT _ rfl) rfl rfl⟩,hl.at T⟩ (by simpa using hsz) hcell hkind Y hY (fun i v C' B' h' m' M' d t hi hP S' l kk=>turn i v C' B' h' m' M' d t (by simpa using hP) S' l kk) (fun h d t B' a ys S' l x y z=>fin h d t B' a ys S' l x (by simpa using y) z) (fun i s v Q E st hq=>?_)
 ·rw[mK];exact pX (F.le b hb)
 ·rcases lH.1 hb with q | q
  ·refine jI1 ?_ z.1;intro o;refine jG2 ?_;intro ho _;exact⟨o,q▸ho⟩
  ·refine jI1 ?_ z.2;intro o;refine jG2 ?_;intro ho _;exact⟨o,lA.1 q▸ho⟩
 ·cases v with
  | ref T=>exact wpAny_letOwnedTupleGo_listiter st.1 hq
  | _=>exact jO hq
theorem cs1 {elt:Expr}{g0:Comprehension}{target iter:Expr}{scope:Scope}{pos:kW}{it acc:jL}
  (h0:kN (jM PW w) A (.compLoop (.ListComp elt [g0,⟨target,iter,[],0⟩] scope pos) 1 it acc env) R s)
  (h:jN (jM PW w) A (pyIter it) (fun it' s'=>kN (jM PW w) A (.compLoop (.ListComp elt [g0,⟨target,iter,[],0⟩] scope pos) 1 it' acc env) R s')
   (notedBy (jM PW w) A env fun x s'=>R (.error x) s') s):
  kN (jM PW w) A (.compStart (.ListComp elt [g0,⟨target,iter,[],0⟩] scope pos) 1 it acc env) R s:=by
 refine codeAny_of_tree ?_
 show jN _ _ ((compStart (.ListComp elt [g0,⟨target,iter,[],0⟩] scope pos) 1 it acc env).onRaise (fun x=>do noteFrame x env;standAt theWindowsPlace)) _ _ s
 refine wpAny_notedAt ?_
 unfold compStart
 show jN _ _ (ask >>= _) _ _ s
 refine jK (wpAny_askSetting (wpAny_ite ?_))
 split
 ·first
   | exact jK (jO (jO (And.intro rfl h0)))
   | exact jO (And.intro rfl h0)
 ·first
   | exact jK (wpAny_rule (jK (wpAny_standAt (jK (jR h (fun it' s' h'=>jO (And.intro rfl h')) fun _ _ x=>x)))))
   | (refine jK (wpAny_rule ?_);show jN _ _ (standAt iter.pos >>= _) _ _ s;exact jK (wpAny_standAt (jK (jR h (fun it' s' h'=>jO (And.intro rfl h')) fun _ _ x=>x))))
theorem ct1 (elt:Expr)(g0:Comprehension)(target iter:Expr)(scope:Scope)(pos:kW)(it acc:jL)(env:Env):
  compTurn (.ListComp elt [g0,⟨target,iter,[],0⟩] scope pos) 1 it acc env=(standAt iter.pos >>= fun _=>pyNext it >>= fun r=>match r with
   | none=>pure (.done .next)
   | some v=>kE target it v >>= fun _=>assign target env v >>= fun _=>
    (eval elt env >>= fun x=>call (.builtin "list.append") [acc,x] >>= fun _=>pure ()) >>= fun _=>
     again (.compLoop (.ListComp elt [g0,⟨target,iter,[],0⟩] scope pos) 1 it acc env)):=by rfl
theorem ct0 (elt target iter t1 i1:Expr)(scope:Scope)(pos:kW)(it acc:jL)(env:Env):
  compTurn (.ListComp elt [⟨target,iter,[],0⟩,⟨t1,i1,[],0⟩] scope pos) 0 it acc env=(standAt iter.pos >>= fun _=>pyNext it >>= fun r=>match r with
   | none=>pure (.done .next)
   | some v=>kE target it v >>= fun _=>assign target env v >>= fun _=>
    eval i1 env >>= fun x=>standAt i1.pos >>= fun _=>foldedSetIterable i1 env x >>= fun x=>holding [x] (pyIter x) >>= fun it'=>
    runOwn (.compStart (.ListComp elt [⟨target,iter,[],0⟩,⟨t1,i1,[],0⟩] scope pos) 1 it' acc env) env >>= fun _=>
     again (.compLoop (.ListComp elt [⟨target,iter,[],0⟩,⟨t1,i1,[],0⟩] scope pos) 0 it acc env)):=by rfl
theorem cl1 {elt:Expr}{g0:Comprehension}{target iter:Expr}{scope:Scope}{pos:kW}{it acc:jL}{env:Env}(I:Nat→jP→Prop)
  (turn:∀n s,I n s→jN (jM PW w) A (pyNext it) (fun r s₁=>match r with
   | none=>R (.ok .next) s₁
   | some v=>jN (jM PW w) A (assign target env v) (fun _ s₂=>jN (jM PW w) A (eval elt env) (fun x s₃=>
     jN (jM PW w) A (call (.builtin "list.append") [acc,x]) (fun _ s₄=>∃m,m<n∧I m s₄) (notedBy (jM PW w) A env fun e s'=>R (.error e) s') s₃)
     (notedBy (jM PW w) A env fun e s'=>R (.error e) s') s₂) (notedBy (jM PW w) A env fun e s'=>R (.error e) s') s₁) (notedBy (jM PW w) A env fun e s'=>R (.error e) s') s)
  (n:Nat) (h:I n s) (ht:autoParam (∀v,kE target it v=pure ()) tR):
  kN (jM PW w) A (.compLoop (.ListComp elt [g0,⟨target,iter,[],0⟩] scope pos) 1 it acc env) R s:=by
 injection turn h ht with w A R s elt g0 target iter scope pos it acc env I n
 refine codeAny_loop rfl I (fun n s hI=>?_) n h
 show jN _ _ ((compTurn (.ListComp elt [g0,⟨target,iter,[],0⟩] scope pos) 1 it acc env).onRaise (fun x=>do noteFrame x env;theTreesLotGoes x)) _ _ s
 refine wpAny_noted ?_
 rw[ct1]
 refine jK (wpAny_standAt (jK (jR (turn n s hI) (fun r s₁ h₁=>?_) fun _ _ h'=>h')))
 cases r with
 | none=>exact jO h₁
 | some v=>
  refine jK (wpAny_of_eq (ht v) ?_)
  exact jK (jR h₁ (fun _ s₂ h₂=>jK (jK (jR h₂ (fun x s₃ h₃=>jK (jR h₃
   (fun _ s₄ h₄=>jO (jO ⟨rfl,h₄⟩)) fun _ _ h'=>h')) fun _ _ h'=>h'))) fun _ _ h'=>h')
theorem cl0 {elt target iter t1 i1:Expr}{scope:Scope}{pos:kW}{it acc:jL}{env:Env}(I:Nat→jP→Prop)
  (turn:∀n s,I n s→jN (jM PW w) A (pyNext it) (fun r s₁=>match r with
   | none=>R (.ok .next) s₁
   | some v=>jN (jM PW w) A (assign target env v) (fun _ s₂=>jN (jM PW w) A (eval i1 env) (fun x s₃=>jN (jM PW w) A (pyIter x) (fun it' s₄=>
     kN (jM PW w) A (.compStart (.ListComp elt [⟨target,iter,[],0⟩,⟨t1,i1,[],0⟩] scope pos) 1 it' acc env) (fun r s₅=>r=.ok .next∧∃m,m<n∧I m s₅) s₄) no s₃) no s₂) no s₁) no s)
  (n:Nat) (h:I n s) (ht:autoParam (∀v,kE target it v=pure ()) tR) (hs:autoParam (∀x,foldedSetIterable i1 env x=pure x) tR):
  kN (jM PW w) A (.compLoop (.ListComp elt [⟨target,iter,[],0⟩,⟨t1,i1,[],0⟩] scope pos) 0 it acc env) R s:=by
 injection turn h ht hs with w A R s elt target iter t1 i1 scope pos it acc env I n
 refine codeAny_loop rfl I (fun n s hI=>?_) n h
 show jN _ _ ((compTurn (.ListComp elt [⟨target,iter,[],0⟩,⟨t1,i1,[],0⟩] scope pos) 0 it acc env).onRaise (fun x=>do noteFrame x env;theTreesLotGoes x)) _ _ s
 refine wpAny_noted ?_
 rw[ct0]
 refine jK (wpAny_standAt (jK (jR (turn n s hI) (fun r s₁ h₁=>?_) fun _ _ h'=>h'.elim)))
 cases r with
 | none=>exact jO h₁
 | some v=>
  refine jK (wpAny_of_eq (ht v) ?_)
  refine jK (jR h₁ (fun _ s₂ h₂=>jK (jR h₂ (fun x s₃ h₃=>jK (wpAny_standAt (jK (wpAny_of_eq (hs x) (jK (kB (jR h₃ (fun it' s₄ h₄=>?_) fun _ _ z=>z.elim))))))) fun _ _ z=>z.elim)) fun _ _ z=>z.elim)
  refine jK (wpAny_runOwn (codeAny_mono h₄ fun r s₅ hr=>?_) (by intro x;cases x))
  obtain⟨rfl,hr⟩:=hr
  exact jO ⟨rfl,hr⟩
theorem cin_loop {elt:Expr}{g0:Comprehension}{target iter:Expr}{scope:Scope}{pos:kW}{I T a:jQ}{c₀:Nat}{ys0:List jL}{fp wr:List jQ}{n:Nat}{P:Nat→jL→Prop}{Z:Nat→kI→Prop}(W:Walks PW w A I fp wr n P Z)
  (S:St C B h m [(a,lstO ys0 c₀)]) (F:Fits C fp wr T) (live:∀i h,Z i h→∀b∈fp,∃o,h.get? b=some o) (ha:a∉fp) (hB:∀b∈wr,B b=none) (z0:Z 0 h) (hsz:ys0.length+n≤kC)
  (Y:Nat→jL→Base→Prop) (hY:∀i y B B',Le B B'→Y i y B→Y i y B')
  (turn:∀i v C' B' h' m' M' d t,i<n→P i v→St C' B' h' m' M'→C'.L=C.L→Le B B'→
   jN (jM PW w) A (assign target env v) (fun _ s₂=>jN (jM PW w) A (eval elt env) (fun y s₃=>∃h' d' t' B'' m'',s₃=⟨h',g,d',t',os⟩∧St C' B'' h' m'' M'∧Y i y B'') no s₂) no ⟨h',g,d,t,os⟩)
  (fin:∀h d t B' m' zs c,St C B' h m' [(a,lstO (ys0++zs) c)]→Le B B'→zs.length=n→(∀i y,zs[i]? =some y→Y i y B')→R (.ok .next) ⟨h,g,d,t,os⟩)
  (ht:autoParam (∀v,kE target (.ref I) v=pure ()) tR):
  kN (jM PW w) A (.compLoop (.ListComp elt [g0,⟨target,iter,[],0⟩] scope pos) 1 (.ref I) (.ref a) env) R ⟨h,g,d,t,os⟩:=by
 injection W S F live ha hB z0 hsz hY turn fin ht with w A C m B h g d t os env R elt g0 target iter scope pos I T a c₀ ys0 fp wr n P Z Y
 have hLw:C.L∉wr:=fun q=>F.L (F.sub _ q)
 refine cl1 (fun k s=>∃h' d' t' B' m' zs c,k=n+1-zs.length∧zs.length≤n∧s=⟨h',g,d',t',os⟩∧St C B' h' m' [(a,lstO (ys0++zs) c)]∧Z zs.length h'∧(∀b∈wr,B' b=none)∧Le B B'∧(∀i y,zs[i]? =some y→Y i y B')) ?_ (n+1)
  (jJ7 h d t B m ([]) c₀ (jH8 rfl (lC _) rfl (by rw[nD];exact S) z0 hB (Le.refl _) (fun i y e=>by simp at e))) ht
 intro k s;refine jI7 ?_;intro h' d' t' B' m' zs c;refine jG8 ?_;intro zz1 hi zz2 S' z hB' hle hys;obtain rfl:=zz1;obtain rfl:=zz2
 injection hi S' z hB' hle hys with h' d' t' B' m' zs c
 have hM':∀p∈[(a,lstO (ys0++zs) c)],p.1∉fp:=fun p hp=>by rw[lA.1 hp];exact ha
 have hMw:∀p∈[(a,lstO (ys0++zs) c)],p.1∉wr:=fun p hp q=>hM' p hp (F.sub _ q)
 by_cases hlt:zs.length<n
 ·refine W.item zs.length _ _ _ hlt z fun v h₁ tk₁ hP z₁ k₁=>?_
  have S₁:St C B' h₁ m' [(a,lstO (ys0++zs) c)]:=S'.turn k₁ hLw hMw hB' F.wD
  have S₂:=S₁.inn F (live _ _ z₁) hM' hB'
  refine jR (turn zs.length v _ B' h₁ m' _ d' tk₁ hlt hP S₂ rfl hle) (fun _ s₂ x=>jR x (fun y s₃ z=>?_) fun _ _ x=>x.elim) fun _ _ x=>x.elim
  refine jI5 ?_ z;try clear z;intro h₃ d₃ t₃ B₃ m₃;refine jG3 ?_;intro zz3 S₃ hy;obtain rfl:=zz3
  refine bV (M₁:=[]) (M₂:=[]) S₃ (by rw[lR];lia) fun h₄ c₄ S₄=>?_
  refine⟨n+1-(zs.length+1),⟨by exact ar_1 (mZ hlt),jJ7 h₄ d₃ t₃ B₃ m₃ (zs++[y]) c₄ (jH8 (by simp) (by rw[lR,mG];exact hlt) rfl (by rw[←nR];exact S₄.outt S₁) ?_ (fun b hb=>(S₄.v b (.inl hb)).1) (hle.trans S₄.up) (fun i u e=>?_))⟩⟩
  ·rw[lR,mG]
   exact W.frame _ _ _ z₁ fun b hb o e=>S₄.fr b o (.inl hb) (by simpa[Cx.into,hb] using e)
  ·rcases pM i zs.length with q | q | q
   ·exact hY _ _ _ _ S₄.up (hys i u (by rwa [oR q] at e))
   ·subst q;simp at e;subst e;exact hy
   ·rw[oS (by rw[lR,mG];lia)] at e;cases e
 ·have hin:zs.length=n:=by lia
  subst hin
  exact W.done _ _ _ z fun h₁ tk₁ k₁=>fin _ _ _ _ _ _ _ (S'.turn k₁ hLw hMw hB' F.wD) hle rfl hys
theorem cin_list {elt:Expr}{g0:Comprehension}{target iter:Expr}{scope:Scope}{pos:kW}{a l:jQ}{c₀:Nat}{ys0 items:List jL}
  (S:St C B h m [(a,lstO ys0 c₀)]) (hl:Lst B l items) (hh:A.handled=none) (hsz:ys0.length+items.length≤kC)
  (Y:Nat→jL→Base→Prop) (hY:∀i y B B',Le B B'→Y i y B→Y i y B')
  (turn:∀i v C' B' h' m' M' d t,items[i]? =some v→St C' B' h' m' M'→C'.L=C.L→Le B B'→
   jN (jM PW w) A (assign target env v) (fun _ s₂=>jN (jM PW w) A (eval elt env) (fun y s₃=>∃h' d' t' B'' m'',s₃=⟨h',g,d',t',os⟩∧St C' B'' h' m'' M'∧Y i y B'') no s₂) no ⟨h',g,d,t,os⟩)
  (fin:∀h d t B' m' zs c,St C B' h m' [(a,lstO (ys0++zs) c)]→Le B B'→zs.length=items.length→(∀i y,zs[i]? =some y→Y i y B')→R (.ok .next) ⟨h,g,d,t,os⟩)
  (ht:autoParam (∀i v,kE target (.ref i) v=pure ()) tR):
  jN (jM PW w) A (pyIter (.ref l)) (fun it' s₄=>kN (jM PW w) A (.compStart (.ListComp elt [g0,⟨target,iter,[],0⟩] scope pos) 1 it' (.ref a) env) R s₄) no ⟨h,g,d,t,os⟩:=by
 obtain⟨n,e⟩:=id hl
 refine wpAny_pyIter_list (hl.at S) ?_
 have hne:l≠h.objs.size:=lN (S.blt e)
 have F:=iZ S e
 have T:=S.kp (Kp.push h {cls:=.type "list_iterator",data:=.fields #[.ref l,.int 0 0]})
 have z0:(h.push {cls:=.type "list_iterator",data:=.fields #[.ref l,.int 0 0]}).IsListIter h.objs.size l 0∧(h.push {cls:=.type "list_iterator",data:=.fields #[.ref l,.int 0 0]}).IsList l items.toArray:=⟨⟨_,jH3 (lT _ rfl) rfl rfl⟩,hl.at T⟩
 have go:kN (jM PW w) A (.compLoop (.ListComp elt [g0,⟨target,iter,[],0⟩] scope pos) 1 (.ref h.objs.size) (.ref a) env) R ⟨h.push {cls:=.type "list_iterator",data:=.fields #[.ref l,.int 0 0]},g,d,t,os⟩:=by
  refine cin_loop (Walks.list hh h.objs.size l hne items.toArray) T F (fun i h z b hb=>?_) (fun q=>iY S e (a,lstO ys0 c₀) (lA.2 rfl) q) (fun b hb=>by rw[lA.1 hb];exact S.freshB) z0 (by simpa using hsz) Y hY
   (fun i v C' B' h' m' M' d t hi hP S' l kk=>turn i v C' B' h' m' M' d t (by simpa using hP) S' l kk) (fun h d t B' m' zs c S' l x y=>fin h d t B' m' zs c S' l (by simpa using x) y) (ht _)
  rcases lH.1 hb with q | q
  ·refine jI1 ?_ z.1;intro o;refine jG2 ?_;intro ho _;exact⟨o,q▸ho⟩
  ·refine jI1 ?_ z.2;intro o;refine jG2 ?_;intro ho _;exact⟨o,lA.1 q▸ho⟩
 exact cs1 go (wpAny_pyIter_listiter z0.1 go)
theorem cou_loop {elt target iter t1 i1:Expr}{scope:Scope}{pos:kW}{I T a:jQ}{c₀:Nat}{fp wr:List jQ}{n:Nat}{P:Nat→jL→Prop}{Z:Nat→kI→Prop}(W:Walks PW w A I fp wr n P Z)
  (S:St C B h m [(a,lstO [] c₀)]) (F:Fits C fp wr T) (live:∀i h,Z i h→∀b∈fp,∃o,h.get? b=some o) (ha:a∉fp) (hB:∀b∈wr,B b=none) (z0:Z 0 h) (hsz:n≤1000)
  (Y:Nat→List jL→Base→Prop) (hY:∀i y B B',Le B B'→Y i y B→Y i y B')
  (turn:∀i v C' B' h' m' ys c d t,i<n→P i v→ys.length≤10000→St C' B' h' m' [(a,lstO ys c)]→C'.L=C.L→Le B B'→
   jN (jM PW w) A (assign target env v) (fun _ s₂=>jN (jM PW w) A (eval i1 env) (fun x s₃=>jN (jM PW w) A (pyIter x) (fun it' s₄=>
     kN (jM PW w) A (.compStart (.ListComp elt [⟨target,iter,[],0⟩,⟨t1,i1,[],0⟩] scope pos) 1 it' (.ref a) env) (fun r s₅=>r=.ok .next∧∃h' d' t' B'' m'' zs c',s₅=⟨h',g,d',t',os⟩∧St C' B'' h' m'' [(a,lstO (ys++zs) c')]∧zs.length≤10∧Y i zs B'') s₄) no s₃) no s₂) no ⟨h',g,d,t,os⟩)
  (fin:∀h d t B' m' zss c,St C B' h m' [(a,lstO (nM zss) c)]→Le B B'→zss.length=n→(∀i y,zss[i]? =some y→Y i y B')→R (.ok .next) ⟨h,g,d,t,os⟩)
  (ht:autoParam (∀v,kE target (.ref I) v=pure ()) tR) (hs:autoParam (∀x,foldedSetIterable i1 env x=pure x) tR):
  kN (jM PW w) A (.compLoop (.ListComp elt [⟨target,iter,[],0⟩,⟨t1,i1,[],0⟩] scope pos) 0 (.ref I) (.ref a) env) R ⟨h,g,d,t,os⟩:=by
 injection W S F live ha hB z0 hsz hY turn fin ht hs with w A C m B h g d t os env R elt target iter t1 i1 scope pos I T a c₀ fp wr n P Z Y
 have hLw:C.L∉wr:=fun q=>F.L (F.sub _ q)
 refine cl0 (fun k s=>∃h' d' t' B' m' zss c,k=n+1-zss.length∧zss.length≤n∧(nM zss).length≤10*zss.length∧s=⟨h',g,d',t',os⟩∧St C B' h' m' [(a,lstO (nM zss) c)]∧Z zss.length h'∧(∀b∈wr,B' b=none)∧Le B B'∧(∀i y,zss[i]? =some y→Y i y B')) ?_ (n+1)
  (jJ7 h d t B m ([]) c₀ (jH9 rfl (lC _) (lE _) rfl S z0 hB (Le.refl _) (fun i y e=>by simp at e))) ht hs
 intro k s;refine jI7 ?_;intro h' d' t' B' m' zss c;refine jG9 ?_;intro zz4 hi hfl zz5 S' z hB' hle hys;obtain rfl:=zz4;obtain rfl:=zz5
 injection hi hfl S' z hB' hle hys with h' d' t' B' m' zss c
 have hM':∀p∈[(a,lstO (nM zss) c)],p.1∉fp:=fun p hp=>by rw[lA.1 hp];exact ha
 have hMw:∀p∈[(a,lstO (nM zss) c)],p.1∉wr:=fun p hp q=>hM' p hp (F.sub _ q)
 by_cases hlt:zss.length<n
 ·refine W.item zss.length _ _ _ hlt z fun v h₁ tk₁ hP z₁ k₁=>?_
  have S₁:St C B' h₁ m' [(a,lstO (nM zss) c)]:=S'.turn k₁ hLw hMw hB' F.wD
  have S₂:=S₁.inn F (live _ _ z₁) hM' hB'
  refine jR (turn zss.length v _ B' h₁ m' _ _ d' tk₁ hlt hP (by lia) S₂ rfl hle) (fun _ s₂ x=>jR x (fun y s₃ z=>jR z (fun it' s₄ q=>codeAny_mono q fun r s₅ hr=>?_) fun _ _ x=>x.elim) fun _ _ x=>x.elim) fun _ _ x=>x.elim
  refine jG2 ?_ hr;try clear hr;intro zz6;refine jI7 ?_;intro h₃ d₃ t₃ B₃ m₃ zs c';refine jG4 ?_;intro zz7 S₃ hzl hy;obtain rfl:=zz6;obtain rfl:=zz7
  refine⟨rfl,⟨n+1-(zss.length+1),⟨by exact ar_1 (mZ hlt),jJ7 h₃ d₃ t₃ B₃ m₃ (zss++[zs]) c' (jH9 (by simp) (by rw[lR,mG];exact hlt) ?_ rfl ?_ ?_ (fun b hb=>(S₃.v b (.inl hb)).1) (hle.trans S₃.up) (fun i u e=>?_))⟩⟩⟩
  ·rw[List.flatten_append,lR,lR,mG]
   have:(nM [zs]).length=zs.length:=by simp
   lia
  ·have e:nM (zss++[zs])=nM zss++zs:=by simp
   rw[e];exact S₃.outt S₁
  ·rw[lR,mG]
   exact W.frame _ _ _ z₁ fun b hb o e=>S₃.fr b o (.inl hb) (by simpa[Cx.into,hb] using e)
  ·rcases pM i zss.length with q | q | q
   ·exact hY _ _ _ _ S₃.up (hys i u (by rwa [oR q] at e))
   ·subst q;simp at e;subst e;exact hy
   ·rw[oS (by rw[lR,mG];lia)] at e;cases e
 ·have hin:zss.length=n:=by lia
  subst hin
  exact W.done _ _ _ z fun h₁ tk₁ k₁=>fin _ _ _ _ _ _ _ (S'.turn k₁ hLw hMw hB' F.wD) hle rfl hys
noncomputable def CompGo2 (w:jS)(A:jV)(env:Env)(elt target iter t1 i1:Expr)(scope:Scope)(cl:List (kJ×jQ))(pos:kW)(Q E:jL→jP→Prop)(v:jL)(s:jP):Prop:=
 jN (jM PW w) A (pyIter v) (fun it s₂=>jN (jM PW w) A (newList []) (fun acc s₃=>jN (jM PW w) A (newFunctionEnv scope env.globals cl [] env.qual none .none (some env)) (fun cenv s₄=>
   kN (jM PW w) A (.compStart (.ListComp elt [⟨target,iter,[],0⟩,⟨t1,i1,[],0⟩] scope pos) 0 it acc {cenv with scope:=relabel scope env}) (compPost (jM PW w) A E none Q acc cenv.locals) s₄) E s₃) E s₂) E s
theorem e_comp2 {elt target iter t1 i1:Expr}{scope:Scope}{cl:List (kJ×jQ)}{pos:kW}(hclos:closureFor scope env=pure cl)(hkind:scope.kind=.function)
  (hnames:∀y∈scope.names,y.2=.local→scope.names.lookup y.1=some .local)
  (k:jN (jM PW w) A (eval iter env) (CompGo2 w A env elt target iter t1 i1 scope cl pos Q E) E ⟨h,g,d,t,os⟩)
  (hs:autoParam (∀x,foldedSetIterable iter env x=pure x) tR):
  jN (jM PW w) A (eval (.ListComp elt [⟨target,iter,[],0⟩,⟨t1,i1,[],0⟩] scope pos) env) Q E ⟨h,g,d,t,os⟩:=by
 rw[eval_ListComp]
 exact wpAny_comprehension_free (use:=none) rfl hs hclos hkind hnames k
theorem comp_walk2 {elt target iter t1 i1:Expr}{scope:Scope}{cl:List (kJ×jQ)}{pos:kW}{I:jQ}{fp wr:List jQ}{n:Nat}{P:Nat→jL→Prop}{Z:Nat→kI→Prop}{E:jL→jP→Prop}(W:Walks PW w A I fp wr n P Z)
  (S:St C B h m M) (sub:∀b∈wr,b∈fp) (lt:∀b∈fp,b<h.objs.size) (live:∀i h,Z i h→∀b∈fp,∃o,h.get? b=some o) (hMf:∀p∈M,p.1∉fp) (hB:∀b∈wr,B b=none) (hD:∀b∈wr,¬C.D b) (hL:C.L∉wr) (z0:Z 0 h) (hsz:n≤1000)
  (hcell:∀y∈scope.names,y.2≠.cell) (hkind:scope.kind=.function)
  (Y:Nat→List jL→Base→Prop) (hY:∀i y B B',Le B B'→Y i y B→Y i y B')
  (turn:∀i v C' B' h' m' ys c d t,i<n→P i v→ys.length≤10000→St C' B' h' m' [(h.objs.size,lstO ys c)]→Le B B'→
   jN (jM PW w) A (assign target (compEnvC scope cl C'.L env) v) (fun _ s₂=>jN (jM PW w) A (eval i1 (compEnvC scope cl C'.L env)) (fun x s₃=>jN (jM PW w) A (pyIter x) (fun it' s₄=>
     kN (jM PW w) A (.compStart (.ListComp elt [⟨target,iter,[],0⟩,⟨t1,i1,[],0⟩] scope pos) 1 it' (.ref h.objs.size) (compEnvC scope cl C'.L env)) (fun r s₅=>r=.ok .next∧∃h' d' t' B'' m'' zs c',s₅=⟨h',g,d',t',os⟩∧St C' B'' h' m'' [(h.objs.size,lstO (ys++zs) c')]∧zs.length≤10∧Y i zs B'') s₄) no s₃) no s₂) no ⟨h',g,d,t,os⟩)
  (fin:∀h d t B' a zss,St C B' h m M→Le B B'→Lst B' a (nM zss)→zss.length=n→(∀i y,zss[i]? =some y→Y i y B')→Q (.ref a) ⟨h,g,d,t,os⟩)
  (ht:autoParam (∀v,kE target (.ref I) v=pure ()) tR) (hs2:autoParam (∀L x,foldedSetIterable i1 (compEnvC scope cl L env) x=pure x) tR):
  jN (jM PW w) A (newList []) (fun acc s₃=>jN (jM PW w) A (newFunctionEnv scope env.globals cl [] env.qual none .none (some env)) (fun cenv s₄=>
   kN (jM PW w) A (.compStart (.ListComp elt [⟨target,iter,[],0⟩,⟨t1,i1,[],0⟩] scope pos) 0 (.ref I) acc {cenv with scope:=relabel scope env}) (compPost (jM PW w) A E none Q acc cenv.locals) s₄) E s₃) E ⟨h,g,d,t,os⟩:=by
 injection W S sub lt live hMf hB hD hL z0 hsz hcell hkind hY turn fin ht hs2 with w A C m B M h g d t os env Q elt target iter t1 i1 scope cl pos I fp wr n P Z E Y
 have hM:∀p∈M,p.1∉wr:=fun p hp q=>hMf p hp (sub _ q)
 refine kP (wpAny_newFunctionEnv hcell (by intro y hy;simp at hy) (fun h₁ hns₁ hsb₁=>?_) hkind)
 dsimp only at hns₁ hsb₁⊢
 generalize hH2:h.push {cls:=.type "list",dict:=none,data:=.seq ([]:List jL).toArray}=H2 at hns₁ hsb₁⊢
 have hC:H2.objs.size=h.objs.size+1:=by rw[←hH2,mK]
 have old:∀b o,H2.get? b=some o→h₁.get? b=some o:=fun b o e=>hsb₁.extBut b o (lN (lM e)) (lS _ e)
 have old':∀b o,h.get? b=some o→h₁.get? b=some o:=fun b o e=>old b o (hH2▸lS _ e)
 have S₁:St (cH h wr B H2.objs.size) B h₁ (fun x=>([]:List (kJ×jL)).reverse.lookup x) [(h.objs.size,lstO [] 0)]:={
  ns:=.of hns₁
  ld:=fun x=>absurd x.1 (by rw[hC];exact lU.2 (lV _))
  lv:=.inl rfl
  fr:=fun a o _ e=>old' a o e
  b:=fun a o e=>old' a o (S.b a o e)
  v:=fun a x=>x.elim (fun e=>⟨by
   cases q:B a with
   | none=>rfl
   | some o=>exact absurd (S.blt q) (by rw[e,hC];exact lU.2 (lV _)),mB e⟩) fun e=>⟨hB a e,by rw[show(cH h wr B H2.objs.size).top=h.objs.size+1 from hC];exact mV (lL (lt a (sub a e)))⟩
  d:=fun a x=>by rw[show(cH h wr B H2.objs.size).top=h.objs.size+1 from hC];exact mV (lL x.1)
  tp:=.inl rfl
  m:=fun p hp=>by
   rw[lA.1 hp]
   refine jH4 (old _ _ (hH2▸lT _ rfl)) (fun x=>absurd x.1 (lO _)) (fun x=>x.elim (fun e=>absurd e (by rw[hC];exact lN (nE _))) fun e=>absurd (lt _ (sub _ e)) (lO _)) S.freshB
  nd:=by simp
  nl:=by show h.objs.size≤H2.objs.size;rw[hC];exact lV _
  ow:=fun p hp=>by rw[lA.1 hp];exact .inl (lE _)
  new:=fun a o e _=>e
  up:=Le.refl _}
 have F₁:Fits (cH h wr B H2.objs.size) fp wr H2.objs.size:={
  sub:=sub
  L:=fun x=>absurd (lt _ x) (by show ¬H2.objs.size<h.objs.size;rw[hC];exact lU.2 (lV _))
  le:=fun b x=>by rw[hC];exact mV (lL (lt b x))
  top:=lE _
  mem:=.inl rfl
  wD:=fun b x y=>y.2 x}
 have loop:∀d t,kN (jM PW w) A (.compLoop (.ListComp elt [⟨target,iter,[],0⟩,⟨t1,i1,[],0⟩] scope pos) 0 (.ref I) (.ref h.objs.size) (compEnvC scope cl H2.objs.size env))
    (compPost (jM PW w) A E none Q (.ref h.objs.size) H2.objs.size) ⟨h₁,g,d,t,os⟩:=by
  intro d t
  refine cou_loop W S₁ F₁ live (fun x=>absurd (lt _ x) (lO _)) hB (W.frame _ _ _ z0 fun b _ o e=>old' b o e) hsz Y hY
   (fun i v C' B' h' m' ys c d t hi hP hyl S' e l=>?_) (fun h₂ d t B' m' zss c S₂ hle hlen hys=>?_) ht (hs2 _)
  ·have:=turn i v C' B' h' m' ys c d t hi hP hyl S' l
   rw[show C'.L=H2.objs.size from e] at this
   exact this
  ·refine jI1 ?_ S₂.ns;intro mx;refine jG2 ?_;intro nx _
   refine⟨mx,nx,fun h₃ hs₃=>?_⟩
   have A:=S₂.m _ (lA.2 rfl)
   exact fin h₃ d t _ h.objs.size zss (S.back S₂ hs₃ (lE _) (by rw[hC];exact lV _) hM hD hL) (hle.trans (aV _ A.2.2.2)) ⟨c,aM _ _ _⟩ hlen fun i y e=>hY _ _ _ _ (aV _ A.2.2.2) (hys i y e)
 exact codeAny_compStart_list (loop _ _) (W.self 0 _ _ _ (W.frame _ _ _ z0 fun b _ o e=>old' b o e) (loop _ _))
theorem comp_list2 {elt target iter t1 i1:Expr}{scope:Scope}{cl:List (kJ×jQ)}{pos:kW}{l:jQ}{items:List jL}(S:St C B h m M)(hl:Lst B l items)(hh:A.handled=none)(hsz:items.length≤1000)
  (hcell:∀y∈scope.names,y.2≠.cell) (hkind:scope.kind=.function)
  (Y:Nat→List jL→Base→Prop) (hY:∀i y B B',Le B B'→Y i y B→Y i y B')
  (turn:∀i v C' B' h' m' ys c a d t,items[i]? =some v→ys.length≤10000→St C' B' h' m' [(a,lstO ys c)]→Le B B'→
   jN (jM PW w) A (assign target (compEnvC scope cl C'.L env) v) (fun _ s₂=>jN (jM PW w) A (eval i1 (compEnvC scope cl C'.L env)) (fun x s₃=>jN (jM PW w) A (pyIter x) (fun it' s₄=>
     kN (jM PW w) A (.compStart (.ListComp elt [⟨target,iter,[],0⟩,⟨t1,i1,[],0⟩] scope pos) 1 it' (.ref a) (compEnvC scope cl C'.L env)) (fun r s₅=>r=.ok .next∧∃h' d' t' B'' m'' zs c',s₅=⟨h',g,d',t',os⟩∧St C' B'' h' m'' [(a,lstO (ys++zs) c')]∧zs.length≤10∧Y i zs B'') s₄) no s₃) no s₂) no ⟨h',g,d,t,os⟩)
  (fin:∀h d t B' a zss,St C B' h m M→Le B B'→Lst B' a (nM zss)→zss.length=items.length→(∀i y,zss[i]? =some y→Y i y B')→Q (.ref a) ⟨h,g,d,t,os⟩)
  (ht:autoParam (∀i v,kE target (.ref i) v=pure ()) tR) (hs2:autoParam (∀L x,foldedSetIterable i1 (compEnvC scope cl L env) x=pure x) tR):
  CompGo2 w A env elt target iter t1 i1 scope cl pos Q E (.ref l) ⟨h,g,d,t,os⟩:=by
 obtain⟨n,e⟩:=id hl
 refine wpAny_pyIter_list (hl.at S) ?_
 have hne:l≠h.objs.size:=lN (S.blt e)
 have F:=iZ S e
 have T:=S.kp (Kp.push h {cls:=.type "list_iterator",data:=.fields #[.ref l,.int 0 0]})
 refine comp_walk2 (Walks.list hh h.objs.size l hne items.toArray) T F.sub (fun b hb=>?_) (fun i h z b hb=>?_) (iY S e) (fun b hb=>by rw[lA.1 hb];exact S.freshB) F.wD (fun q=>F.L (F.sub _ q))
  ⟨⟨_,jH3 (lT _ rfl) rfl rfl⟩,hl.at T⟩ (by simpa using hsz) hcell hkind Y hY (fun i v C' B' h' m' ys c d t hi hP hyl S' l=>turn i v C' B' h' m' ys c _ d t (by simpa using hP) hyl S' l) (fun h d t B' a ys S' l x y z=>fin h d t B' a ys S' l x (by simpa using y) z) (ht _) hs2
 ·rw[mK];exact pX (F.le b hb)
 ·rcases lH.1 hb with q | q
  ·refine jI1 ?_ z.1;intro o;refine jG2 ?_;intro ho _;exact⟨o,q▸ho⟩
  ·refine jI1 ?_ z.2;intro o;refine jG2 ?_;intro ho _;exact⟨o,lA.1 q▸ho⟩
noncomputable def CompGoU (w:jS)(A:jV)(env:Env)(y:kJ)(py:kW)(elt target iter:Expr)(scope:Scope)(cl:List (kJ×jQ))(pos:kW)(Q E:jL→jP→Prop)(v:jL)(s:jP):Prop:=
 jN (jM PW w) A (pyIter v) (fun it s₂=>jN (jM PW w) A (newList []) (fun acc s₃=>jN (jM PW w) A (newFunctionEnv scope env.globals cl [] env.qual none .none (some env)) (fun cenv s₄=>
   kN (jM PW w) A (.compStart (.ListComp elt [⟨target,iter,[],0⟩] scope pos) 0 it acc {cenv with scope:=relabel scope env}) (compPost (jM PW w) A E (some (assign (.Name y py) env)) Q acc cenv.locals) s₄) E s₃) E s₂) E s
theorem x_setc {elt target iter:Expr}{y:kJ}{py spos:kW}{scope:Scope}{cl:List (kJ×jQ)}{pos:kW}{rest:List jW}(hclos:closureFor scope env=pure cl)(hkind:scope.kind=.function)
  (hnames:∀y∈scope.names,y.2=.local→scope.names.lookup y.1=some .local)
  (k:jN (jM PW w) A (eval iter env) (CompGoU w A env y py elt target iter scope cl pos (fun _ s'=>jN (jM PW w) A (kO rest env) QF E s') E) E ⟨h,g,d,t,os⟩)
  (hsw:autoParam (swapsWith (.ListComp elt [⟨target,iter,[],0⟩] scope pos) (some (.Name y py)) spos.line env=pure true) tR)
  (hs:autoParam (∀x,foldedSetIterable iter env x=pure x) tR):
  jN (jM PW w) A (kO (.Assign [.Name y py] (.ListComp elt [⟨target,iter,[],0⟩] scope pos) spos::rest) env) QF E ⟨h,g,d,t,os⟩:=by
 refine wpAny_execs_cons ?_
 rw[exec_Assign_Name_used _ _ _ _ hsw]
 refine jK (wpAny_standAt (jK ?_))
 show jN _ A (do let _ ←comprehension (.ListComp elt [⟨target,iter,[],0⟩] scope pos) scope env _ (newList []) false (eval iter env) (some (assign (.Name y py) env))) _ _ _
 refine jK (jR (wpAny_comprehension_free (use:=some (assign (.Name y py) env)) (Q:=fun _ s'=>jN (jM PW w) A (kO rest env) QF E s') rfl hs hclos hkind hnames k) (fun _ s' hq=>jO (jO hq)) fun _ _ e=>e)
theorem comp_walkU {elt target iter:Expr}{y:kJ}{py:kW}{scope:Scope}{cl:List (kJ×jQ)}{pos:kW}{I:jQ}{fp wr:List jQ}{n:Nat}{P:Nat→jL→Prop}{Z:Nat→kI→Prop}{E:jL→jP→Prop}(W:Walks PW w A I fp wr n P Z)
  (S:St C B h m M) (sub:∀b∈wr,b∈fp) (lt:∀b∈fp,b<h.objs.size) (live:∀i h,Z i h→∀b∈fp,∃o,h.get? b=some o) (hMf:∀p∈M,p.1∉fp) (hB:∀b∈wr,B b=none) (hD:∀b∈wr,¬C.D b) (hL:C.L∉wr) (z0:Z 0 h) (hsz:n≤kC)
  (hcell:∀y∈scope.names,y.2≠.cell) (hkind:scope.kind=.function)
  (Y:Nat→jL→Base→Prop) (hY:∀i y B B',Le B B'→Y i y B→Y i y B')
  (turn:∀i v C' B' h' m' M' d t,i<n→P i v→St C' B' h' m' M'→Le B B'→(∀p∈M,C'.D p.1∧C'.H p.1=some p.2)→
   jN (jM PW w) A (assign target (compEnvC scope cl C'.L env) v) (fun _ s₂=>jN (jM PW w) A (eval elt (compEnvC scope cl C'.L env)) (fun y s₃=>∃h' d' t' B'' m'',s₃=⟨h',g,d',t',os⟩∧St C' B'' h' m'' M'∧Y i y B'') no s₂) no ⟨h',g,d,t,os⟩)
  (fin:∀h d t B' a ys,St C B' h (up m y (.ref a)) M→Le B B'→Lst B' a ys→ys.length=n→(∀i y,ys[i]? =some y→Y i y B')→Q .none ⟨h,g,d,t,os⟩)
  (hy:env.kindOf y=some .local) (hE:aP C env) (hgo:∀i (s:jP) v (Q:Unit→jP→Prop) (E:jL→jP→Prop),Z i s.heap→Q () s→jN (jM PW w) A (kE target (.ref I) v) Q E s):
  jN (jM PW w) A (newList []) (fun acc s₃=>jN (jM PW w) A (newFunctionEnv scope env.globals cl [] env.qual none .none (some env)) (fun cenv s₄=>
   kN (jM PW w) A (.compStart (.ListComp elt [⟨target,iter,[],0⟩] scope pos) 0 (.ref I) acc {cenv with scope:=relabel scope env}) (compPost (jM PW w) A E (some (assign (.Name y py) env)) Q acc cenv.locals) s₄) E s₃) E ⟨h,g,d,t,os⟩:=by
 injection W S sub lt live hMf hB hD hL z0 hsz hcell hkind hY turn fin hy hE hgo with w A C m B M h g d t os env Q elt target iter y py scope cl pos I fp wr n P Z E Y
 have hM:∀p∈M,p.1∉wr:=fun p hp q=>hMf p hp (sub _ q)
 refine kP (wpAny_newFunctionEnv hcell (by intro y hy;simp at hy) (fun h₁ hns₁ hsb₁=>?_) hkind)
 dsimp only at hns₁ hsb₁⊢
 generalize hH2:h.push {cls:=.type "list",dict:=none,data:=.seq ([]:List jL).toArray}=H2 at hns₁ hsb₁⊢
 have hC:H2.objs.size=h.objs.size+1:=by rw[←hH2,mK]
 have old:∀b o,H2.get? b=some o→h₁.get? b=some o:=fun b o e=>hsb₁.extBut b o (lN (lM e)) (lS _ e)
 have old':∀b o,h.get? b=some o→h₁.get? b=some o:=fun b o e=>old b o (hH2▸lS _ e)
 have S₁:St (cH h wr B H2.objs.size) B h₁ (fun x=>([]:List (kJ×jL)).reverse.lookup x) [(h.objs.size,lstO [] 0)]:={
  ns:=.of hns₁
  ld:=fun x=>absurd x.1 (by rw[hC];exact lU.2 (lV _))
  lv:=.inl rfl
  fr:=fun a o _ e=>old' a o e
  b:=fun a o e=>old' a o (S.b a o e)
  v:=fun a x=>x.elim (fun e=>⟨by
   cases q:B a with
   | none=>rfl
   | some o=>exact absurd (S.blt q) (by rw[e,hC];exact lU.2 (lV _)),mB e⟩) fun e=>⟨hB a e,by rw[show(cH h wr B H2.objs.size).top=h.objs.size+1 from hC];exact mV (lL (lt a (sub a e)))⟩
  d:=fun a x=>by rw[show(cH h wr B H2.objs.size).top=h.objs.size+1 from hC];exact mV (lL x.1)
  tp:=.inl rfl
  m:=fun p hp=>by
   rw[lA.1 hp]
   refine jH4 (old _ _ (hH2▸lT _ rfl)) (fun x=>absurd x.1 (lO _)) (fun x=>x.elim (fun e=>absurd e (by rw[hC];exact lN (nE _))) fun e=>absurd (lt _ (sub _ e)) (lO _)) S.freshB
  nd:=by simp
  nl:=by show h.objs.size≤H2.objs.size;rw[hC];exact lV _
  ow:=fun p hp=>by rw[lA.1 hp];exact .inl (lE _)
  new:=fun a o e _=>e
  up:=Le.refl _}
 have F₁:Fits (cH h wr B H2.objs.size) fp wr H2.objs.size:={
  sub:=sub
  L:=fun x=>absurd (lt _ x) (by show ¬H2.objs.size<h.objs.size;rw[hC];exact lU.2 (lV _))
  le:=fun b x=>by rw[hC];exact mV (lL (lt b x))
  top:=lE _
  mem:=.inl rfl
  wD:=fun b x y=>y.2 x}
 have loop:∀d t,kN (jM PW w) A (.compLoop (.ListComp elt [⟨target,iter,[],0⟩] scope pos) 0 (.ref I) (.ref h.objs.size) (compEnvC scope cl H2.objs.size env))
    (compPost (jM PW w) A E (some (assign (.Name y py) env)) Q (.ref h.objs.size) H2.objs.size) ⟨h₁,g,d,t,os⟩:=by
  intro d t
  refine jD W S₁ M (fun p hp=>jH3 ⟨lM (S.m p hp).1,hM p hp⟩ ((S.m p hp).1) (hMf p hp)) F₁ live (fun x=>absurd (lt _ x) (lO _)) hB (W.frame _ _ _ z0 fun b _ o e=>old' b o e) hsz Y hY
   (fun i v C' B' h' m' M' d t hi hP S' e l kk=>?_) (fun h₂ d t B' m' ys c S₂ hle hlen hys=>?_) hgo
  ·have:=turn i v C' B' h' m' M' d t hi hP S' l kk
   rw[show C'.L=H2.objs.size from e] at this
   exact this
  ·refine jI1 ?_ S₂.ns;intro mx;refine jG2 ?_;intro nx _
   have AA:=S₂.m _ (lA.2 rfl)
   have SO:=S.back S₂ (Heap.SameBut.refl ..) (lE _) (by rw[hC];exact lV _) hM hD hL
   have hLL:C.L≠H2.objs.size:=fun q=>absurd S.lt (by rw[q,hC];exact lU.2 (lV _))
   have hLa:h.objs.size≠H2.objs.size:=by rw[hC];exact lN (nE _)
   refine jI1 ?_ SO.ns;intro mo;refine jG2 ?_;intro no' lo
   show jN _ A (assign (.Name y py) env (.ref h.objs.size)) _ _ _
   refine wpAny_assign_Name (wpAny_storeName_local hy (by rw[hE.l];exact no') (fun h₃ hn₃ hs₃=>?_) hE.p)
   rw[hE.l] at hn₃ hs₃
   refine⟨mx,⟨nx.sameBut hs₃ (Ne.symm hLL),fun h₄ hs₄=>?_⟩⟩
   have S3:St C (Base.put B' h.objs.size (lstO ys c)) h₃ (up m y (.ref h.objs.size)) M:=SO.set ⟨_,hn₃,fun x u e=>by
    unfold up at e
    by_cases q:x=y
    ·rw[if_pos q] at e⊢;exact e
    ·rw[if_neg q] at e⊢;exact lo x u e⟩ hs₃
   have hBn:Base.put B' h.objs.size (lstO ys c) H2.objs.size=none:=by rw[cG _ _ (Ne.symm hLa)];exact(S₂.v _ (.inl rfl)).1
   have S4:St C (Base.put B' h.objs.size (lstO ys c)) h₄ (up m y (.ref h.objs.size)) M:=S3.turn (wr:=[H2.objs.size]) (fun b o hb e=>(hs₄.2 b (fun q=>hb (by simp[q]))).trans e) (fun q=>hLL (lA.1 q))
    (fun p hp q=>absurd (lM (S.m p hp).1) (by rw[lA.1 q,hC];exact lU.2 (lV _))) (fun b hb=>by rw[lA.1 hb];exact hBn)
    (fun b hb q=>absurd (S.dlt q) (by rw[lA.1 hb,hC];exact lU.2 (lV _)))
   exact fin h₄ d _ _ h.objs.size ys S4 (hle.trans (aV _ AA.2.2.2)) ⟨c,aM _ _ _⟩ hlen fun i y e=>hY _ _ _ _ (aV _ AA.2.2.2) (hys i y e)
 exact codeAny_compStart_list (loop _ _) (W.self 0 _ _ _ (W.frame _ _ _ z0 fun b _ o e=>old' b o e) (loop _ _))
theorem comp_listU {elt iter:Expr}{y:kJ}{py:kW}{elts:List Expr}{kt:Nat}{tpos:kW}{scope:Scope}{cl:List (kJ×jQ)}{pos:kW}{l:jQ}{items:List jL}(S:St C B h m M)(hl:Lst B l items)(hh:A.handled=none)(hsz:items.length≤kC)
  (hcell:∀y∈scope.names,y.2≠.cell) (hkind:scope.kind=.function)
  (Y:Nat→jL→Base→Prop) (hY:∀i y B B',Le B B'→Y i y B→Y i y B')
  (turn:∀i v C' B' h' m' M' d t,items[i]? =some v→St C' B' h' m' M'→Le B B'→(∀p∈M,C'.D p.1∧C'.H p.1=some p.2)→
   jN (jM PW w) A (assign (.Tuple elts kt tpos) (compEnvC scope cl C'.L env) v) (fun _ s₂=>jN (jM PW w) A (eval elt (compEnvC scope cl C'.L env)) (fun y s₃=>∃h' d' t' B'' m'',s₃=⟨h',g,d',t',os⟩∧St C' B'' h' m'' M'∧Y i y B'') no s₂) no ⟨h',g,d,t,os⟩)
  (fin:∀h d t B' a ys,St C B' h (up m y (.ref a)) M→Le B B'→Lst B' a ys→ys.length=items.length→(∀i y,ys[i]? =some y→Y i y B')→Q .none ⟨h,g,d,t,os⟩)
  (hy:env.kindOf y=some .local) (hE:aP C env):
  CompGoU w A env y py elt (.Tuple elts kt tpos) iter scope cl pos Q E (.ref l) ⟨h,g,d,t,os⟩:=by
 obtain⟨n,e⟩:=id hl
 refine wpAny_pyIter_list (hl.at S) ?_
 have hne:l≠h.objs.size:=lN (S.blt e)
 have F:=iZ S e
 have T:=S.kp (Kp.push h {cls:=.type "list_iterator",data:=.fields #[.ref l,.int 0 0]})
 refine comp_walkU (Walks.list hh h.objs.size l hne items.toArray) T F.sub (fun b hb=>?_) (fun i h z b hb=>?_) (iY S e) (fun b hb=>by rw[lA.1 hb];exact S.freshB) F.wD (fun q=>F.L (F.sub _ q))
  ⟨⟨_,jH3 (lT _ rfl) rfl rfl⟩,hl.at T⟩ (by simpa using hsz) hcell hkind Y hY (fun i v C' B' h' m' M' d t hi hP S' l kk=>turn i v C' B' h' m' M' d t (by simpa using hP) S' l kk) (fun h d t B' a ys S' l x y z=>fin h d t B' a ys S' l x (by simpa using y) z) hy hE (fun i s v Q E st hq=>?_)
 ·rw[mK];exact pX (F.le b hb)
 ·rcases lH.1 hb with q | q
  ·refine jI1 ?_ z.1;intro o;refine jG2 ?_;intro ho _;exact⟨o,q▸ho⟩
  ·refine jI1 ?_ z.2;intro o;refine jG2 ?_;intro ho _;exact⟨o,lA.1 q▸ho⟩
 ·cases v with
  | ref T=>exact wpAny_letOwnedTupleGo_listiter st.1 hq
  | _=>exact jO hq
end
theorem eO {α β γ:Type}{R:β→γ→Prop}{f:α→γ}{ys:List β}{xs:List α}(hl:ys.length=xs.length)(h:∀(i:Nat) (y:β),ys[i]? =some y→∃c,xs[i]? =some c∧R y (f c)):F2 R ys (xs.map f):=
 F2.of_get (by rw[lZ];exact hl) fun i y c h1 h2=>by
  refine jI1 ?_ (h i y h1);intro c';refine jG2 ?_;intro h3 h4
  rw[oZ,h3] at h2
  cases h2;exact h4
section
variable {w:jS}{A:jV}{s:jP}{mg mb:kJ→Option jL}{B:Base}
theorem c_times {sl:Nat}{us:Tok}{td:jQ}{x y:jL}{bs:List (Nat×Nat×Nat)}{cs:List Cd}
  (ht:Tup B td [x,y]) (hx:dE Bl B x bs) (hy:dE CdR B y cs) (hm:∀a:Int,IntMulOk a sl) (hb1:bs.length≤1000) (hb2:cs.length≤3000)
  (G:Gr w mg mb B) (hB:∀a o,B a=some o→s.heap.get? a=some o) (hr:Room A 3):
  jN (jM PW w) A (call (.ref 333) [.int sl us,.ref td]) (Ends B s fun v B'=>∃r x y,v=.ref r∧Tup B' r [x,y]∧dE Bl B' x (bs.map (sc sl))∧dE CdR B' y (cs.map (scC sl))) no s:=by
 injection ht hx hy hm hb1 hb2 G hB hr with w A s mg mb B sl us td x y bs cs
 refine' callFC (o:=o_333 w.params) (binds:=[(kY "scale",.int sl us),(kY "told",.ref td)])
  [(kY "told",.ref td)]
  [(kY "scale",some (.int sl us))] (ps:=["scale","told"]) G hB hr.d' ?ho ?hd ?hcd ?hb ?c1 ?c2 ?c3 ?c4 ?c5 ?c6 ?c7 ?c8 ?c9 ?_
 case ho=>exact rfl
 case hd=>exact rfl
 case hcd=>exact rfl
 case hb=>exact rfl
 case c1=>exact rfl
 case c9=>exact rfl
 case c2=>
  change ∀x∈([kY "scale",kY "told"]:List kJ),pB x _=some NameKind.local∨(pB x _=some NameKind.cell∧x∈([kY "scale"]:List kJ))
  decide
 case c3=>exact .cons rfl .nil
 case c4=>intro c;rfl
 case c5=>exact .cons rfl .nil
 case c6=>
  change ([kY "scale"]:List kJ).Nodup
  decide
 case c7=>exact rfl
 case c8=>exact rfl
 intro C h t oc e1 e2 hoc S e3 e4
 injection e1 e2 hoc S e3 e4 with C h t oc
 have oj:(oc "scale").data=.cell (some (.int sl us)):=hoc _ (kZ ..)
 change St C B h _ ([]++(C.L+1,oc "scale")::[]) at S
 generalize oc "scale"=oJ at S oj
 clear hoc
 have hh:=hr.h
 have hb0:=(S.m (C.L+1,oJ) (kZ ..)).2.2.2
 have S1:=St.keep (M₁:=[]) (M₂:=[]) S (e4.2 _)
 have lb:Le B (Base.put B (C.L+1) oJ):=aV _ hb0
 have hcl:(Base.put B (C.L+1) oJ) (C.L+1)=some oJ:=aM _ _ _
 generalize Base.put B (C.L+1) oJ=B1 at S1 lb hcl
 clear S
 have S:St C B1 h _ []:=S1
 clear S1
 generalize hEe:envX _ _ C.L _ _ _=env
 have hE:aP C env:=hEe▸⟨rfl,rfl,rfl,rfl⟩
 subst hEe
 refine jI2 ?_ hx;try clear hx;intro xa vx;refine jG3 ?_;intro zz1 hxl hxf;obtain rfl:=zz1
 refine jI2 ?_ hy;try clear hy;intro ya vy;refine jG3 ?_;intro zz2 hyl hyf;obtain rfl:=zz2
 replace ht:=ht.le lb
 replace G:=G.le lb
 replace hxl:=hxl.le lb
 replace hyl:=hyl.le lb
 replace hxf:=bE hxf lb
 replace hyf:=bS hyf lb
 have lx:=hxf.length
 have ly:=hyf.length
 refine fB (aA S hE (by exact rfl) ?_)
 refine fF S ht hh ?_;clear S;intro h S
 refine aL (aK (aD S hE ?_));clear S;intro h t S
 refine aL (aK (aD S hE ?_));clear S;intro h t S
 refine cK ?_
 replace S:=S.few (.cons (x:=kY "codes") rfl (.cons (x:=kY "blocks") rfl (.nil)))
 refine x_setc rfl rfl (by decide) ?_
 refine aA S hE (by exact rfl) ?_
 refine comp_listU S hyl hh (by rw[jZ];lia) (by decide) rfl (fun i y B=>∃c,cs[i]? =some c∧CdR B y (scC sl c)) (fun i y B B' l x=>x.elim fun c z=>⟨c,z.1,z.2.le l⟩) ?_ ?_ rfl hE
 ·intro k v C' B' h m' M' d t hi S le kept
  rename_i yy0;clear yy0;clear hb0 lb ht G hxl hyl hxf lx ly kept;injection oj hcl hyf hi S le with oJ B1 xa vx ya vy k v C' B' h m' M' d t
  generalize hEe:compEnvC _ _ C'.L _=env
  have hE':aP C' env:=hEe▸⟨rfl,rfl,rfl,rfl⟩
  subst hEe
  refine jI1 ?_ (hyf.get hi);intro c;refine jG2 ?_;intro hc hcd
  refine jI6 ?_ (hcd.le le);intro ca y0 y1 y2 y3 y4;refine jG2 ?_;intro zz3 htc;obtain rfl:=zz3
  replace hcl:=le _ _ hcl
  refine fF S htc hh ?_;clear S;intro h S
  refine aL (aK (dC S hE' ?_));clear S;intro h t S
  refine aL (aK (dC S hE' ?_));clear S;intro h t S
  refine aL (aK (dC S hE' ?_));clear S;intro h t S
  refine aL (aK (dC S hE' ?_));clear S;intro h t S
  refine aL (aK (dC S hE' ?_));clear S;intro h t S
  refine cK ?_
  replace S:=S.fewf (L':=[(kY "m",.int (c.2.2.2.2:Nat) y4),(kY "j",.int (c.2.2.2.1:Nat) y3),(kY "k",.int (c.2.2.1:Nat) y2),(kY "i",.int (c.2.1:Nat) y1),(kY "tag",.str c.1 y0)]) (.cons rfl (.cons rfl (.cons rfl (.cons rfl (.cons rfl .nil)))))
  refine bM (aB (aA S hE' (by exact rfl) ?_))
  refine aB (aG (aA S hE' (by exact rfl) ?_))
  refine fH S hE' hcl oj ?_
  refine cP (hm _) ?_;intro z1 _
  refine aB (aG (aA S hE' (by exact rfl) ?_))
  refine fH S hE' hcl oj ?_
  refine cP (hm _) ?_;intro z2 _
  refine aB (aG (aA S hE' (by exact rfl) ?_))
  refine fH S hE' hcl oj ?_
  refine cP (hm _) ?_;intro z3 _
  refine aB (aG (aA S hE' (by exact rfl) ?_))
  refine fH S hE' hcl oj ?_
  refine cP (hm _) ?_;intro z4 _
  refine aC (bL S (lF rfl) ?_);clear S;intro h a2 B'' le2 tp S
  exact jJ5 _ _ _ _ _ (jH3 rfl S ⟨c,⟨hc,jJ6 a2 y0 z1 z2 z3 z4 ⟨rfl,by unfold scC;dsimp only;rw[oN,oN,oN,oN];exact tp⟩⟩⟩)
 clear S
 intro h d t B2 a ys S le hla hyl2 hys
 clear hb0 lb ht hyl hyf;injection oj hcl G hxl hxf lx ly S le hla hyl2 hys with oJ B1 xa vx ya vy h d t B2 a ys
 replace G:=G.le le
 replace hcl:=le _ _ hcl
 replace hxl:=hxl.le le
 replace hxf:=bE hxf le
 have hcds:F2 (CdR B2) ys (cs.map (scC sl)):=eO (by lia) hys
 replace S:=S.var
 refine cN (bM (aB (gS rfl rfl (by decide) ?_)))
 refine aA S hE (by exact rfl) ?_
 refine comp_listT S hxl hh (by rw[jZ];lia) (by decide) rfl (fun i y B=>∃c,bs[i]? =some c∧Bl B y (sc sl c)) (fun i y B B' l x=>x.elim fun c z=>⟨c,z.1,z.2.le l⟩) ?_ ?_
 ·intro k v C' B' h m' M' d t hi S le kept
  clear kept;injection hi S le with k v C' B' h m' M' d t
  generalize hEe:compEnvC _ _ C'.L _=env
  have hE':aP C' env:=hEe▸⟨rfl,rfl,rfl,rfl⟩
  subst hEe
  refine jI1 ?_ (hxf.get hi);intro c;refine jG2 ?_;intro hc hcd
  refine jI4 ?_ (hcd.le le);intro ca y1 y2 y3;refine jG2 ?_;intro zz4 htc;obtain rfl:=zz4
  replace hcl:=le _ _ hcl
  refine fF S htc hh ?_;clear S;intro h S
  refine aL (aK (dC S hE' ?_));clear S;intro h t S
  refine aL (aK (dC S hE' ?_));clear S;intro h t S
  refine aL (aK (dC S hE' ?_));clear S;intro h t S
  refine cK ?_
  replace S:=S.fewf (L':=[(kY "size",.int (c.2.2:Nat) y3),(kY "j",.int (c.2.1:Nat) y2),(kY "i",.int (c.1:Nat) y1)]) (.cons rfl (.cons rfl (.cons rfl .nil)))
  refine bM (aB (aG (aA S hE' (by exact rfl) ?_)))
  refine fH S hE' hcl oj ?_
  refine cP (hm _) ?_;intro z1 _
  refine aB (aG (aA S hE' (by exact rfl) ?_))
  refine fH S hE' hcl oj ?_
  refine cP (hm _) ?_;intro z2 _
  refine aB (aG (aA S hE' (by exact rfl) ?_))
  refine fH S hE' hcl oj ?_
  refine cP (hm _) ?_;intro z3 _
  refine aC (bL S (lF rfl) ?_);clear S;intro h a2 B'' le2 tp S
  exact jJ5 _ _ _ _ _ (jH3 rfl S ⟨c,⟨hc,jJ4 a2 z1 z2 z3 ⟨rfl,by unfold sc;dsimp only;rw[oN,oN,oN];exact tp⟩⟩⟩)
 clear S
 intro h d t B3 a3 ys3 S le hla3 hyl3 hys3
 injection S le hla3 hyl3 hys3 with h d t B3 a3 ys3
 have hbls:F2 (Bl B3) ys3 (bs.map (sc sl)):=eO (by lia) hys3
 refine aB (aA S hE (by exact rfl) ?_)
 refine aC (bL S (lF rfl) ?_);clear S;intro h tt B4 le4 htt S
 exact S.ends e1 e2 e3 e4 (jJ3 tt _ _ (jH4 rfl htt (jJ2 a3 ys3 (jH3 rfl (hla3.le le4) (bE hbls le4))) (jJ2 a ys (jH3 rfl ((hla.le le).le le4) (bS (bS hcds le) le4)))))
end
theorem f2_flat {f:Nat→List Nat}{zss:List (List jL)}{ks:List Nat}(hl:zss.length=ks.length)(h:∀(i:Nat) (zs:List jL),zss[i]? =some zs→∃k,ks[i]? =some k∧F2 NV zs (f k)):F2 NV zss.flatten (ks.flatMap f):=by
 induction zss generalizing ks with
 | nil=>cases ks with
  | nil=>exact .nil
  | cons k r=>simp at hl
 | cons z r ih=>cases ks with
  | nil=>simp at hl
  | cons k ks=>
   rw[List.flatten_cons,mO]
   refine jI1 ?_ (h 0 z rfl);intro k';refine jG2 ?_;intro h1 h2
   simp at h1;subst h1
   exact h2.append (ih (by simpa using hl) fun i zs hz=>by simpa using h (i+1) zs (by simpa using hz))
theorem nv_ints {vs:List jL}{ns:List Nat}(h:IntsAre vs (ns.map fun n:Nat=>(n:Int))):F2 NV vs ns:=by
 have:=ints_get h
 refine F2.of_get (by rw[this.length,lZ]) fun i v n h1 h2=>?_
 refine jI1 ?_ (this.get h1);intro x;refine jG2 ?_;intro h3;refine jI1 ?_;intro t;intro zz1;obtain rfl:=zz1
 rw[oZ,h2] at h3
 cases h3;exact⟨t,rfl⟩
theorem strs_of {vs:List jL}{ys:List kJ}(h:F2 (fun v y=>∃t,v=.str y t) vs ys):StrsAre vs ys:=by
 induction h with
 | nil=>exact .nil
 | cons x _ ih=>obtain⟨t,rfl⟩:=x;exact .cons _ t ih
theorem join_eq {f:Nat→kJ}{s:Nat→List Nat}{ks:List Nat}(h:∀k∈ks,(f k).cps.toList=s k):Txt.join (kY "") (ks.map f)=⟨(ks.flatMap s).toArray⟩:=by
 apply Str.ext'
 apply Array.ext'
 rw[join_flat,List.flatMap_map]
 show _=(ks.flatMap s)
 induction ks with
 | nil=>rfl
 | cons k r ih=>rw[mO,mO,ih (fun x hx=>h x (lX _ hx)),h k (kZ ..)]
theorem fG {f:Nat→List Nat}{n:Nat}{ks:List Nat}(h:∀k∈ks,(f k).length=n):(ks.flatMap f).length=n*ks.length:=by
 induction ks with
 | nil=>simp
 | cons k r ih=>rw[mO,lR,ih (fun x hx=>h x (lX _ hx)),h k (kZ ..),qD,Nat.mul_add];lia
section
variable {w:jS}{A:jV}{C:Cx}{m mg mb:kJ→Option jL}{B:Base}{M:List (jQ×kK)}
 {h:kI} {g:Array jX} {d:kU} {t:Nat} {os:jU} {env:Env} {Q:jL→jP→Prop} {E:jL→jP→Prop}
theorem e_slice {lo hi:Expr}{p:kW}
  (k:jN (jM PW w) A (eval lo env) (fun l s₁=>jN (jM PW w) A (eval hi env) (fun u s₂=>jN (jM PW w) A (newFields "slice" [l,u,.none]) Q E s₂) E s₁) E ⟨h,g,d,t,os⟩):
  jN (jM PW w) A (eval (.Slice (some lo) (some hi) none p) env) Q E ⟨h,g,d,t,os⟩:=by
 rw[arm_eval_Slice]
 refine jK ?_
 show jN _ _ (eval lo env) _ _ _
 refine jR k (fun l s₁ h₁=>jK (kB ?_)) fun _ _ z=>z
 show jN _ _ (eval hi env) _ _ _
 refine jR h₁ (fun u s₂ h₂=>jK (kB ?_)) fun _ _ z=>z
 exact jO h₂
theorem r_slc {value slice:Expr}{x:kJ}{tx:Tok}{i j:Int}{ui uj:Tok}(S:St C B h m M)(hsz:x.length≤kC)(k:∀h' u' t',St C B h' m M→Q (.str (Txt.slice x (some i) (some j)) u') ⟨h',g,d,t',os⟩)
  (hs:autoParam (∀a:jQ,subscripted slice false (.str x tx) (.ref a)=operate [.ref a,.str x tx] (getItem (.str x tx) (.ref a))) tW)
  (ht:autoParam (∀r,letTemporaryGo value (.str x tx) r=pure ()) tW):
  jN (jM PW w) A (newFields "slice" [.int i ui,.int j uj,.none]) (fun v s₂=>jN (jM PW w) A (subscriptTail value slice (.str x tx) v) Q E s₂) E ⟨h,g,d,t,os⟩:=
 kP (tail_of_ItemOn (SBH.sliceItem_ss (s:=⟨h,g,d,t,os⟩) (P:=fun h'=>St C B h' m M) (fun h ob S=>S.kp (Kp.push h ob)) S (fun h' t' k' S'=>k h' t' k' S') hsz) (hs _) ht)
end
section
variable {w:jS}{A:jV}{s:jP}{mg mb:kJ→Option jL}{B:Base}
theorem c_written {a:jQ}{vs:List jL}{ks:List Nat}(hl:Lst B a vs)(hk:F2 (fun v k=>El false k v) vs ks)(h8:∀k∈ks,k<8)(hne:ks≠[])(hsz:ks.length≤60)
  (G:Gr w mg mb B) (hB:∀a o,B a=some o→s.heap.get? a=some o) (hr:Room A 8):
  jN (jM PW w) A (call (.ref 304) [.ref a]) (Ends B s fun v B'=>∃r l1 l2 t1 t2 t3 t4,v=.ref r∧Tup B' r [.ref l1,.ref l2]∧Lst B' l1 [.str (⟨(ks.flatMap s16).toArray⟩:kJ) t1,.str (⟨(ks.flatMap s64).toArray⟩:kJ) t2]∧Lst B' l2 [.str (⟨(ks.flatMap s16).toArray⟩:kJ) t3,.str (⟨(ks.flatMap s64).toArray⟩:kJ) t4]) no s:=by
 refine' eP (o:=o_304 w.params) (binds:=[(kY "row",.ref a)]) G hB hr.d' ?ho ?hd ?hcd ?hb ?c1 ?c2 ?c3 ?c4 ?c5 ?_
 case ho=>exact rfl
 case hd=>exact rfl
 case hcd=>exact rfl
 case hb=>exact BindsTo.of_eq rfl
 case c1=>decide
 case c2=>exact locs rfl
 case c3=>exact rfl
 case c4=>exact rfl
 case c5=>exact rfl
 intro C h t e1 e2 S e3 e4
 have hh:=hr.h
 generalize hEe:envX _ _ C.L _ _ []=env
 have hE:aP C env:=hEe▸⟨rfl,rfl,rfl,rfl⟩
 subst hEe
 change St C B h (vars [(kY "row",.ref a)]) [] at S
 clear hB;injection hl hk h8 hne hsz G hr e1 e2 e3 e4 hh hE S with w A s mg mb B a vs ks C h t
 have hlen:=hk.length
 have hin:∀{i:Nat} {v:jL},vs[i]? =some v→∃k u,ks[i]? =some k∧k<8∧v=.int (k:Nat) u:=fun hv=>by
  refine jI1 ?_ (hk.get hv);intro k;refine jG2 ?_;intro h1;refine jI1 ?_;intro u;intro zz2;obtain rfl:=zz2
  exact jJ2 k u (jH3 h1 (h8 k (qB h1)) rfl)
 refine aY (aR (dY S hE G (glob_b16 _) ?_))
 refine cZ (o:=o_292 w.params) rfl ?_
 refine aB (aR (cM (v:=.type "bytes") S hE G (eV _) rfl ?_))
 refine dX (aB (gS rfl rfl (by decide) ?_))
 refine aA S hE (by exact rfl) ?_
 refine fO S hl hh (by rw[jZ];lia) (by decide) rfl (fun i y B=>∃k,ks[i]? =some k∧∃t,y=.int (17*(k:Nat)+8) t) (fun i y B B' l x=>x) ?_ ?_
 ·intro i v C' B' h m' M' d t hi S le kept
  clear le kept;injection hi S with i v C' B' h m' M' d t
  generalize hEe:compEnvC _ _ C'.L _=env
  have hE':aP C' env:=hEe▸⟨rfl,rfl,rfl,rfl⟩
  subst hEe
  refine jI2 ?_ (hin hi);intro k u;refine jG3 ?_;intro hk1 hk8 zz3;obtain rfl:=zz3
  refine aK (dC S hE' ?_);clear S;intro h t S
  replace S:=S.fewf (L':=[(kY "letter",.int (k:Nat) u)]) (.cons rfl .nil)
  refine aG (aG (aF ?_));intro q1 _
  refine aA S hE' (by exact rfl) ?_
  refine cP (by mul_fits) ?_;intro q2 _
  refine aF ?_;intro q3 _
  refine aX ?_;intro q4 _
  exact jJ5 _ _ _ _ _ (jH3 rfl S ⟨k,⟨hk1,⟨q4,rfl⟩⟩⟩)
 clear S
 intro h d t B1 a1 ys1 S le hl1 hyl1 hys1
 injection S le hl1 hyl1 hys1 with h d t B1 a1 ys1
 replace G:=G.le le
 replace hl:=hl.le le
 have hi1:IntsAre ys1 (ks.map fun k:Nat=>(17*(k:Nat)+8:Int)):=get_ints (eO (by lia) hys1)
 refine aC (call_bytes_ints (s:=⟨h,s.gens,d,_,s.os⟩) (hl1.at S) hi1 (fun n hn=>?_) (by rw[jZ];lia) hh (fun h' tb k' hk'=>?_))
 ·refine jI1 ?_ (mC.1 hn);intro k;refine jG2 ?_;intro hk2 zz4;obtain rfl:=zz4
  have:=h8 k hk2
  lia
 replace S:=S.kp ⟨hk'⟩
 clear hk' hl1 hys1 hyl1
 refine aC ?_
 have hbs:(by16 ks).size=ks.length:=by rw[byteArr_size,lZ]
 refine⟨S.b _ _ (G.K _ _ rfl),use S (c_b16 (b:=by16 ks) (by lia) (hexc_lt _) (by rw[hexc_size];lia) G S.b (hr.deeper.le (by decide))) ?_⟩
 clear S
 rintro _ h d t B2 S le ⟨ub,rfl⟩
 replace G:=G.le le
 replace hl:=hl.le le
 have et:(((hexc (by16 ks)).map fun c=>c.toUInt8).toList.map Builtin.Bytes.toUpper)=tx16 (by16 ks):=rfl
 rw[et]
 refine aD S hE ?_;clear S;intro h t S
 refine aY (aR (dY S hE G (glob_b64 _) ?_))
 refine cZ (o:=o_285 w.params) rfl ?_
 refine aB (aR (cM (v:=.type "bytes") S hE G (eV _) rfl ?_))
 refine dX (aB (e_comp2 rfl rfl (by decide) ?_))
 refine aA S hE (by exact rfl) ?_
 refine comp_list2 S hl hh (by lia) (by decide) rfl (fun i zs B=>∃k,ks[i]? =some k∧F2 NV zs (octN k)) (fun i y B B' l x=>x) ?_ ?_
 ·intro i v C' B' h m' ys c ac d t hi hyl S le
  rename_i yy0 _ _ yy1;clear yy1 yy0;clear hl;injection G hi hyl S le with B2 i v C' B' h m' ys c ac d t
  generalize hEe:compEnvC _ _ C'.L _=env
  have hE':aP C' env:=hEe▸⟨rfl,rfl,rfl,rfl⟩
  subst hEe
  refine jI2 ?_ (hin hi);intro k u;refine jG3 ?_;intro hk1 hk8 zz5;obtain rfl:=zz5
  replace G:=G.le le
  refine aK (dC S hE' ?_);clear S;intro h t S
  replace S:=S.fewf (L':=[(kY "letter",.int (k:Nat) u)]) (.cons rfl .nil)
  refine aR (dY S hE' G (glob_oct _) ?_)
  refine cZ (o:=o_299 w.params) rfl ?_
  refine aB (aA S hE' (by exact rfl) ?_)
  refine aC ?_
  refine⟨S.b _ _ (G.K _ _ rfl),use S (c_octets (by lia) (by lia) G S.b hr.deeper.d') ?_⟩
  clear S
  intro _ h d t B3 S le3;refine jI2 ?_;intro la vo;refine jG3 ?_;intro zz6 hlo hio;obtain rfl:=zz6
  clear hi le3;injection hk1 hk8 S hlo hio with k u h d t B3 la vo
  rw[oct_cast k hk8] at hio
  have hno:=nv_ints hio
  have hol:vo.length=3:=by rw[hno.length];rfl
  refine cin_list S hlo hh (by rw[jZ];lia) (fun i y B=>∃n,(octN k)[i]? =some n∧NV y n) (fun i y B B' l x=>x) ?_ ?_
  ·intro j v C2 B4 h m2 M2 d t hj S eL l
   clear l;injection hj S eL with j v C2 B4 h m2 M2 d t
   have hE2:aP C2 _:=⟨hE'.k,hE'.l.trans eL.symm,hE'.g,hE'.b⟩
   refine jI1 ?_ (hno.get hj);intro n;refine jG2 ?_;intro hn hv
   refine aK (dC S hE2 ?_);clear S;intro h t S
   replace S:=S.fewf (L':=[(kY "octet",v)]) (.cons rfl .nil)
   refine aA S hE2 (by exact rfl) ?_
   exact jJ5 _ _ _ _ _ (jH3 rfl S ⟨n,⟨hn,hv⟩⟩)
  ·intro h d t B4 m2 zs c2 S l hzl hzs
   clear l;injection S hzl hzs with h d t B4 m2 zs c2
   refine⟨rfl,jJ7 h d t B4 m2 zs c2 (jH4 rfl S (by lia) ⟨k,⟨hk1,F2.of_get (by rw[hzl,hol];rfl) fun i y n h1 h2=>?_⟩⟩)⟩
   refine jI1 ?_ (hzs i y h1);intro n';refine jG2 ?_;intro h3 h4
   rw[h2] at h3;cases h3;exact h4
 clear S
 intro h d t B3 a3 zss S le hl3 hzl hzs
 rename_i yy0 _ _;clear yy0;injection G hl S le hl3 hzl hzs with B2 ub h d t B3 a3 zss
 replace G:=G.le le
 replace hl:=hl.le le
 have hnv:F2 NV zss.flatten (ks.flatMap octN):=f2_flat (by lia) hzs
 have hi3:=ints_nv hnv
 have holt:∀n∈ks.flatMap octN,n<256:=fun n hn=>by
  refine jI1 ?_ (nV.1 hn);intro k;refine jG2 ?_;intro hk2 hn
  exact oct_lt k (h8 k hk2) n hn
 have hfl:(ks.flatMap octN).length=3*ks.length:=fG fun k _=>rfl
 have hfv:=hnv.length
 refine aC (call_bytes_ints (s:=⟨h,s.gens,d,_,s.os⟩) (hl3.at S) hi3 (fun n hn=>?_) (by rw[jZ];lia) hh (fun h' tb k' hk'=>?_))
 ·refine jI1 ?_ (mC.1 hn);intro k;refine jG2 ?_;intro hk2 zz7;obtain rfl:=zz7
  have:=holt k hk2
  lia
 replace S:=S.kp ⟨hk'⟩
 clear hk'
 refine aC (jI1 ?_ (brun_oct ks h8));intro lc;refine jG2 ?_;intro _ hbr
 have hbn:=hU (ks.flatMap octN) holt
 have hbs2:(byteArr ((ks.flatMap octN).map fun n:Nat=>(n:Int))).size=3*ks.length:=by rw[byteArr_size,lZ,hfl]
 have hs64:∀c∈ks.flatMap s64,c<128:=fun c hc=>by
  refine jI1 ?_ (nV.1 hc);intro k;refine jG2 ?_;intro hk2 hc
  exact s64_lt k (h8 k hk2) c hc
 generalize byteArr ((ks.flatMap octN).map fun n:Nat=>(n:Int))=b3 at hbn hbs2⊢
 refine⟨S.b _ _ (G.K _ _ rfl),use S (c_b64 (b:=b3) (by lia) (by rw[hbn,hbr]) (by rw[hbn,hbr];exact fun c hc=>by have:=hs64 c hc;lia) G S.b (hr.deeper.le (by decide))) ?_⟩
 clear S
 rintro _ h d t B4 S le ⟨ub2,rfl⟩
 rw[hbn,hbr]
 replace G:=G.le le
 replace hl:=hl.le le
 refine aD S hE ?_;clear S;intro h t S
 refine aY (aU (bW ?_));intro ue _
 refine GM.join ?_
 refine dI (aB (gS rfl rfl (by decide) ?_))
 refine aA S hE (by exact rfl) ?_
 refine fO S hl hh (by rw[jZ];lia) (by decide) rfl (fun i y B=>∃k,ks[i]? =some k∧∃t,y=.str (Txt.slice T16 (some (2*(k:Nat))) (some (2*(k:Nat)+2))) t) (fun i y B B' l x=>x) ?_ ?_
 ·intro i v C' B' h m' M' d t hi S le kept
  rename_i yy0 _ _ _ yy1 _ _ yy2 _;clear yy2 yy1 yy0;clear hbr hbn hbs2 G hl le kept;injection hi S with lc b3 B4 i v C' B' h m' M' d t
  generalize hEe:compEnvC _ _ C'.L _=env
  have hE':aP C' env:=hEe▸⟨rfl,rfl,rfl,rfl⟩
  subst hEe
  refine jI2 ?_ (hin hi);intro k u;refine jG3 ?_;intro hk1 hk8 zz8;obtain rfl:=zz8
  refine aK (dC S hE' ?_);clear S;intro h t S
  replace S:=S.fewf (L':=[(kY "letter",.int (k:Nat) u)]) (.cons rfl .nil)
  refine bJ (bW ?_);intro us _
  refine e_slice (aG (aF ?_));intro q1 _
  refine aA S hE' (by exact rfl) ?_
  refine cP (by mul_fits) ?_;intro q2 _
  refine aG (aG (aF ?_));intro q3 _
  refine aA S hE' (by exact rfl) ?_
  refine cP (by mul_fits) ?_;intro q4 _
  refine aF ?_;intro q5 _
  refine aX ?_;intro q6 _
  refine r_slc S (by decide) ?_;clear S;intro h u' t S
  exact jJ5 _ _ _ _ _ (jH3 rfl S ⟨k,⟨hk1,⟨u',rfl⟩⟩⟩)
 clear S
 intro h d t B5 a5 ys5 S le hl5 hyl5 hys5
 rename_i yy0 _ _ _ yy1 _ _ _;clear yy1 yy0;clear hbr hbn hbs2;injection G hl S le hl5 hyl5 hys5 with lc b3 B4 ub2 ue h d t B5 a5 ys5
 replace G:=G.le le
 replace hl:=hl.le le
 have hst5:=strs_of (eO (f:=fun k:Nat=>Txt.slice T16 (some (2*(k:Nat))) (some (2*(k:Nat)+2))) (R:=fun v y=>∃t,v=.str y t) (ys:=ys5) (xs:=ks) (by lia) hys5)
 have hj5:=join_eq (ks:=ks) (f:=fun k:Nat=>Txt.slice T16 (some (2*(k:Nat))) (some (2*(k:Nat)+2))) (s:=s16) fun k hk2=>slc16 k (h8 k hk2)
 refine aC (join_list (s:=⟨h,s.gens,d,_,s.os⟩) (hl5.at S) hst5 ?_ ?_)
 ·rw[nP,lZ]
  have:(ks.map ((fun y:kJ=>y.length) ∘ fun k:Nat=>Txt.slice T16 (some (2*(k:Nat))) (some (2*(k:Nat)+2)))).sum=(ks.flatMap s16).length:=by
   have hq:∀k∈ks,(Txt.slice T16 (some (2*(k:Nat))) (some (2*(k:Nat)+2))).length=(s16 k).length:=fun k hk2=>by
    rw[←slc16 k (h8 k hk2)];simp[oG]
   rw[List.length_flatMap]
   congr 1
   exact qV fun k hk2=>hq k hk2
  rw[this,fG fun k hk2=>iC k (h8 k hk2)]
  have:(kY "").length=0:=by decide
  rw[this];lia
 intro u5 t
 rw[hj5]
 refine aD S hE ?_;clear S;intro h t S
 refine aY (aU (bW ?_));intro ue2 _
 refine GM.join ?_
 refine dI (aB (gS rfl rfl (by decide) ?_))
 refine aA S hE (by exact rfl) ?_
 refine fO S hl hh (by rw[jZ];lia) (by decide) rfl (fun i y B=>∃k,ks[i]? =some k∧∃t,y=.str (Txt.slice T64 (some (4*(k:Nat))) (some (4*(k:Nat)+4))) t) (fun i y B B' l x=>x) ?_ ?_
 ·intro i v C' B' h m' M' d t hi S le kept
  clear le kept;injection hi S with i v C' B' h m' M' d t
  generalize hEe:compEnvC _ _ C'.L _=env
  have hE':aP C' env:=hEe▸⟨rfl,rfl,rfl,rfl⟩
  subst hEe
  refine jI2 ?_ (hin hi);intro k u;refine jG3 ?_;intro hk1 hk8 zz9;obtain rfl:=zz9
  refine aK (dC S hE' ?_);clear S;intro h t S
  replace S:=S.fewf (L':=[(kY "letter",.int (k:Nat) u)]) (.cons rfl .nil)
  refine bJ (bW ?_);intro us _
  refine e_slice (aG (aF ?_));intro q1 _
  refine aA S hE' (by exact rfl) ?_
  refine cP (by mul_fits) ?_;intro q2 _
  refine aG (aG (aF ?_));intro q3 _
  refine aA S hE' (by exact rfl) ?_
  refine cP (by mul_fits) ?_;intro q4 _
  refine aF ?_;intro q5 _
  refine aX ?_;intro q6 _
  refine r_slc S (by decide) ?_;clear S;intro h u' t S
  exact jJ5 _ _ _ _ _ (jH3 rfl S ⟨k,⟨hk1,⟨u',rfl⟩⟩⟩)
 clear S
 intro h d t B6 a6 ys6 S le hl6 hyl6 hys6
 injection S le hl6 hyl6 hys6 with u5 ue2 h d t B6 a6 ys6
 replace G:=G.le le
 have hst6:=strs_of (eO (f:=fun k:Nat=>Txt.slice T64 (some (4*(k:Nat))) (some (4*(k:Nat)+4))) (R:=fun v y=>∃t,v=.str y t) (ys:=ys6) (xs:=ks) (by lia) hys6)
 have hj6:=join_eq (ks:=ks) (f:=fun k:Nat=>Txt.slice T64 (some (4*(k:Nat))) (some (4*(k:Nat)+4))) (s:=s64) fun k hk2=>slc64 k (h8 k hk2)
 refine aC (join_list (s:=⟨h,s.gens,d,_,s.os⟩) (hl6.at S) hst6 ?_ ?_)
 ·rw[nP,lZ]
  have:(ks.map ((fun y:kJ=>y.length) ∘ fun k:Nat=>Txt.slice T64 (some (4*(k:Nat))) (some (4*(k:Nat)+4)))).sum=(ks.flatMap s64).length:=by
   have hq:∀k∈ks,(Txt.slice T64 (some (4*(k:Nat))) (some (4*(k:Nat)+4))).length=(s64 k).length:=fun k hk2=>by
    rw[←slc64 k (h8 k hk2)];simp[oG]
   rw[List.length_flatMap]
   congr 1
   exact qV fun k hk2=>hq k hk2
  rw[this,fG fun k hk2=>iB k (h8 k hk2)]
  have:(kY "").length=0:=by decide
  rw[this];lia
 intro u6 t
 rw[hj6]
 refine aD S hE ?_;clear S;intro h t S
 replace S:=S.few (.cons (x:=kY "due_64") rfl (.cons (x:=kY "due_16") rfl (.cons (x:=kY "by_64") rfl (.cons (x:=kY "by_16") rfl (.nil)))))
 have h16:=tx16_eq ks h8
 have hs16:∀c∈ks.flatMap s16,c<128:=fun c hc=>by
  refine jI1 ?_ (nV.1 hc);intro k;refine jG2 ?_;intro hk2 hc
  exact s16_lt k (h8 k hk2) c hc
 have hpos:0<ks.length:=List.length_pos_iff.2 hne
 have hl16:(tx16 (by16 ks)).length=2*ks.length:=by rw[←lZ (f:=fun c:UInt8=>c.toNat),h16,fG fun k hk2=>iC k (h8 k hk2)]
 have hl64:(ks.flatMap s64).length=4*ks.length:=fG fun k hk2=>iB k (h8 k hk2)
 generalize tx16 (by16 ks)=l16 at h16 hl16 S
 obtain⟨c1,cs1,rfl⟩:∃c cs,l16=c::cs:=by
  cases l16 with
  | nil=>simp at hl16;lia
  | cons c cs=>exact jJ2 c cs rfl
 have h64:=hU (ks.flatMap s64) (fun n hn=>by have:=hs64 n hn;lia)
 have hb64:byteArr ((ks.flatMap s64).map fun n:Nat=>(n:Int))=(byteArr ((ks.flatMap s64).map fun n:Nat=>(n:Int))).toList.toArray:=by simp
 rw[hb64] at S
 generalize (byteArr ((ks.flatMap s64).map fun n:Nat=>(n:Int))).toList=l64 at h64 S
 have hl64':l64.length=4*ks.length:=by rw[←lZ (f:=fun c:UInt8=>c.toNat),h64,hl64]
 obtain⟨c2,cs2,rfl⟩:∃c cs,l64=c::cs:=by
  cases l64 with
  | nil=>simp at hl64';lia
  | cons c cs=>exact jJ2 c cs rfl
 refine cN (bM (aB (bA (aB (aU (aA S hE (by exact rfl) ?_))))))
 refine gm_dec (dI (aB (bW ?_)));intro ud _
 refine aC (n_dec (fun x hx=>?_) (by rw[hl16,jZ];lia) ?_)
 ·have:x.toNat∈(c1::cs1).map fun c:UInt8=>c.toNat:=mF hx
  rw[h16] at this
  exact hs16 _ this
 intro ux1 _
 rw[h16]
 refine aB (aU (aA S hE (by exact rfl) ?_))
 refine gm_dec (dI (aB (bW ?_)));intro ud2 _
 refine aC (n_dec (fun x hx=>?_) (by rw[hl64',jZ];lia) ?_)
 ·have:x.toNat∈(c2::cs2).map fun c:UInt8=>c.toNat:=mF hx
  rw[h64] at this
  exact hs64 _ this
 intro ux2 _
 rw[h64]
 refine aC (cD S (lF rfl) ?_);clear S;intro h al1 B7 le7 htl1 S
 refine aB (bA (aB (aA S hE (by exact rfl) ?_)))
 refine aB (aA S hE (by exact rfl) ?_)
 refine aC (cD S (lF rfl) ?_);clear S;intro h al2 B8 le8 htl2 S
 refine aC (bL S (lF rfl) ?_);clear S;intro h tt B9 le9 htt S
 exact S.ends e1 e2 e3 e4 (jJ7 tt al1 al2 _ _ _ _ (jH4 rfl htt ((htl1.le le8).le le9) (htl2.le le9)))
end
noncomputable def eqI (one other:List Int)(i j:Nat):Bool:=one.getD i 0==other.getD j 0
noncomputable def jkI (one junk:List Int)(i:Nat):Bool:=junk.contains (one.getD i 0)
section
variable {w:jS}{A:jV}{s:jP}{mg mb:kJ→Option jL}{B:Base}
theorem c_block {a b jn:jQ}{va vb vj:List jL}{one other junk:List Int}{low high left right:Nat}{u1 u2 u3 u4:Tok}
  (ha:Lst B a va) (hb:Lst B b vb) (hj:Lst B jn vj) (ia:IntsAre va one) (ib:IntsAre vb other) (ij:IntsAre vj junk)
  (hlh:high≤one.length) (hlr:right≤other.length) (hs1:one.length≤1000) (hs2:other.length≤1000) (hl1:low≤high) (hl2:left≤right)
  (G:Gr w mg mb B) (hB:∀a o,B a=some o→s.heap.get? a=some o) (hroom:A.depth<recursionLimit) (hh:A.handled=none):
  jN (jM PW w) A (call (.ref 311) [.ref a,.ref b,.int low u1,.int high u2,.int left u3,.int right u4,.ref jn]) (Ends B s fun v B'=>∃r x1 x2 x3,v=.ref r∧let c:=bZ (eqI one other) (jkI one junk) low high left right;Tup B' r [.int c.1 x1,.int c.2.1 x2,.int c.2.2 x3]) no s:=by
 refine' eP (o:=o_311 w.params) (binds:=[(kY "one",.ref a),(kY "other",.ref b),(kY "low",.int low u1),(kY "high",.int high u2),(kY "left",.int left u3),(kY "right",.int right u4),(kY "junk",.ref jn)]) G hB hroom ?ho ?hd ?hcd ?hb ?c1 ?c2 ?c3 ?c4 ?c5 ?_
 case ho=>exact rfl
 case hd=>exact rfl
 case hcd=>exact rfl
 case hb=>exact BindsTo.of_eq rfl
 case c1=>decide
 case c2=>exact locs rfl
 case c3=>exact rfl
 case c4=>exact rfl
 case c5=>exact rfl
 intro C h t e1 e2 S e3 e4
 generalize hEe:envX _ _ C.L _ _ []=env
 have hE:aP C env:=hEe▸⟨rfl,rfl,rfl,rfl⟩
 subst hEe
 change St C B h (vars [(kY "junk",.ref jn),(kY "right",.int right u4),(kY "left",.int left u3),(kY "high",.int high u2),(kY "low",.int low u1),(kY "other",.ref b),(kY "one",.ref a)]) [] at S
 clear hB hroom;injection ha hb hj ia ib ij hlh hlr hs1 hs2 hl1 hl2 G hh e1 e2 e3 e4 hE S with w A s mg mb B a b jn va vb vj one other junk low high left right u1 u2 u3 u4 C h t
 refine aY (bM (aB (aA S hE (by exact rfl) ?_)))
 refine aB (aA S hE (by exact rfl) ?_)
 refine aB (aF ?_);intro uu1 _
 refine aC (bL S (lF rfl) ?_);clear S;intro h aa2 B' le t2 S
 replace G:=G.le le
 replace ha:=ha.le le
 replace hb:=hb.le le
 replace hj:=hj.le le
 refine aD S hE ?_;clear S;intro h t S
 refine eD (aR (cM (v:=.type "range") S hE G (dW _) rfl ?_))
 refine dX (aB (aA S hE (by exact rfl) ?_))
 refine aB (aA S hE (by exact rfl) ?_)
 refine aC (n_rng2 S ?_);clear S;intro h t rr3 B' le t3 S
 replace G:=G.le le
 replace ha:=ha.le le
 replace hb:=hb.le le
 replace hj:=hj.le le
 replace t2:=t2.le le
 refine eW S t3 (by unfold Sm;lia) (by unfold Sm;lia) hh (fun i B' m' M'=>M'=[]∧∃bt u5 u6 u7 bs,m'=vars [(kY "best",.ref bt),(kY "junk",.ref jn),(kY "right",.int right u4),(kY "left",.int left u3),(kY "high",.int high u2),(kY "low",.int low u1),(kY "other",.ref b),(kY "one",.ref a)]∧Tup B' bt [.int (bs.1:Nat) u5,.int (bs.2.1:Nat) u6,.int (bs.2.2:Nat) u7]∧bF (runL (eqI one other) (jkI one junk) high right) (fun i' j'=>full low (low+i) left right i' j') low left bs) ?_ ?_ ?_
 case refine_1=>exact⟨rfl,jJ5 _ _ _ _ (low,left,0) (jH3 rfl t2 ⟨fun _=>⟨rfl,rfl⟩,fun e=>absurd rfl e,fun i j d=>by unfold full at d;lia,fun i j d=>by unfold full at d;lia⟩)⟩
 case refine_2=>
  intro i u C' B' h m' M' d t hi;refine jG2 ?_;intro zz1;refine jI5 ?_;intro bt u5 u6 u7 bb;refine jG3 ?_;intro zz2 t2 hbest;obtain rfl:=zz1;obtain rfl:=zz2;intro S;rintro⟨eL,eB⟩;intro le
  rename_i yy0 yy1 yy2 yy3;clear yy3 yy2 yy1;clear t3 hi eB;injection G ha hb hj t2 hbest S eL le with rr3 yy0 i u C' B' h d t bt u5 u6 u7 bb
  have hE':aP C' _:=⟨hE.k,hE.l.trans eL.symm,hE.g,hE.b⟩
  replace G:=G.le le
  replace ha:=ha.le le
  replace hb:=hb.le le
  replace hj:=hj.le le
  refine aK (aD S hE' ?_);clear S;intro h t S
  refine eD (aR (cM (v:=.type "range") S hE' G (dW _) rfl ?_))
  refine dX (aB (aA S hE' (by exact rfl) ?_))
  refine aB (aA S hE' (by exact rfl) ?_)
  refine aC (n_rng2 S ?_);clear S;intro h t rr4 B' le t4 S
  replace G:=G.le le
  replace ha:=ha.le le
  replace hb:=hb.le le
  replace hj:=hj.le le
  replace t2:=t2.le le
  refine eW S t4 (by unfold Sm;lia) (by unfold Sm;lia) hh (fun j B' m' M'=>M'=[]∧∃bt u5 u6 u7 bs,m'=vars [(kY "i",.int (low+i) u),(kY "best",.ref bt),(kY "junk",.ref jn),(kY "right",.int right u4),(kY "left",.int left u3),(kY "high",.int high u2),(kY "low",.int low u1),(kY "other",.ref b),(kY "one",.ref a)]∧Tup B' bt [.int (bs.1:Nat) u5,.int (bs.2.1:Nat) u6,.int (bs.2.2:Nat) u7]∧bF (runL (eqI one other) (jkI one junk) high right) (fun i' j'=>full low (low+i) left right i' j'∨(i'=low+i∧left≤j'∧j'<left+j)) low left bs) ?_ ?_ ?_
  case refine_1=>exact⟨rfl,jJ5 bt u5 u6 u7 bb (jH3 rfl t2 (hbest.congr fun i' j'=>by unfold full;exact ar_12))⟩
  case refine_2=>
   intro j v C2 B' h m' M' d t hj2;refine jG2 ?_;intro zz3;refine jI5 ?_;intro bt u5 u6 u7 bb;refine jG3 ?_;intro zz4 t2 hbest;obtain rfl:=zz3;obtain rfl:=zz4;intro S;rintro⟨eL2,eB2⟩;intro le
   rename_i yy0 yy1 yy2 yy3;clear yy3 yy2 yy1;clear t4 eB2;injection G ha hb hj hj2 t2 hbest S eL2 le with rr4 yy0 j v C2 B' h d t bt u5 u6 u7 bb
   have hE2:aP C2 _:=⟨hE'.k,hE'.l.trans eL2.symm,hE'.g,hE'.b⟩
   replace G:=G.le le
   replace ha:=ha.le le
   replace hb:=hb.le le
   replace hj:=hj.le le
   refine aK (aD S hE2 ?_);clear S;intro h t S
   refine aY (aF ?_);intro uu5 _
   refine aD S hE2 ?_;clear S;intro h t S
   refine x_wh (fun k h=>∃u',St C2 B' h (vars [(kY "size",.int (k:Nat) u'),(kY "j",.int (left+j) v),(kY "i",.int (low+i) u),(kY "best",.ref bt),(kY "junk",.ref jn),(kY "right",.int right u4),(kY "left",.int left u3),(kY "high",.int high u2),(kY "low",.int low u1),(kY "other",.ref b),(kY "one",.ref a)]) []∧grow (runP (eqI one other) (jkI one junk) high right (low+i) (left+j)) (high-(low+i)-k) k=runL (eqI one other) (jkI one junk) high right (low+i) (left+j)) (fun k=>high-(low+i)-k) (runP (eqI one other) (jkI one junk) high right (low+i) (left+j)) 0 ⟨_,S,rfl⟩ ?_ ?_ ?_
   ·intro k h d t;refine jI1 ?_;intro u';refine jG2 ?_;intro S hk
    injection S hk with k h d t u'
    unfold runP
    refine bI ?_ (fun cc6 t=>?_)
    ·skip
     refine aQ (aG (aA S hE2 (by exact rfl) ?_))
     refine aA S hE2 (by exact rfl) ?_
     refine aX ?_;intro uu7 _
     refine aA S hE2 (by exact rfl) ?_
     refine eX (aI ?_)
     exact pu (by first | exact decide_eq_decide.2 (ar_76) | rfl | (rw[lI];simp only[beq_iff_eq,decide_eq_true_eq];lia))
    try replace cc6:=of_decide_eq_true cc6
    refine bI ?_ (fun cc8 t=>?_)
    ·skip
     refine aQ (aG (aA S hE2 (by exact rfl) ?_))
     refine aA S hE2 (by exact rfl) ?_
     refine aX ?_;intro uu9 _
     refine aA S hE2 (by exact rfl) ?_
     refine eX (aI ?_)
     exact pu (by first | exact decide_eq_decide.2 (ar_76) | rfl | (rw[lI];simp only[beq_iff_eq,decide_eq_true_eq];lia))
    try replace cc8:=of_decide_eq_true cc8
    refine bI ?_ (fun cc10 t=>?_)
    ·skip
     refine aQ (bJ (aA S hE2 (by exact rfl) ?_))
     refine aG (aA S hE2 (by exact rfl) ?_)
     refine aA S hE2 (by exact rfl) ?_
     refine aX ?_;intro uu11 _
     refine eT ((low+i)+(k)) S ha ia (by lia) (by lia) hs1 ?_;intro uu12
     refine bJ (aA S hE2 (by exact rfl) ?_)
     refine aG (aA S hE2 (by exact rfl) ?_)
     refine aA S hE2 (by exact rfl) ?_
     refine aX ?_;intro uu13 _
     refine eT ((left+j)+(k)) S hb ib (by lia) (by lia) hs2 ?_;intro uu14
     refine hX (aI ?_)
     exact pu (by first | exact decide_eq_decide.2 (by lia) | rfl | (rw[lI];simp only[beq_iff_eq,decide_eq_true_eq];lia))
    try replace cc10:=of_decide_eq_true cc10
    refine bI ?_ (fun cc15 t=>?_)
    ·skip
     refine aQ (bJ (aA S hE2 (by exact rfl) ?_))
     refine aG (aA S hE2 (by exact rfl) ?_)
     refine aA S hE2 (by exact rfl) ?_
     refine aX ?_;intro uu16 _
     refine eT ((low+i)+(k)) S ha ia (by lia) (by lia) hs1 ?_;intro uu17
     refine aA S hE2 (by exact rfl) ?_
     refine c_nin S hj ij ?_
     refine aI ?_
     exact pu (by first | exact decide_eq_decide.2 (by lia) | rfl | (rw[lI];simp only[beq_iff_eq,decide_eq_true_eq];lia))
    try replace cc15:=of_decide_eq_true cc15
    exact dG
   ·intro k h d t;refine jI1 ?_;intro u';refine jG2 ?_;intro S hk hP
    injection S hk hP with k h d t u'
    refine x_aug (l_var S hE2 (by exact rfl) ?_)
    refine aF ?_;intro uu18 _
    refine j_add ?_;intro uu19 _
    refine aD S hE2 ?_;clear S;intro h t S
    refine aJ ?_
    replace S:=S.few (.cons (x:=kY "size") rfl (.cons (x:=kY "j") rfl (.cons (x:=kY "i") rfl (.cons (x:=kY "best") rfl (.cons (x:=kY "junk") rfl (.cons (x:=kY "right") rfl (.cons (x:=kY "left") rfl (.cons (x:=kY "high") rfl (.cons (x:=kY "low") rfl (.cons (x:=kY "other") rfl (.cons (x:=kY "one") rfl (.nil))))))))))))
    have hlt:low+i+k<high:=by
     unfold runP at hP
     exact of_decide_eq_true (mT.1 hP).1
    exact jJ4 (k+1) h _ _ (jH3 rfl (ar_1 (Nat.lt_sub_iff_add_lt'.2 hlt)) ⟨_,⟨S,by rw[←hk,show high-(low+i)-k=(high-(low+i)-(k+1))+1 by exact ar_4 (Nat.lt_sub_iff_add_lt'.2 hlt),gC hP]⟩⟩)
   ·intro k h d t;refine jI1 ?_;intro u';refine jG2 ?_;intro S hk hP
    injection S hk hP with k h d t u'
    rw[cQ hP] at hk
    refine bH (decide (k>bb.2.2)) ?_ (fun c t=>?_) (fun c t=>?_)
    ·skip
     refine aQ (aA S hE2 (by exact rfl) ?_)
     refine bJ (aA S hE2 (by exact rfl) ?_)
     refine aF ?_;intro uu20 _
     refine i_tup S t2 (j:=2) rfl rfl ?_
     refine c_gt (aI ?_)
     exact pu (by first | exact decide_eq_decide.2 (mS) | rfl | (rw[lI];simp only[beq_iff_eq,decide_eq_true_eq];lia))
    ·skip
     refine aY (bM (aB (aA S hE2 (by exact rfl) ?_)))
     refine aB (aA S hE2 (by exact rfl) ?_)
     refine aB (aA S hE2 (by exact rfl) ?_)
     refine aC (bL S (lF rfl) ?_);clear S;intro h aa21 B' le t6 S
     replace G:=G.le le
     replace ha:=ha.le le
     replace hb:=hb.le le
     replace hj:=hj.le le
     replace t2:=t2.le le
     refine aD S hE2 ?_;clear S;intro h t S
     refine aJ (aJ ?_)
     replace S:=S.few (.cons (x:=kY "i") rfl (.cons (x:=kY "best") rfl (.cons (x:=kY "junk") rfl (.cons (x:=kY "right") rfl (.cons (x:=kY "left") rfl (.cons (x:=kY "high") rfl (.cons (x:=kY "low") rfl (.cons (x:=kY "other") rfl (.cons (x:=kY "one") rfl (.nil))))))))))
     exact jJ6 h _ _ _ _ _ (jH4 rfl S rfl (jJ5 _ _ _ _ (low+i,left+j,k) (jH3 rfl t6 (by
      have:=hbest.step (i:=low+i) (j:=left+j) (D':=fun i' j'=>full low (low+i) left right i' j'∨(i'=low+i∧left≤j'∧j'<left+(j+1))) (fun i' j'=>by unfold full;exact ar_11) (fun i' j' d=>by unfold full at d;exact ar_17 d)
      rw[←hk,if_pos (of_decide_eq_true c)] at this;exact this))))
    ·skip
     refine aJ (aJ ?_)
     replace S:=S.few (.cons (x:=kY "i") rfl (.cons (x:=kY "best") rfl (.cons (x:=kY "junk") rfl (.cons (x:=kY "right") rfl (.cons (x:=kY "left") rfl (.cons (x:=kY "high") rfl (.cons (x:=kY "low") rfl (.cons (x:=kY "other") rfl (.cons (x:=kY "one") rfl (.nil))))))))))
     exact jJ6 h _ _ _ _ _ (jH4 rfl S rfl (jJ5 _ _ _ _ bb (jH3 rfl t2 (by
      have:=hbest.step (i:=low+i) (j:=left+j) (D':=fun i' j'=>full low (low+i) left right i' j'∨(i'=low+i∧left≤j'∧j'<left+(j+1))) (fun i' j'=>by unfold full;exact ar_11) (fun i' j' d=>by unfold full at d;exact ar_17 d)
      rw[←hk,if_neg (of_decide_eq_false c)] at this;exact this))))
  case refine_3=>
   intro h d t B' m' M' S le;refine jG2 ?_;intro zz5;refine jI5 ?_;intro bt u5 u6 u7 bb;refine jG3 ?_;intro zz6 t2 hbest;obtain rfl:=zz5;obtain rfl:=zz6
   rename_i yy0 yy1 yy2 yy3;clear yy3 yy2 yy1;clear t4 G ha hb hj le;injection t2 hbest S with rr4 yy0 h d t B' bt u5 u6 u7 bb
   refine aJ ?_
   replace S:=S.few (.cons (x:=kY "best") rfl (.cons (x:=kY "junk") rfl (.cons (x:=kY "right") rfl (.cons (x:=kY "left") rfl (.cons (x:=kY "high") rfl (.cons (x:=kY "low") rfl (.cons (x:=kY "other") rfl (.cons (x:=kY "one") rfl (.nil)))))))))
   exact jJ6 h _ _ _ _ _ (jH4 rfl S rfl (jJ5 _ _ _ _ bb (jH3 rfl t2 (hbest.congr fun i' j'=>by unfold full;exact ar_14 fun h=>(Int.toNat_sub right left).symm▸ar_13 h))))
 case refine_3=>
  intro h d t B' m' M' S le;refine jG2 ?_;intro zz7;refine jI5 ?_;intro bt u5 u6 u7 bb;refine jG3 ?_;intro zz8 t2 hbest;obtain rfl:=zz7;obtain rfl:=zz8
  rename_i yy0 yy1 yy2 yy3;clear yy3 yy2 yy1;clear t3;injection G ha hb hj le t2 hbest S with rr3 yy0 h d t B' bt u5 u6 u7 bb
  replace G:=G.le le
  replace ha:=ha.le le
  replace hb:=hb.le le
  replace hj:=hj.le le
  have hbb:=best_eq (hbest.congr (D':=full low high left right) fun i' j'=>by unfold full;exact ar_16)
  obtain⟨bi,bj,bk⟩:=bb
  dsimp only at t2
  have hblk:bZ (eqI one other) (jkI one junk) low high left right=(bi-grow (bP (eqI one other) (jkI one junk) low left bi bj) bi 0,bj-grow (bP (eqI one other) (jkI one junk) low left bi bj) bi 0,grow (fwdP (eqI one other) (jkI one junk) high right (bi-grow (bP (eqI one other) (jkI one junk) low left bi bj) bi 0) (bj-grow (bP (eqI one other) (jkI one junk) low left bi bj) bi 0)) high (bk+grow (bP (eqI one other) (jkI one junk) low left bi bj) bi 0)):=by unfold bZ;rw[hbb]
  have hin:(bk=0→bi=low∧bj=left)∧(bk≠0→full low high left right bi bj∧bi+bk≤high∧bj+bk≤right):=by
   refine⟨hbest.z,fun q=>?_⟩
   have h1:=hbest.s q
   have hq:full low high left right bi bj:=by have:=h1.1;unfold full at this⊢;simp only at this;exact ar_16.2 this
   have h2:runL (eqI one other) (jkI one junk) high right bi bj=bk:=h1.2
   have e1:bi+bk≤high∧bj+bk≤right:=by
    have a1:=run_bound (eqI one other) (jkI one junk) (high:=high) (right:=right) (i:=bi) (j:=bj)
    unfold full at hq
    rw[h2] at a1;lia
   exact jH3 hq e1.1 e1.2
  have hin':low≤bi∧bi≤high∧left≤bj∧bj≤right∧bi+bk≤high∧bj+bk≤right:=by
   by_cases q:bk=0
   ·have:=hin.1 q;exact ar_60 (ar_59 hl1 hl2 q this)
   ·have:=hin.2 q;unfold full at this;exact ar_60 (jH3 this.1.1 this.1.2.2.1 this.2)
  refine fB (aA S hE (by exact rfl) ?_)
  refine fF S t2 hh ?_;clear S;intro h S
  refine aL (aK (aD S hE ?_));clear S;intro h t S
  refine aL (aK (aD S hE ?_));clear S;intro h t S
  refine aL (aK (aD S hE ?_));clear S;intro h t S
  refine cK ?_
  replace S:=S.few (.cons (x:=kY "size") rfl (.cons (x:=kY "j") rfl (.cons (x:=kY "i") rfl (.cons (x:=kY "junk") rfl (.cons (x:=kY "right") rfl (.cons (x:=kY "left") rfl (.cons (x:=kY "high") rfl (.cons (x:=kY "low") rfl (.cons (x:=kY "other") rfl (.cons (x:=kY "one") rfl (.nil)))))))))))
  refine x_wh (fun k h=>k≤bi∧k≤bj∧(k=0∨(low+k≤bi∧left+k≤bj))∧(∃u5 u6 u7,St C B' h (vars [(kY "size",.int ((bk:Int)+(k:Nat)) u7),(kY "j",.int ((bj:Int)-(k:Nat)) u6),(kY "i",.int ((bi:Int)-(k:Nat)) u5),(kY "junk",.ref jn),(kY "right",.int right u4),(kY "left",.int left u3),(kY "high",.int high u2),(kY "low",.int low u1),(kY "other",.ref b),(kY "one",.ref a)]) [])∧grow (bP (eqI one other) (jkI one junk) low left bi bj) (bi-k) k=grow (bP (eqI one other) (jkI one junk) low left bi bj) bi 0) (fun k=>bi-k) (bP (eqI one other) (jkI one junk) low left bi bj) 0 (jH5 (lC _) (lC _) (.inl rfl) (jJ3 u5 u6 u7 (by rw[show(bk:Int)+(0:Nat)=bk by lia,show(bj:Int)-(0:Nat)=bj by lia,show(bi:Int)-(0:Nat)=bi by lia];exact S)) rfl) ?_ ?_ ?_
  ·intro k h d t;refine jG5 ?_;intro q1 q2 q3 zz9 hk;revert zz9;refine jI3 ?_;intro u5 u6 u7;intro S
   rename_i yy0;clear yy0;clear t2 hbest hbb hblk hin q3 hk;injection hin' q1 q2 S with bi bj bk k h d t u5 u6 u7
   unfold bP
   refine bI ?_ (fun cc22 t=>?_)
   ·skip
    refine aQ (aA S hE (by exact rfl) ?_)
    refine aA S hE (by exact rfl) ?_
    refine c_gt (aI ?_)
    exact pu (by first | exact decide_eq_decide.2 (ar_77) | rfl | (rw[lI];simp only[beq_iff_eq,decide_eq_true_eq];lia))
   try replace cc22:=of_decide_eq_true cc22
   refine bI ?_ (fun cc23 t=>?_)
   ·skip
    refine aQ (aA S hE (by exact rfl) ?_)
    refine aA S hE (by exact rfl) ?_
    refine c_gt (aI ?_)
    exact pu (by first | exact decide_eq_decide.2 (by lia) | rfl | (rw[lI];simp only[beq_iff_eq,decide_eq_true_eq];lia))
   try replace cc23:=of_decide_eq_true cc23
   refine bI ?_ (fun cc24 t=>?_)
   ·skip
    refine aQ (bJ (aA S hE (by exact rfl) ?_))
    refine aG (aA S hE (by exact rfl) ?_)
    refine aF ?_;intro uu25 _
    refine dP ?_;intro uu26 _
    refine eT ((bi-k)-1) S ha ia (ar_9 (ar_2 cc22)) (eQ cc22 (lB hin'.2.1 hlh)) hs1 ?_;intro uu27
    refine bJ (aA S hE (by exact rfl) ?_)
    refine aG (aA S hE (by exact rfl) ?_)
    refine aF ?_;intro uu28 _
    refine dP ?_;intro uu29 _
    refine eT ((bj-k)-1) S hb ib (ar_9 (ar_2 cc23)) (eQ cc23 (lB hin'.2.2.2.1 hlr)) hs2 ?_;intro uu30
    refine hX (aI ?_)
    exact pu (by first | exact decide_eq_decide.2 (by lia) | rfl | (rw[lI];simp only[beq_iff_eq,decide_eq_true_eq];lia))
   try replace cc24:=of_decide_eq_true cc24
   refine bI ?_ (fun cc31 t=>?_)
   ·skip
    refine aQ (bJ (aA S hE (by exact rfl) ?_))
    refine aG (aA S hE (by exact rfl) ?_)
    refine aF ?_;intro uu32 _
    refine dP ?_;intro uu33 _
    refine eT ((bi-k)-1) S ha ia (by lia) (eQ cc22 (lB hin'.2.1 hlh)) hs1 ?_;intro uu34
    refine aA S hE (by exact rfl) ?_
    refine c_in S hj ij ?_
    refine aI ?_
    exact pu (by first | exact decide_eq_decide.2 (by lia) | rfl | (rw[lI];simp only[beq_iff_eq,decide_eq_true_eq];lia))
   try replace cc31:=of_decide_eq_true cc31
   exact dG
  ·intro k h d t;refine jG5 ?_;intro q1 q2 q3 zz10 hk;revert zz10;refine jI3 ?_;intro u5 u6 u7;intro S hP
   rename_i yy0;clear yy0;clear hbest hbb hin;injection t2 hblk hin' q1 q2 q3 hk S hP with bi bj bk k h d t u5 u6 u7
   refine x_aug (l_var S hE (by exact rfl) ?_)
   refine aF ?_;intro uu35 _
   refine j_sub ?_;intro uu36 _
   refine aD S hE ?_;clear S;intro h t S
   refine x_aug (l_var S hE (by exact rfl) ?_)
   refine aF ?_;intro uu37 _
   refine j_sub ?_;intro uu38 _
   refine aD S hE ?_;clear S;intro h t S
   refine x_aug (l_var S hE (by exact rfl) ?_)
   refine aF ?_;intro uu39 _
   refine j_add ?_;intro uu40 _
   refine aD S hE ?_;clear S;intro h t S
   refine aJ ?_
   replace S:=S.few (.cons (x:=kY "size") rfl (.cons (x:=kY "j") rfl (.cons (x:=kY "i") rfl (.cons (x:=kY "junk") rfl (.cons (x:=kY "right") rfl (.cons (x:=kY "left") rfl (.cons (x:=kY "high") rfl (.cons (x:=kY "low") rfl (.cons (x:=kY "other") rfl (.cons (x:=kY "one") rfl (.nil)))))))))))
   have hlt:low+k<bi∧left+k<bj:=by
    unfold bP at hP
    have h1:=mT.1 hP
    exact⟨of_decide_eq_true h1.1,of_decide_eq_true (mT.1 h1.2).1⟩
   exact jJ4 (k+1) h _ _ (jH7 rfl (ar_3 hlt.1) (by lia) (by lia) (.inr hlt) (jJ3 _ _ _ (by rw[show(bk:Int)+(k+1:Nat)=bk+k+1 by lia,show(bj:Int)-(k+1:Nat)=bj-k-1 by lia,show(bi:Int)-(k+1:Nat)=bi-k-1 by lia];exact S)) (by rw[←hk,show bi-k=(bi-(k+1))+1 by exact ar_5 hlt.1,gC hP]))
  ·intro k h d t;refine jG5 ?_;intro q1 q2 q3 zz11 hk;revert zz11;refine jI3 ?_;intro u5 u6 u7;intro S hP
   rename_i yy0;clear yy0;clear hbest hbb hin;injection t2 hblk hin' q1 q2 q3 hk S hP with bi bj bk k h d t u5 u6 u7
   rw[cQ hP] at hk
   rw[←hk] at hblk
   refine x_wh (fun f h=>bk+k≤f∧(bi-k)+f≤high∧(bj-k)+f≤right∧(∃u7,St C B' h (vars [(kY "size",.int (f:Nat) u7),(kY "j",.int ((bj:Int)-(k:Nat)) u6),(kY "i",.int ((bi:Int)-(k:Nat)) u5),(kY "junk",.ref jn),(kY "right",.int right u4),(kY "left",.int left u3),(kY "high",.int high u2),(kY "low",.int low u1),(kY "other",.ref b),(kY "one",.ref a)]) [])∧grow (fwdP (eqI one other) (jkI one junk) high right (bi-k) (bj-k)) (high-(f-(bk+k))) f=grow (fwdP (eqI one other) (jkI one junk) high right (bi-k) (bj-k)) high (bk+k)) (fun f=>high-f) (fwdP (eqI one other) (jkI one junk) high right (bi-k) (bj-k)) (bk+k) (jH5 (lE _) (ar_35 q1 hin'.2.2.2.2.1) (ar_35 q2 hin'.2.2.2.2.2) ⟨u7,by rw[show((bk+k:Nat):Int)=bk+k by lia];exact S⟩ (by rw[Nat.sub_self,pQ])) ?_ ?_ ?_
   ·intro f h d t;refine jG5 ?_;intro p1 p2 p3 zz12 hf;obtain⟨u7,S⟩:=zz12
    unfold fwdP
    refine bI ?_ (fun cc41 t=>?_)
    ·skip
     refine aQ (aG (aA S hE (by exact rfl) ?_))
     refine aA S hE (by exact rfl) ?_
     refine aX ?_;intro uu42 _
     refine aA S hE (by exact rfl) ?_
     refine eX (aI ?_)
     exact pu (by first | exact decide_eq_decide.2 (ar_8 q1) | rfl | (rw[lI];simp only[beq_iff_eq,decide_eq_true_eq];lia))
    try replace cc41:=of_decide_eq_true cc41
    refine bI ?_ (fun cc43 t=>?_)
    ·skip
     refine aQ (aG (aA S hE (by exact rfl) ?_))
     refine aA S hE (by exact rfl) ?_
     refine aX ?_;intro uu44 _
     refine aA S hE (by exact rfl) ?_
     refine eX (aI ?_)
     exact pu (by first | exact decide_eq_decide.2 (ar_8 q2) | rfl | (rw[lI];simp only[beq_iff_eq,decide_eq_true_eq];lia))
    try replace cc43:=of_decide_eq_true cc43
    refine bI ?_ (fun cc45 t=>?_)
    ·skip
     refine aQ (bJ (aA S hE (by exact rfl) ?_))
     refine aG (aA S hE (by exact rfl) ?_)
     refine aA S hE (by exact rfl) ?_
     refine aX ?_;intro uu46 _
     refine eT ((bi-k)+(f)) S ha ia (ar_7 q1) (by lia) hs1 ?_;intro uu47
     refine bJ (aA S hE (by exact rfl) ?_)
     refine aG (aA S hE (by exact rfl) ?_)
     refine aA S hE (by exact rfl) ?_
     refine aX ?_;intro uu48 _
     refine eT ((bj-k)+(f)) S hb ib (ar_7 q2) (by lia) hs2 ?_;intro uu49
     refine hX (aI ?_)
     exact pu (by first | exact decide_eq_decide.2 (by lia) | rfl | (rw[lI];simp only[beq_iff_eq,decide_eq_true_eq];lia))
    try replace cc45:=of_decide_eq_true cc45
    refine bI ?_ (fun cc50 t=>?_)
    ·skip
     refine aQ (bJ (aA S hE (by exact rfl) ?_))
     refine aG (aA S hE (by exact rfl) ?_)
     refine aA S hE (by exact rfl) ?_
     refine aX ?_;intro uu51 _
     refine eT ((bi-k)+(f)) S ha ia (ar_7 q1) (by lia) hs1 ?_;intro uu52
     refine aA S hE (by exact rfl) ?_
     refine c_in S hj ij ?_
     refine aI ?_
     exact pu (by first | exact decide_eq_decide.2 (by lia) | rfl | (rw[lI];simp only[beq_iff_eq,decide_eq_true_eq];lia))
    try replace cc50:=of_decide_eq_true cc50
    exact dG
   ·intro f h d t;refine jG5 ?_;intro p1 p2 p3 zz13 hf;obtain⟨u7,S⟩:=zz13;intro hP
    injection p1 p2 p3 hf S hP with f h d t u7
    refine x_aug (l_var S hE (by exact rfl) ?_)
    refine aF ?_;intro uu53 _
    refine j_add ?_;intro uu54 _
    refine aD S hE ?_;clear S;intro h t S
    refine aJ ?_
    replace S:=S.few (.cons (x:=kY "size") rfl (.cons (x:=kY "j") rfl (.cons (x:=kY "i") rfl (.cons (x:=kY "junk") rfl (.cons (x:=kY "right") rfl (.cons (x:=kY "left") rfl (.cons (x:=kY "high") rfl (.cons (x:=kY "low") rfl (.cons (x:=kY "other") rfl (.cons (x:=kY "one") rfl (.nil)))))))))))
    have hlt:bi-k+f<high∧bj-k+f<right:=by
     unfold fwdP at hP
     have h1:=mT.1 hP
     exact⟨of_decide_eq_true h1.1,of_decide_eq_true (mT.1 h1.2).1⟩
    exact jJ4 (f+1) h _ _ (jH7 rfl (ar_3 hlt.1) (by lia) (by lia) (by lia) ⟨_,S⟩ (by rw[←hf,show high-(f-(bk+k))=(high-(f+1-(bk+k)))+1 by exact ar_6 p1 hlt.1,gC hP]))
   ·intro f h d t;refine jG5 ?_;intro p1 p2 p3 zz14 hf;obtain⟨u7,S⟩:=zz14;intro hP
    injection p1 p2 p3 hf S hP with f h d t u7
    rw[cQ hP] at hf
    rw[←hf] at hblk
    refine cN (bM (aB (aA S hE (by exact rfl) ?_)))
    refine aB (aA S hE (by exact rfl) ?_)
    refine aB (aA S hE (by exact rfl) ?_)
    refine aC (bL S (lF rfl) ?_);clear S;intro h aa55 B' le tr S
    replace G:=G.le le
    replace ha:=ha.le le
    replace hb:=hb.le le
    replace hj:=hj.le le
    replace t2:=t2.le le
    refine S.ends e1 e2 e3 e4 (jJ4 _ u5 u6 u7 ⟨rfl,?_⟩)
    rw[hblk]
    dsimp only
    rw[nN q1,nN q2]
    exact tr
end
section
variable {w:jS}{mg mb:kJ→Option jL}
theorem c_places (n:Nat):∀{A:jV} {s:jP} {B:Base} {a b jn:jQ} {va vb vj:List jL} {one other junk:List Int} {low high left right:Nat} {u1 u2 u3 u4:Tok}
  (ha:Lst B a va) (hb:Lst B b vb) (hj:Lst B jn vj) (ia:IntsAre va one) (ib:IntsAre vb other) (ij:IntsAre vj junk)
  (hlh:high≤one.length) (hlr:right≤other.length) (hs1:one.length≤1000) (hs2:other.length≤1000) (hl1:low≤high) (hl2:left≤right) (hn:high-low<n)
  (G:Gr w mg mb B) (hB:∀a o,B a=some o→s.heap.get? a=some o) (hr:Room A (n+1)),
  jN (jM PW w) A (call (.ref 316) [.ref a,.ref b,.int low u1,.int high u2,.int left u3,.int right u4,.ref jn]) (Ends B s fun v B'=>dE Pr B' v (aW (bD (eqI one other) (jkI one junk) n low high left right))) no s:=by
 revert w mg mb n;refine no_implicit_lambda% (hkI4 (neQ neW (neQ neG (neQ neG (neQ neN neU)))) ?_);generalize hkc _ _=z;delta hU4;generalize pj0 z=w,pj1 z=mg,pj2 z=mb,pj3 z=n;clear z
 induction n with
 | zero=>intro A s B a b jn va vb vj one other junk low high left right u1 u2 u3 u4 ha hb hj ia ib ij hlh hlr hs1 hs2 hl1 hl2 hn;lia
 | succ n ih=>
 intro A s B a b jn va vb vj one other junk low high left right u1 u2 u3 u4 ha hb hj ia ib ij hlh hlr hs1 hs2 hl1 hl2 hn G hB hr
 injection ih ha hb hj ia ib ij hlh hlr hs1 hs2 hl1 hl2 hn G hB hr with n A s B a b jn va vb vj one other junk low high left right u1 u2 u3 u4
 refine' callFC (o:=o_316 w.params) (binds:=[(kY "one",.ref a),(kY "other",.ref b),(kY "low",.int low u1),(kY "high",.int high u2),(kY "left",.int left u3),(kY "right",.int right u4),(kY "junk",.ref jn)])
  [(kY "junk",.ref jn),(kY "right",.int right u4),(kY "left",.int left u3),(kY "high",.int high u2),(kY "low",.int low u1),(kY "other",.ref b),(kY "one",.ref a)]
  [(kY "j",none),(kY "i",none)] (ps:=["one","other","low","high","left","right","junk"]) G hB hr.d' ?ho ?hd ?hcd ?hb ?c1 ?c2 ?c3 ?c4 ?c5 ?c6 ?c7 ?c8 ?c9 ?_
 case ho=>exact rfl
 case hd=>exact rfl
 case hcd=>exact rfl
 case hb=>exact rfl
 case c1=>exact rfl
 case c9=>exact rfl
 case c2=>decide
 case c3=>exact .cons rfl (.cons rfl (.cons rfl (.cons rfl (.cons rfl (.cons rfl (.cons rfl .nil))))))
 case c4=>intro c;rfl
 case c5=>exact .cons rfl (.cons rfl .nil)
 case c6=>decide
 case c7=>exact rfl
 case c8=>exact rfl
 intro C h t oc e1 e2 hoc S e3 e4
 injection e1 e2 hoc S e3 e4 with C h t oc
 have oj:(oc "j").data=.cell none:=hoc _ (kZ ..)
 have oi:(oc "i").data=.cell none:=hoc _ (lX _ (kZ ..))
 change St C B h _ ([(C.L+1+1,oc "j")]++(C.L+1,oc "i")::[]) at S
 generalize oc "j"=oJ at S oj
 generalize oc "i"=oI at S oi
 clear hoc
 have hh:=hr.h
 generalize hEe:envX _ _ C.L _ _ _=env
 have hE:aP C env:=hEe▸⟨rfl,rfl,rfl,rfl⟩
 subst hEe
 have hin:=cL (eqI one other) (jkI one junk) hl1 hl2
 have hz:=bB (eqI one other) (jkI one junk) (n:=n+1) (low:=low) (high:=high) (left:=left) (right:=right)
 have hp:=bY (eqI one other) (jkI one junk) (n:=n) (low:=low) (high:=high) (left:=left) (right:=right)
 refine fB (aR (dY S hE G (glob_block _) ?_))
 refine cZ (o:=o_311 w.params) rfl ?_
 refine aB (aA S hE (by exact rfl) ?_)
 refine aB (aA S hE (by exact rfl) ?_)
 refine aB (aA S hE (by exact rfl) ?_)
 refine aB (aA S hE (by exact rfl) ?_)
 refine aB (aA S hE (by exact rfl) ?_)
 refine aB (aA S hE (by exact rfl) ?_)
 refine aB (aA S hE (by exact rfl) ?_)
 refine aC ?_
 refine⟨S.b _ _ (G.K _ _ rfl),use S (c_block ha hb hj ia ib ij hlh hlr hs1 hs2 hl1 hl2 G S.b hr.deeper.d' hr.h) ?_⟩
 intro _ h d t B' S le;refine jI4 ?_;intro r x1 x2 x3;refine jG2 ?_;intro zz1 tb;obtain rfl:=zz1
 rename_i yy0;clear yy0;injection oj oi S le tb with oJ oI h d t B' r x1 x2 x3
 replace G:=G.le le
 replace ha:=ha.le le
 replace hb:=hb.le le
 replace hj:=hj.le le
 dsimp only at tb hin hz hp
 generalize bZ (eqI one other) (jkI one junk) low high left right=c at tb hin hz hp
 obtain⟨bi,bj,bk⟩:=c
 dsimp only at tb hin hz hp
 refine fF S tb hh ?_;clear S;intro h S
 refine aL (aK (s_cel (M₁:=[_]) (M₂:=[]) S hE oi ?_));clear S;intro h oI oi S
 refine aL (aK (s_cel (M₁:=[]) (M₂:=[_]) S hE oj ?_));clear S;intro h oJ oj S
 refine aL (aK (aD S hE ?_));clear S;intro h t S
 refine cK (bH (decide (bk=0)) ?_ (fun c t=>?_) (fun c t=>?_))
 ·skip
  refine aQ (aA S hE (by exact rfl) ?_)
  refine aF ?_;intro uu1 _
  refine hX (aI ?_)
  exact pu (by rw[lI];simp)
 ·skip
  rw[hz (of_decide_eq_true c)]
  refine cN (bA (aC (cD S (lF rfl) ?_)));clear S;intro h aa2 B' le tr S
  replace G:=G.le le
  replace ha:=ha.le le
  replace hb:=hb.le le
  replace hj:=hj.le le
  exact t_ret (S.ends e1 e2 e3 e4 (jJ2 _ _ (jH3 rfl tr .nil)))
 refine aJ ?_
 have hk:=of_decide_eq_false c
 rw[hp hk]
 refine aY (aR (dY S hE G (fE _) ?_))
 refine cZ (o:=o_316 w.params) rfl ?_
 refine aB (aA S hE (by exact rfl) ?_)
 refine aB (aA S hE (by exact rfl) ?_)
 refine aB (aA S hE (by exact rfl) ?_)
 refine aB (e_cel S hE (lX _ (kZ ..)) oi ?_)
 refine aB (aA S hE (by exact rfl) ?_)
 refine aB (e_cel S hE (kZ ..) oj ?_)
 refine aB (aA S hE (by exact rfl) ?_)
 refine aC ?_
 refine⟨S.b _ _ (G.K _ _ rfl),use S (ih ha hb hj ia ib ij (by lia) (by lia) hs1 hs2 (by lia) (by lia) (ar_55 hn hk hin.1 hin.2.2.1) G S.b hr.deeper) ?_⟩
 intro _ h d t B' S le;refine jI2 ?_;intro r1 v1;refine jG3 ?_;intro zz2 tl1 hf1;obtain rfl:=zz2
 rename_i yy0 _;clear yy0;clear tb hz hp hk;injection hin oi oj c S le tl1 hf1 with bi bj bk oI oJ h d t B' r1 v1
 replace G:=G.le le
 replace ha:=ha.le le
 replace hb:=hb.le le
 replace hj:=hj.le le
 refine aD S hE ?_;clear S;intro h t S
 refine cN (aG (aG (aA S hE (by exact rfl) ?_)))
 refine gS rfl rfl (by decide) ?_
 refine aR (cM (v:=.type "range") S hE G (dW _) rfl ?_)
 refine dX (aB (aA S hE (by exact rfl) ?_))
 refine aC (n_rng1 S ?_);clear S;intro h t rr3 B' le tr S
 replace G:=G.le le
 replace ha:=ha.le le
 replace hb:=hb.le le
 replace hj:=hj.le le
 replace tl1:=tl1.le le
 replace hf1:=bN hf1 le
 refine comp_range S tr (by unfold Sm;lia) (by unfold Sm;lia) hh (lB (m:=1000) (by lia) (by decide)) (by decide) rfl (fun i y B=>Pr B y (bi+i,bj+i)) (fun i y B B' l x=>x.le l) ?_ ?_
 ·intro k u C' B' h m' M' d t hi S le kept
  generalize hEe:compEnvC _ _ C'.L _=env
  have hE':aP C' env:=hEe▸⟨rfl,rfl,rfl,rfl⟩
  subst hEe
  refine aK (dC S hE' ?_);clear S;intro h t S
  replace S:=S.fewf (L':=[(kY "k",.int (0+k) u)]) (.cons rfl .nil)
  refine bM (aB (aG (e_celD S hE' (kept _ (lX _ (kZ ..))) oi ?_)))
  refine aA S hE' (by exact rfl) ?_
  refine aX ?_;intro uu4 _
  refine aB (aG (e_celD S hE' (kept _ (kZ ..)) oj ?_))
  refine aA S hE' (by exact rfl) ?_
  refine aX ?_;intro uu5 _
  refine aC (bL S (lF rfl) ?_);clear S;intro h a2 B'' le tp S
  exact jJ5 _ _ _ _ _ (jH3 rfl S (jJ3 _ _ _ ⟨rfl,by
   have e1:((bi+k:Nat):Int)=bi+(0+k):=by lia
   have e2:((bj+k:Nat):Int)=bj+(0+k):=by lia
   dsimp only
   rw[e1,e2];exact tp⟩))
 ·intro h d t B' a' ys S le tl2 hlen hys
  replace G:=G.le le
  replace ha:=ha.le le
  replace hb:=hb.le le
  replace hj:=hj.le le
  replace tl1:=tl1.le le
  replace hf1:=bN hf1 le
  have hf2:F2 (Pr B') ys ((lW bk).map fun k=>(bi+k,bj+k)):=F2.of_get (by rw[hlen,lZ,oA];lia) fun i y p hy hp=>by
   have:=hys i y hy
   rw[oZ] at hp
   cases q:(lW bk)[i]? with
   | none=>rw[q] at hp;cases hp
   | some k=>
    rw[q] at hp
    have:i=k:=by
     obtain⟨_,e⟩:=nF.1 q
     simpa using e
    subst this
    cases hp
    exact hys i y hy
  have l1:=hf1.length
  have l2:=hf2.length
  rw[lZ,oA] at l2
  have l3:=dS (eqI one other) (jkI one junk) n low bi left bj (by lia) (by lia)
  refine l_add S tl1 tl2 (lB (m:=1000) (by rw[l1,l2];exact lB (ar_54 l3 hin.2.2.1) (lB hlh hs1)) (by decide)) ?_;clear S;intro h r3 B' le tl3 S
  replace hf1:=hf1.append hf2
  replace G:=G.le le
  replace ha:=ha.le le
  replace hb:=hb.le le
  replace hj:=hj.le le
  replace tl1:=tl1.le le
  replace hf1:=bN hf1 le
  replace tl2:=tl2.le le
  refine aR (dY S hE G (fE _) ?_)
  refine cZ (o:=o_316 w.params) rfl ?_
  refine aB (aA S hE (by exact rfl) ?_)
  refine aB (aA S hE (by exact rfl) ?_)
  refine aB (aG (e_cel S hE (lX _ (kZ ..)) oi ?_))
  refine aA S hE (by exact rfl) ?_
  refine aX ?_;intro uu6 _
  refine aB (aA S hE (by exact rfl) ?_)
  refine aB (aG (e_cel S hE (kZ ..) oj ?_))
  refine aA S hE (by exact rfl) ?_
  refine aX ?_;intro uu7 _
  refine aB (aA S hE (by exact rfl) ?_)
  refine aB (aA S hE (by exact rfl) ?_)
  refine aC ?_
  refine⟨S.b _ _ (G.K _ _ rfl),use S (ih (low:=bi+bk) (left:=bj+bk) ha hb hj ia ib ij (by omega) (by omega) hs1 hs2 (by lia) (by lia) (ar_56 hn (of_decide_eq_false c) hin.1 hin.2.2.1) G S.b hr.deeper) ?_⟩
  intro _ h d t B' S le;refine jI2 ?_;intro r4 v4;refine jG3 ?_;intro zz3 tl4 hf4;obtain rfl:=zz3
  replace G:=G.le le
  replace ha:=ha.le le
  replace hb:=hb.le le
  replace hj:=hj.le le
  replace tl1:=tl1.le le
  replace hf1:=bN hf1 le
  replace tl2:=tl2.le le
  replace tl3:=tl3.le le
  have l4:=hf4.length
  have l5:=dS (eqI one other) (jkI one junk) n (bi+bk) high (bj+bk) right (by lia) (by lia)
  refine l_add S tl3 tl4 (lB (m:=2000) (by rw[lR];exact(by rw[l1,l2,l4];exact lB (ar_52 l3 hin.1 hin.2.2.1 l5) (lB (lB (mN _ _) (lB hlh hs1)) (by decide)))) (by decide)) ?_;clear S;intro h r5 B' le tl5 S
  refine S.ends e1 e2 e3 e4 (jJ2 _ _ (jH3 rfl tl5 ?_))
  rw[eR]
  exact(bN hf1 le).append (bN hf4 le)
end
section
variable {w:jS}{mg mb:kJ→Option jL}{A:jV}{s:jP}{B:Base}
theorem c_due {a b jn:jQ}{va vb vj:List jL}{one other junk:List Int}
  (ha:Lst B a va) (hb:Lst B b vb) (hj:Lst B jn vj) (ia:IntsAre va one) (ib:IntsAre vb other) (ij:IntsAre vj junk)
  (hs1:one.length≤100) (hs2:other.length≤100)
  (G:Gr w mg mb B) (hB:∀a o,B a=some o→s.heap.get? a=some o) (hr:Room A 200):
  jN (jM PW w) A (call (.ref 323) [.ref a,.ref b,.ref jn]) (Ends B s fun v B'=>∃r x y,v=.ref r∧Tup B' r [x,y]∧dE Bl B' x (gH one.length other.length (aW (bD (eqI one other) (jkI one junk) (one.length+1) 0 one.length 0 other.length))).1∧dE CdR B' y (gH one.length other.length (aW (bD (eqI one other) (jkI one junk) (one.length+1) 0 one.length 0 other.length))).2) no s:=by
 refine' eP (o:=o_323 w.params) (binds:=[(kY "one",.ref a),(kY "other",.ref b),(kY "junk",.ref jn)]) G hB hr.d' ?ho ?hd ?hcd ?hb ?c1 ?c2 ?c3 ?c4 ?c5 ?_
 case ho=>exact rfl
 case hd=>exact rfl
 case hcd=>exact rfl
 case hb=>exact BindsTo.of_eq rfl
 case c1=>decide
 case c2=>exact locs rfl
 case c3=>exact rfl
 case c4=>exact rfl
 case c5=>exact rfl
 intro C h t e1 e2 S e3 e4
 have hh:=hr.h
 generalize hEe:envX _ _ C.L _ _ []=env
 have hE:aP C env:=hEe▸⟨rfl,rfl,rfl,rfl⟩
 subst hEe
 change St C B h (vars [(kY "junk",.ref jn),(kY "other",.ref b),(kY "one",.ref a)]) [] at S
 clear hB;injection ha hb hj ia ib ij hs1 hs2 G hr e1 e2 e3 e4 hh hE S with w mg mb A s B a b jn va vb vj one other junk C h t
 have la:=ia.length
 have lb:=ib.length
 refine aY (bA (aC (fR S (lC _) ?_)));clear S;intro h ba S
 refine aD S hE ?_;clear S;intro h t S
 refine aY (bA (aC (fR S (lC _) ?_)));clear S;intro h ca S
 refine aD S hE ?_;clear S;intro h t S
 refine aY (bM (aB (aF ?_)));intro uu1 _
 refine aB (aF ?_);intro uu2 _
 refine aC (bL S (lF rfl) ?_);clear S;intro h aa3 B' le t0 S
 replace G:=G.le le
 replace ha:=ha.le le
 replace hb:=hb.le le
 replace hj:=hj.le le
 refine aD S hE ?_;clear S;intro h t S
 refine eD (aG (aR (dY S hE G (fE _) ?_)))
 refine cZ (o:=o_316 w.params) rfl ?_
 refine aB (aA S hE (by exact rfl) ?_)
 refine aB (aA S hE (by exact rfl) ?_)
 refine aB (aF ?_);intro uu4 _
 refine aB (aR (cM (v:=.builtin "len") S hE G (cJ _) rfl ?_))
 refine eE (aB (aA S hE (by exact rfl) ?_))
 refine aC (n_len S ha (by lia) ?_);intro uu5 _
 refine aB (aF ?_);intro uu6 _
 refine aB (aR (cM (v:=.builtin "len") S hE G (cJ _) rfl ?_))
 refine eE (aB (aA S hE (by exact rfl) ?_))
 refine aC (n_len S hb (by lia) ?_);intro uu7 _
 refine aB (aA S hE (by exact rfl) ?_)
 refine aC ?_
 refine⟨S.b _ _ (G.K _ _ rfl),use S (c_places (one.length+1) (low:=0) (high:=va.length) (left:=0) (right:=vb.length) ha hb hj ia ib ij (by lia) (by lia) (by lia) (by lia) (lC _) (lC _) (by lia) G S.b (hr.deeper (k:=199) |>.le (by lia))) ?_⟩
 intro _ h d t B' S le;refine jI2 ?_;intro r1 v1;refine jG3 ?_;intro zz1 tl1 hf1;obtain rfl:=zz1
 rename_i yy0 yy1 _ _ yy2 _ _ _ _;clear yy2 yy1;injection t0 G ha hb hj S le tl1 hf1 with ba ca uu1 uu2 aa3 yy0 h d t B' r1 v1
 replace G:=G.le le
 replace ha:=ha.le le
 replace hb:=hb.le le
 replace hj:=hj.le le
 replace t0:=t0.le le
 rw[la,lb] at hf1
 have plen:(aW (bD (eqI one other) (jkI one junk) (one.length+1) 0 one.length 0 other.length)).length≤one.length:=by have:=dS (eqI one other) (jkI one junk) (one.length+1) 0 one.length 0 other.length (lC _) (lC _);omega
 have pin:∀p∈(aW (bD (eqI one other) (jkI one junk) (one.length+1) 0 one.length 0 other.length)),p.1<one.length:=gL (eqI one other) (jkI one junk) (one.length+1) 0 one.length 0 other.length (lC _) (lC _)
 generalize (aW (bD (eqI one other) (jkI one junk) (one.length+1) 0 one.length 0 other.length))=ps at hf1 plen pin⊢
 refine bA (aB (bM (aB (aR (cM (v:=.builtin "len") S hE G (cJ _) rfl ?_)))))
 refine eE (aB (aA S hE (by exact rfl) ?_))
 refine aC (n_len S ha (by lia) ?_);intro uu8 _
 refine aB (aR (cM (v:=.builtin "len") S hE G (cJ _) rfl ?_))
 refine eE (aB (aA S hE (by exact rfl) ?_))
 refine aC (n_len S hb (by lia) ?_);intro uu9 _
 refine aC (bL S (lF rfl) ?_);clear S;intro h a2 B' le tz S
 replace G:=G.le le
 replace ha:=ha.le le
 replace hb:=hb.le le
 replace hj:=hj.le le
 replace t0:=t0.le le
 replace tl1:=tl1.le le
 replace hf1:=bN hf1 le
 refine aC (cD S (lF rfl) ?_);clear S;intro h a3 B' le ty S
 replace G:=G.le le
 replace ha:=ha.le le
 replace hb:=hb.le le
 replace hj:=hj.le le
 replace t0:=t0.le le
 replace tl1:=tl1.le le
 replace hf1:=bN hf1 le
 replace tz:=tz.le le
 have l1:=hf1.length
 refine l_add S tl1 ty (lB (m:=1000) (by simp;lia) (by decide)) ?_;clear S;intro h r2 B' le tl S
 replace G:=G.le le
 replace ha:=ha.le le
 replace hb:=hb.le le
 replace hj:=hj.le le
 replace t0:=t0.le le
 replace tl1:=tl1.le le
 replace hf1:=bN hf1 le
 replace tz:=tz.le le
 replace ty:=ty.le le
 have hf:F2 (Pr B') (v1++[.ref a2]) (ps++[(one.length,other.length)]):=hf1.append (.one (jJ3 _ _ _ ⟨rfl,by rw[←la,←lb];exact tz⟩))
 refine gR S tl hh (fun i B' m' M'=>i≤ps.length∧F2 (Pr B') (v1++[.ref a2]) (ps++[(one.length,other.length)])∧∃ht u1 u2 nb nc vb vc,M'=[(ca,lstO vc nc),(ba,lstO vb nb)]∧m'=vars [(kY "here",.ref ht),(kY "codes",.ref ca),(kY "blocks",.ref ba),(kY "junk",.ref jn),(kY "other",.ref b),(kY "one",.ref a)]∧F2 (Bl B') vb (bX (ps.take i)).1∧F2 (CdR B') vc (bX (ps.take i)).2.1∧Tup B' ht [.int (bX (ps.take i)).2.2.1 u1,.int (bX (ps.take i)).2.2.2 u2]) (fun _ _ _=>False)
  (fun v B' _ _=>∃r x y,v=.ref r∧Tup B' r [x,y]∧dE Bl B' x (gH one.length other.length ps).1∧dE CdR B' y (gH one.length other.length ps).2) ?_ ?_ ?_ ?_
 ·exact jH3 (lC _) hf (jJ7 _ _ _ _ _ _ _ (jH5 rfl rfl .nil .nil t0))
 ·intro i v C' B' h m' M' d t hi;refine jG3 ?_;intro hil hf;refine jI7 ?_;intro ht u1 u2 nb nc vb vc;refine jG5 ?_;intro zz2 zz3 hbl hcl tht;obtain rfl:=zz2;obtain rfl:=zz3;intro S;rintro⟨eL,eB⟩;intro le
  rename_i yy0 yy1 yy2 yy3;clear yy3 yy2 yy1;clear l1 tl t0 tl1 hf1 tz ty;injection plen pin G ha hb hj hi hil hf hbl hcl tht S eL eB le with ps uu8 uu9 a2 a3 r2 yy0 i v C' B' h d t ht u1 u2 nb nc vb vc
  have hE':aP C' _:=⟨hE.k,hE.l.trans eL.symm,hE.g,hE.b⟩
  replace G:=G.le le
  replace ha:=ha.le le
  replace hb:=hb.le le
  replace hj:=hj.le le
  refine jI1 ?_ (hf.get hi);intro zz4;refine jG2 ?_;intro hp;refine jI3 ?_;intro pa x1 x2;refine jG2 ?_;intro zz5 tp;obtain⟨pi,pj⟩:=zz4;obtain rfl:=zz5
  dsimp only at tp
  have hcod:=dueRun_codes (ps.take i)
  have hlen:=dueRun_len (ps.take i)
  have htl:(ps.take i).length≤ps.length:=by rw[nG];lia
  have hcase:(pi=one.length→i=ps.length∧(pi,pj)=(one.length,other.length))∧(pi≠one.length→i<ps.length∧ps.take (i+1)=ps.take i++[(pi,pj)]):=by
   rcases oF i ps.length with q | q
   ·rw[oR q] at hp
    have:=pin _ (qB hp)
    exact⟨fun e=>by simp only at this;lia,fun _=>⟨q,by rw[nH,hp];rfl⟩⟩
   ·have hi':i=ps.length:=by lia
    subst hi'
    rw[List.getElem?_append_right (lE _),Nat.sub_self] at hp
    cases hp
    exact⟨fun _=>⟨rfl,rfl⟩,fun e=>absurd rfl e⟩
  have hnext:=dD (ps.take i) (pi,pj)
  have hend:i=ps.length→bX (ps.take i)=bX ps:=fun e=>by rw[e,oH]
  generalize hst:bX (ps.take i)=st at hbl hcl tht hcod hlen hnext hend
  obtain⟨sb,sc,s1,s2⟩:=st
  dsimp only at hbl hcl tht hcod hlen
  refine fF S tp hh ?_;clear S;intro h S
  refine aL (aK (aD S hE' ?_));clear S;intro h t S
  refine aL (aK (aD S hE' ?_));clear S;intro h t S
  refine cK ?_
  replace S:=S.few (.cons (x:=kY "j") rfl (.cons (x:=kY "i") rfl (.cons (x:=kY "here") rfl (.cons (x:=kY "codes") rfl (.cons (x:=kY "blocks") rfl (.cons (x:=kY "junk") rfl (.cons (x:=kY "other") rfl (.cons (x:=kY "one") rfl (.nil)))))))))
  have lb1:=hbl.length
  have lc1:=hcl.length
  refine fW S (fun B' m' M'=>∃vc nc,M'=[(ca,lstO vc nc),(ba,lstO vb nb)]∧m'=vars [(kY "j",.int pj x2),(kY "i",.int pi x1),(kY "here",.ref ht),(kY "codes",.ref ca),(kY "blocks",.ref ba),(kY "junk",.ref jn),(kY "other",.ref b),(kY "one",.ref a)]∧F2 (CdR B') vc (cF sc (s1,s2) (pi,pj))) ?_ ?_
  ·have lc:=Le.refl B'
   refine x_ifq (aQ (bM (aB (aA S hE' (by exact rfl) ?_))))
   refine aB (aA S hE' (by exact rfl) ?_)
   refine aC (bL S (lF rfl) ?_);clear S;intro h aa10 B' le tij S
   replace G:=G.le le
   replace ha:=ha.le le
   replace hb:=hb.le le
   replace hj:=hj.le le
   replace hf:=bN hf le
   replace hbl:=bE hbl le
   replace hcl:=bS hcl le
   replace tht:=tht.le le
   replace tp:=tp.le le
   replace lc:=Le.trans lc le
   refine aA S hE' (by exact rfl) ?_
   refine c_neD (Rd.tup tij (.cons (.int _ _ _) (.cons (.int _ _ _) .nil)) _ S.b) (Rd.tup tht (.cons (.int _ _ _) (.cons (.int _ _ _) .nil)) _ S.b) (fK _ _) (fK _ _) (by have:=hr.u;show A.units+3+64<_;lia) ?_
   rw[eqv_pr]
   refine aI ?_
   refine⟨fun c=>?_,fun c=>?_⟩
   ·have c':(pi,pj)≠(s1,s2):=of_nd c
    refine fW S (fun B' m' M'=>∃tk,M'=[(ca,lstO vc nc),(ba,lstO vb nb)]∧m'=vars [(kY "tag",.str (iN pi s1 pj s2) tk),(kY "j",.int pj x2),(kY "i",.int pi x1),(kY "here",.ref ht),(kY "codes",.ref ca),(kY "blocks",.ref ba),(kY "junk",.ref jn),(kY "other",.ref b),(kY "one",.ref a)]) ?_ ?_
    ·refine aY (e_ifp (decide (pi=s1)) ?_ (fun c t=>?_) (fun c t=>?_))
     ·refine aQ (aA S hE' (by exact rfl) ?_)
      refine bJ (aA S hE' (by exact rfl) ?_)
      refine aF ?_;intro uu11 _
      refine i_tup S tht (j:=0) rfl rfl ?_
      refine hX (aI ?_)
      exact pu (eS _ _)
     ·skip
      refine bW ?_;intro uu12 _
      refine aD S hE' ?_;clear S;intro h t S
      replace S:=S.few (.cons (x:=kY "tag") rfl (.cons (x:=kY "j") rfl (.cons (x:=kY "i") rfl (.cons (x:=kY "here") rfl (.cons (x:=kY "codes") rfl (.cons (x:=kY "blocks") rfl (.cons (x:=kY "junk") rfl (.cons (x:=kY "other") rfl (.cons (x:=kY "one") rfl (.nil))))))))))
      refine dA ?_
      exact jJ6 _ _ _ _ _ _ (jH4 rfl S (Le.refl _) ⟨_,⟨rfl,by unfold iN;rw[if_pos (of_decide_eq_true c)]⟩⟩)
     ·refine e_ifp (decide (pj=s2)) ?_ (fun c2 t=>?_) (fun c2 t=>?_)
      ·refine aQ (aA S hE' (by exact rfl) ?_)
       refine bJ (aA S hE' (by exact rfl) ?_)
       refine aF ?_;intro uu13 _
       refine i_tup S tht (j:=1) rfl rfl ?_
       refine hX (aI ?_)
       exact pu (eS _ _)
      ·skip
       refine bW ?_;intro uu14 _
       refine aD S hE' ?_;clear S;intro h t S
       replace S:=S.few (.cons (x:=kY "tag") rfl (.cons (x:=kY "j") rfl (.cons (x:=kY "i") rfl (.cons (x:=kY "here") rfl (.cons (x:=kY "codes") rfl (.cons (x:=kY "blocks") rfl (.cons (x:=kY "junk") rfl (.cons (x:=kY "other") rfl (.cons (x:=kY "one") rfl (.nil))))))))))
       refine dA ?_
       exact jJ6 _ _ _ _ _ _ (jH4 rfl S (Le.refl _) ⟨_,⟨rfl,by unfold iN;rw[if_neg (of_decide_eq_false c),if_pos (of_decide_eq_true c2)]⟩⟩)
      ·skip
       refine bW ?_;intro uu15 _
       refine aD S hE' ?_;clear S;intro h t S
       replace S:=S.few (.cons (x:=kY "tag") rfl (.cons (x:=kY "j") rfl (.cons (x:=kY "i") rfl (.cons (x:=kY "here") rfl (.cons (x:=kY "codes") rfl (.cons (x:=kY "blocks") rfl (.cons (x:=kY "junk") rfl (.cons (x:=kY "other") rfl (.cons (x:=kY "one") rfl (.nil))))))))))
       refine dA ?_
       exact jJ6 _ _ _ _ _ _ (jH4 rfl S (Le.refl _) ⟨_,⟨rfl,by unfold iN;rw[if_neg (of_decide_eq_false c),if_neg (of_decide_eq_false c2)]⟩⟩)
    ·intro h d t B' m' M' S le;refine jI1 ?_;intro tk;refine jG2 ?_;intro zz6 zz7;obtain rfl:=zz6;obtain rfl:=zz7
     rename_i yy0 yy1 yy2;clear yy2 yy1;clear hp hi hcase hst hcod hnext hend lb1 c;injection hlen lc1 tij G ha hb hj hf hbl hcl tht tp lc c' le S with pa x1 x2 pi pj sb sc s1 s2 aa10 yy0 h d t B' tk
     replace G:=G.le le
     replace ha:=ha.le le
     replace hb:=hb.le le
     replace hj:=hj.le le
     replace hf:=bN hf le
     replace hbl:=bE hbl le
     replace hcl:=bS hcl le
     replace tht:=tht.le le
     replace tp:=tp.le le
     replace lc:=Le.trans lc le
     replace tij:=tij.le le
     refine aZ (aU (aA S hE' (by exact rfl) ?_))
     refine cA (M:=[]++_::[_]) S (lJ _ (kZ ..)) ?_
     refine dI (aB (bM (aB (aA S hE' (by exact rfl) ?_))))
     refine aB (bJ (aA S hE' (by exact rfl) ?_))
     refine aF ?_;intro uu16 _
     refine i_tup S tht (j:=0) rfl rfl ?_
     refine aB (aA S hE' (by exact rfl) ?_)
     refine aB (bJ (aA S hE' (by exact rfl) ?_))
     refine aF ?_;intro uu17 _
     refine i_tup S tht (j:=1) rfl rfl ?_
     refine aB (aA S hE' (by exact rfl) ?_)
     refine aC (bL S (lF rfl) ?_);clear S;intro h aa18 B' le TX S
     replace G:=G.le le
     replace ha:=ha.le le
     replace hb:=hb.le le
     replace hj:=hj.le le
     replace hf:=bN hf le
     replace hbl:=bE hbl le
     replace hcl:=bS hcl le
     replace tht:=tht.le le
     replace tp:=tp.le le
     replace lc:=Le.trans lc le
     replace tij:=tij.le le
     refine aC (bV (M₁:=[]) (M₂:=[_]) S (lB (m:=1000) (by lia) (by decide)) ?_);clear S;intro h n S
     refine dA (dA ?_)
     replace S:=S.few (.cons (x:=kY "j") rfl (.cons (x:=kY "i") rfl (.cons (x:=kY "here") rfl (.cons (x:=kY "codes") rfl (.cons (x:=kY "blocks") rfl (.cons (x:=kY "junk") rfl (.cons (x:=kY "other") rfl (.cons (x:=kY "one") rfl (.nil)))))))))
     have hx:=F2.snoc hcl (b:=((iN pi s1 pj s2,s1,pi,s2,pj):Cd)) (jJ6 _ _ _ _ _ _ ⟨rfl,TX⟩)
     exact jJ6 _ _ _ _ _ _ (jH4 rfl S lc (jJ2 _ _ (jH3 rfl rfl (by unfold cF;rw[if_neg c'];exact hx))))
   ·refine dA (dA ?_)
    have c':(pi,pj)=(s1,s2):=of_nd' c
    exact jJ6 _ _ _ _ _ _ (jH4 rfl S lc (jJ2 _ _ (jH3 rfl rfl (by unfold cF;rw[if_pos c'];exact hcl))))
  ·intro h d t B' m' M' S le;refine jI2 ?_;intro vc nc;refine jG3 ?_;intro zz8 zz9 hcl;obtain rfl:=zz8;obtain rfl:=zz9
   rename_i yy0 _ _ _ _ _ yy1;clear yy1 yy0;clear hi hst lc1;injection hp tp hcase hbl tht hcod hlen hnext hend lb1 le hcl S with pa x1 x2 pi pj sb sc s1 s2 h d t B' vc nc
   replace G:=G.le le
   replace ha:=ha.le le
   replace hb:=hb.le le
   replace hj:=hj.le le
   replace hf:=bN hf le
   replace hbl:=bE hbl le
   replace tht:=tht.le le
   replace tp:=tp.le le
   have lc1:=hcl.length
   have ltag:(cF sc (s1,s2) (pi,pj)).length≤sc.length+1:=by unfold cF;split<;>simp
   refine bH (decide (pi=one.length)) ?_ (fun c t=>?_) (fun c t=>?_)
   ·refine aQ (aA S hE' (by exact rfl) ?_)
    refine aR (cM (v:=.builtin "len") S hE' G (cJ _) rfl ?_)
    refine eE (aB (aA S hE' (by exact rfl) ?_))
    refine aC (n_len S ha (by lia) ?_);intro uu19 _
    refine hX (aI ?_)
    exact pu (by rw[la];exact eS _ _)
   ·obtain⟨q1,q2⟩:=hcase.1 (of_decide_eq_true c)
    have hend:=hend q1
    cases q2
    refine cN (bM (aB (aG (aA S hE' (by exact rfl) ?_))))
    refine jI1 ?_ (S.keepL (M₁:=[_]) (M₂:=[]) (eB.2▸e4.2));intro B1;refine jG3 ?_;intro le tb S
    replace G:=G.le le
    replace ha:=ha.le le
    replace hb:=hb.le le
    replace hj:=hj.le le
    replace hf:=bN hf le
    replace hbl:=bE hbl le
    replace tht:=tht.le le
    replace tp:=tp.le le
    replace hcl:=bS hcl le
    refine jI1 ?_ (S.keepL (M₁:=[]) (M₂:=[]) (eB.2▸e4.2));intro B2;refine jG3 ?_;intro le tc S
    replace tb:=tb.le le
    replace G:=G.le le
    replace ha:=ha.le le
    replace hb:=hb.le le
    replace hj:=hj.le le
    replace hf:=bN hf le
    replace hbl:=bE hbl le
    replace tht:=tht.le le
    replace tp:=tp.le le
    replace hcl:=bS hcl le
    refine bA (aB (bM (aB (aA S hE' (by exact rfl) ?_))))
    refine aB (aA S hE' (by exact rfl) ?_)
    refine aB (aF ?_);intro uu20 _
    refine aC (bL S (lF rfl) ?_);clear S;intro h aa21 B' le tlast S
    replace G:=G.le le
    replace ha:=ha.le le
    replace hb:=hb.le le
    replace hj:=hj.le le
    replace hf:=bN hf le
    replace hbl:=bE hbl le
    replace tht:=tht.le le
    replace tp:=tp.le le
    replace hcl:=bS hcl le
    replace tb:=tb.le le
    replace tc:=tc.le le
    refine aC (cD S (lF rfl) ?_);clear S;intro h a9 B' le tll S
    replace G:=G.le le
    replace ha:=ha.le le
    replace hb:=hb.le le
    replace hj:=hj.le le
    replace hf:=bN hf le
    replace hbl:=bE hbl le
    replace tht:=tht.le le
    replace tp:=tp.le le
    replace hcl:=bS hcl le
    replace tb:=tb.le le
    replace tc:=tc.le le
    replace tlast:=tlast.le le
    refine l_add S tb tll (lB (m:=1000) (by simp;lia) (by decide)) ?_;clear S;intro h r9 B' le tbl S
    replace G:=G.le le
    replace ha:=ha.le le
    replace hb:=hb.le le
    replace hj:=hj.le le
    replace hf:=bN hf le
    replace hbl:=bE hbl le
    replace tht:=tht.le le
    replace tp:=tp.le le
    replace hcl:=bS hcl le
    replace tb:=tb.le le
    replace tc:=tc.le le
    replace tlast:=tlast.le le
    refine aB (aA S hE' (by exact rfl) ?_)
    refine aC (bL S (lF rfl) ?_);clear S;intro h a10 B' le tres S
    replace G:=G.le le
    replace ha:=ha.le le
    replace hb:=hb.le le
    replace hj:=hj.le le
    replace hf:=bN hf le
    replace hbl:=bE hbl le
    replace tht:=tht.le le
    replace tp:=tp.le le
    replace hcl:=bS hcl le
    replace tb:=tb.le le
    replace tc:=tc.le le
    replace tlast:=tlast.le le
    refine jJ6 _ _ _ _ _ _ (jH3 rfl S (jJ3 _ _ _ (jH4 rfl tres (jJ2 _ _ (jH3 rfl (tbl.le le) ?_)) (jJ2 _ _ (jH3 rfl tc ?_)))))
    ·unfold gH;rw[←hend]
     exact hbl.append (.one (jJ4 _ _ _ _ ⟨rfl,tlast⟩))
    ·unfold gH;rw[←hend]
     exact hcl
   refine aJ ?_
   obtain⟨q1,q2⟩:=hcase.2 (of_decide_eq_false c)
   refine fW S (fun B' m' M'=>∃vb vc nb nc x0 x1' x2',M'=[(ca,lstO vc nc),(ba,lstO vb nb)]∧m'=vars [(kY "size",.int (cW sb (pi,pj) (s1,s2)).2.2 x2'),(kY "second",.int (cW sb (pi,pj) (s1,s2)).2.1 x1'),(kY "start",.int (cW sb (pi,pj) (s1,s2)).1 x0),(kY "j",.int pj x2),(kY "i",.int pi x1),(kY "here",.ref ht),(kY "codes",.ref ca),(kY "blocks",.ref ba),(kY "junk",.ref jn),(kY "other",.ref b),(kY "one",.ref a)]∧F2 (Bl B') vb (if(pi,pj)=(s1,s2)∧sb≠[] then sb.dropLast else sb)∧F2 (CdR B') vc (if(pi,pj)=(s1,s2)∧sb≠[] then (cF sc (s1,s2) (pi,pj)).dropLast else cF sc (s1,s2) (pi,pj))) ?_ ?_
   ·have lc:=Le.refl B'
    refine x_ifq (t_and (aQ (bM (aB (aA S hE' (by exact rfl) ?_)))))
    refine aB (aA S hE' (by exact rfl) ?_)
    refine aC (bL S (lF rfl) ?_);clear S;intro h aa22 B' le tij S
    replace G:=G.le le
    replace ha:=ha.le le
    replace hb:=hb.le le
    replace hj:=hj.le le
    replace hf:=bN hf le
    replace hbl:=bE hbl le
    replace tht:=tht.le le
    replace tp:=tp.le le
    replace hcl:=bS hcl le
    replace lc:=Le.trans lc le
    refine aA S hE' (by exact rfl) ?_
    refine c_eqD (Rd.tup tij (.cons (.int _ _ _) (.cons (.int _ _ _) .nil)) _ S.b) (Rd.tup tht (.cons (.int _ _ _) (.cons (.int _ _ _) .nil)) _ S.b) (fK _ _) (fK _ _) (by have:=hr.u;show A.units+3+64<_;lia) ?_
    rw[eqv_pr]
    refine aI (split_bool (fun c1=>?_) (fun c1=>?_))
    ·refine t_and (aQ (aA S hE' (by exact rfl) ?_))
     refine bA (aC (cD S (lF rfl) ?_));clear S;intro h a12 B' le tnil S
     replace G:=G.le le
     replace ha:=ha.le le
     replace hb:=hb.le le
     replace hj:=hj.le le
     replace hf:=bN hf le
     replace hbl:=bE hbl le
     replace tht:=tht.le le
     replace tp:=tp.le le
     replace hcl:=bS hcl le
     replace lc:=Le.trans lc le
     replace tij:=tij.le le
     refine c_neD (rd_own S (lX _ (kZ ..)) (hbl.map fun _ _ x=>x.rd)) (Rd.lst tnil .nil _ S.b) (shaped_bls _) rfl (by have:=hr.u;show A.units+3+64<_;lia) ?_
     rw[eqv_nil]
     refine aI (split_bool (fun c2=>?_) (fun c2=>?_))
     ·refine t_and0 ?_
      refine⟨fun _=>?_,fun q=>(nomatch q)⟩
      have cc:(pi,pj)=(s1,s2)∧sb≠[]:=⟨of_decide_eq_true c1,of_nd c2⟩
      have hlst:cW sb (pi,pj) (s1,s2)=sb.getLast cc.2:=by unfold cW;rw[if_pos cc,List.getLastD_eq_getLast?,List.getLast?_eq_some_getLast cc.2];rfl
      rw[if_pos cc,if_pos cc,hlst]
      have hne:cF sc (s1,s2) (pi,pj)≠[]:=by unfold cF;rw[if_pos cc.1];exact hcod cc.2
      refine jI2 ?_ (hbl.ne_nil cc.2);intro vb' v0;refine jG3 ?_;intro zz10 hbl' hl;obtain rfl:=zz10
      refine jI2 ?_ (hcl.ne_nil hne);intro vc' v1;refine jG3 ?_;intro zz11 hcl' _;obtain rfl:=zz11
      generalize sb.getLast cc.2=l at hl
      refine jI4 ?_ hl;try clear hl;intro aq y1 y2 y3;refine jG2 ?_;intro zz12 tq;obtain rfl:=zz12
      refine fB (aU (aA S hE' (by exact rfl) ?_))
      refine gm_pop (M:=[_]++_::[]) S (lJ _ (kZ ..)) ?_
      refine f_m0 (l_pop (M₁:=[_]) (M₂:=[]) S (lB (m:=1000) (by lia) (by decide)) ?_);clear S;intro h n S
      refine fF S tq hh ?_;clear S;intro h S
      refine aL (aK (aD S hE' ?_));clear S;intro h t S
      refine aL (aK (aD S hE' ?_));clear S;intro h t S
      refine aL (aK (aD S hE' ?_));clear S;intro h t S
      refine cK (aZ (aU (aA S hE' (by exact rfl) ?_)))
      refine gm_pop (M:=[]++_::[_]) S (lJ _ (kZ ..)) ?_
      refine f_m0 (l_pop (M₁:=[]) (M₂:=[_]) S (lB (m:=1000) (by lia) (by decide)) ?_);clear S;intro h n S
      refine dA (dA ?_)
      replace S:=S.few (.cons (x:=kY "size") rfl (.cons (x:=kY "second") rfl (.cons (x:=kY "start") rfl (.cons (x:=kY "j") rfl (.cons (x:=kY "i") rfl (.cons (x:=kY "here") rfl (.cons (x:=kY "codes") rfl (.cons (x:=kY "blocks") rfl (.cons (x:=kY "junk") rfl (.cons (x:=kY "other") rfl (.cons (x:=kY "one") rfl (.nil))))))))))))
      exact jJ6 _ _ _ _ _ _ (jH4 rfl S lc (jJ7 _ _ _ _ _ _ _ (jH4 rfl rfl hbl' hcl')))
     ·refine⟨fun q=>(nomatch q),fun _=>?_⟩
      have cc:¬((pi,pj)=(s1,s2)∧sb≠[]):=fun q=>absurd q.2 (fun h=>h (of_nd' c2))
      have hlst:cW sb (pi,pj) (s1,s2)=(pi,pj,0):=by unfold cW;rw[if_neg cc]
      rw[if_neg cc,if_neg cc,hlst]
      refine eC [kY "start",kY "second",kY "size"] ?_
      refine bM (aB (aA S hE' (by exact rfl) ?_))
      refine aB (aA S hE' (by exact rfl) ?_)
      refine aB (aF ?_);intro uu23 _
      refine aC (bL S (lF rfl) ?_);clear S;intro h aa24 B' le tq S
      replace G:=G.le le
      replace ha:=ha.le le
      replace hb:=hb.le le
      replace hj:=hj.le le
      replace hf:=bN hf le
      replace hbl:=bE hbl le
      replace tht:=tht.le le
      replace tp:=tp.le le
      replace hcl:=bS hcl le
      replace lc:=Le.trans lc le
      refine unpk S tq hh rfl ?_;clear S;intro h S
      refine aL (bnd (aD S hE' ?_));clear S;intro h t S
      refine aL (bnd (aD S hE' ?_));clear S;intro h t S
      refine aL (bnd (aD S hE' ?_));clear S;intro h t S
      refine cK (dA (dA ?_))
      replace S:=S.few (.cons (x:=kY "size") rfl (.cons (x:=kY "second") rfl (.cons (x:=kY "start") rfl (.cons (x:=kY "j") rfl (.cons (x:=kY "i") rfl (.cons (x:=kY "here") rfl (.cons (x:=kY "codes") rfl (.cons (x:=kY "blocks") rfl (.cons (x:=kY "junk") rfl (.cons (x:=kY "other") rfl (.cons (x:=kY "one") rfl (.nil))))))))))))
      exact jJ6 _ _ _ _ _ _ (jH4 rfl S lc (jJ7 _ _ _ _ _ _ _ (jH4 rfl rfl hbl hcl)))
    ·refine⟨fun q=>(nomatch q),fun _=>?_⟩
     have cc:¬((pi,pj)=(s1,s2)∧sb≠[]):=fun q=>absurd q.1 (of_decide_eq_false c1)
     have hlst:cW sb (pi,pj) (s1,s2)=(pi,pj,0):=by unfold cW;rw[if_neg cc]
     rw[if_neg cc,if_neg cc,hlst]
     refine eC [kY "start",kY "second",kY "size"] ?_
     refine bM (aB (aA S hE' (by exact rfl) ?_))
     refine aB (aA S hE' (by exact rfl) ?_)
     refine aB (aF ?_);intro uu25 _
     refine aC (bL S (lF rfl) ?_);clear S;intro h aa26 B' le tq S
     replace G:=G.le le
     replace ha:=ha.le le
     replace hb:=hb.le le
     replace hj:=hj.le le
     replace hf:=bN hf le
     replace hbl:=bE hbl le
     replace tht:=tht.le le
     replace tp:=tp.le le
     replace hcl:=bS hcl le
     replace lc:=Le.trans lc le
     refine unpk S tq hh rfl ?_;clear S;intro h S
     refine aL (bnd (aD S hE' ?_));clear S;intro h t S
     refine aL (bnd (aD S hE' ?_));clear S;intro h t S
     refine aL (bnd (aD S hE' ?_));clear S;intro h t S
     refine cK (dA (dA ?_))
     replace S:=S.few (.cons (x:=kY "size") rfl (.cons (x:=kY "second") rfl (.cons (x:=kY "start") rfl (.cons (x:=kY "j") rfl (.cons (x:=kY "i") rfl (.cons (x:=kY "here") rfl (.cons (x:=kY "codes") rfl (.cons (x:=kY "blocks") rfl (.cons (x:=kY "junk") rfl (.cons (x:=kY "other") rfl (.cons (x:=kY "one") rfl (.nil))))))))))))
     exact jJ6 _ _ _ _ _ _ (jH4 rfl S lc (jJ7 _ _ _ _ _ _ _ (jH4 rfl rfl hbl hcl)))
   ·intro h d t B' m' M' S le;refine jI7 ?_;intro vb vc nb nc x0 x1' x2';refine jG4 ?_;intro zz13 zz14 hbl hcl;obtain rfl:=zz13;obtain rfl:=zz14
    injection le hbl hcl S with h d t B' vb vc nb nc x0 x1' x2'
    replace G:=G.le le
    replace ha:=ha.le le
    replace hb:=hb.le le
    replace hj:=hj.le le
    replace hf:=bN hf le
    replace tht:=tht.le le
    replace tp:=tp.le le
    have lb2:=hbl.length
    have lc2:=hcl.length
    have lb3:(if(pi,pj)=(s1,s2)∧sb≠[] then sb.dropLast else sb).length≤sb.length:=by split<;>simp
    have lc3:(if(pi,pj)=(s1,s2)∧sb≠[] then (cF sc (s1,s2) (pi,pj)).dropLast else cF sc (s1,s2) (pi,pj)).length≤(cF sc (s1,s2) (pi,pj)).length:=by split<;>simp
    refine aZ (aU (aA S hE' (by exact rfl) ?_))
    refine cA (M:=[_]++_::[]) S (lJ _ (kZ ..)) ?_
    refine dI (aB (bM (aB (aA S hE' (by exact rfl) ?_))))
    refine aB (aA S hE' (by exact rfl) ?_)
    refine aB (aG (aA S hE' (by exact rfl) ?_))
    refine aF ?_;intro uu27 _
    refine aX ?_;intro uu28 _
    refine aC (bL S (lF rfl) ?_);clear S;intro h aa29 B' le TX1 S
    replace G:=G.le le
    replace ha:=ha.le le
    replace hb:=hb.le le
    replace hj:=hj.le le
    replace hf:=bN hf le
    replace tht:=tht.le le
    replace tp:=tp.le le
    replace hbl:=bE hbl le
    replace hcl:=bS hcl le
    refine aC (bV (M₁:=[_]) (M₂:=[]) S (lB (m:=1000) (by lia) (by decide)) ?_);clear S;intro h n S
    refine aZ (aU (aA S hE' (by exact rfl) ?_))
    refine cA (M:=[]++_::[_]) S (lJ _ (kZ ..)) ?_
    refine dI (aB (bM (aB (bW ?_))));intro uu30 _
    refine aB (aA S hE' (by exact rfl) ?_)
    refine aB (aG (aA S hE' (by exact rfl) ?_))
    refine aF ?_;intro uu31 _
    refine aX ?_;intro uu32 _
    refine aB (aA S hE' (by exact rfl) ?_)
    refine aB (aG (aA S hE' (by exact rfl) ?_))
    refine aF ?_;intro uu33 _
    refine aX ?_;intro uu34 _
    refine aC (bL S (lF rfl) ?_);clear S;intro h aa35 B' le TX2 S
    replace G:=G.le le
    replace ha:=ha.le le
    replace hb:=hb.le le
    replace hj:=hj.le le
    replace hf:=bN hf le
    replace tht:=tht.le le
    replace tp:=tp.le le
    replace hbl:=bE hbl le
    replace hcl:=bS hcl le
    replace TX1:=TX1.le le
    refine aC (bV (M₁:=[]) (M₂:=[_]) S (lB (m:=1000) (by lia) (by decide)) ?_);clear S;intro h n S
    refine aY (bM (aB (aG (aA S hE' (by exact rfl) ?_))))
    refine aF ?_;intro uu36 _
    refine aX ?_;intro uu37 _
    refine aB (aG (aA S hE' (by exact rfl) ?_))
    refine aF ?_;intro uu38 _
    refine aX ?_;intro uu39 _
    refine aC (bL S (lF rfl) ?_);clear S;intro h aa40 B' le TX3 S
    replace G:=G.le le
    replace ha:=ha.le le
    replace hb:=hb.le le
    replace hj:=hj.le le
    replace hf:=bN hf le
    replace tht:=tht.le le
    replace tp:=tp.le le
    replace hbl:=bE hbl le
    replace hcl:=bS hcl le
    replace TX1:=TX1.le le
    replace TX2:=TX2.le le
    refine aD S hE' ?_;clear S;intro h t S
    refine aJ ?_
    replace S:=S.few (.cons (x:=kY "here") rfl (.cons (x:=kY "codes") rfl (.cons (x:=kY "blocks") rfl (.cons (x:=kY "junk") rfl (.cons (x:=kY "other") rfl (.cons (x:=kY "one") rfl (.nil)))))))
    obtain⟨uA,uB,TX3⟩:∃uA uB,Tup B' _ [.int ((pi:Int)+1) uA,.int ((pj:Int)+1) uB]:=jJ2 _ _ TX3
    exact jJ6 _ _ _ _ _ _ (jH5 rfl S q1 hf (jJ7 _ uA uB _ _ _ _ (jH5 rfl rfl (by rw[q2,hnext];exact hbl.append (.one (jJ4 _ _ _ _ ⟨rfl,TX1⟩))) (by rw[q2,hnext];exact hcl.append (.one (jJ6 _ _ _ _ _ _ ⟨rfl,TX2⟩))) (by rw[q2,hnext];exact TX3))))
 ·rintro h d t B' m' M' S le (⟨hi,hf,_⟩ | hf)
  ·rw[lR,mG] at hi;lia
  ·exact hf.elim
 ·rintro v h d t B' m' M' S le hx
  rename_i yy0 yy1 yy2;clear yy2 yy1;clear plen pin l1 tl G ha hb hj t0 tl1 hf1 tz ty hf le;injection S hx with ps uu8 uu9 a2 a3 r2 yy0 v h d t B' m' M'
  exact S.ends e1 e2 e3 e4 hx
end
theorem fN {f:Nat→List Nat}{n:Nat}{ks:List Nat}(h:∀k∈ks,(f k).length=n):(ks.flatMap f).length=ks.length*n:=by
 induction ks with
 | nil=>simp
 | cons k r ih=>rw[mO,lR,ih (fun x hx=>h x (lX _ hx)),h k (kZ ..),qD,nC];lia
theorem gE {f:Nat→List Nat}{s:Nat}(hs:0<s):∀{A:List Nat},(∀k∈A,(f k).length=s)→∀{i:Nat},i<A.length*s→(A.flatMap f).getD i 0=(f (A.getD (i/s) 0)).getD (i%s) 0
 | [],_,i,hi=>by simp at hi
 | k::r,h,i,hi=>by
  rw[mO]
  have hk:=h k (kZ ..)
  rcases oF i s with q | q
  ·rw[qY q,Nat.mod_eq_of_lt q,mR,oR (by rw[hk];exact q),←mR]
   rfl
  ·have e:i=(i-s)+s:=(qI q).symm
   rw[mR,List.getElem?_append_right (by rw[hk];exact q),hk,←mR]
   rw[gE hs (A:=r) (fun x hx=>h x (lX _ hx)) (by rw[qD,nC] at hi;lia)]
   have e1:i/s=(i-s)/s+1:=by
    conv=>lhs;rw[e]
    rw[Nat.add_div_right _ hs]
   have e2:i%s=(i-s)%s:=by
    conv=>lhs;rw[e]
    rw[Nat.add_mod_right]
   rw[e1,e2]
   rfl
theorem sc_row {s:Nat}{f:Nat→List Nat}{A Bp:List Nat}{jk jk':Nat→Bool}(hs:0<s)(hlen:∀k<8,(f k).length=s)(hinj:∀k<8,∀l<8,∀r<s,∀q<s,(f k).getD r 0=(f l).getD q 0→k=l∧r=q)
  (hA:∀k∈A,k<8) (hB:∀k∈Bp,k<8) (hj:∀k<8,∀r<s,jk' ((f k).getD r 0)=jk k):
  Sc s (eqN A Bp) (eqN (A.flatMap f) (Bp.flatMap f)) (jkN A jk) (jkN (A.flatMap f) jk') A.length Bp.length where
 pos:=hs
 e i j hi hj':=by
  have h8:∀{L:List Nat} {i:Nat},(∀k∈L,k<8)→i<L.length*s→L.getD (i/s) 0<8:=fun {L i} hL hi=>by
   have q:i/s<L.length:=(nI hs).2 hi
   rw[mR,mH q]
   exact hL _ (pO q)
  unfold eqN
  rw[gE hs (fun k hk=>hlen k (hA k hk)) hi,gE hs (fun k hk=>hlen k (hB k hk)) hj']
  have a1:=h8 hA hi
  have a2:=h8 hB hj'
  generalize A.getD (i/s) 0=k at a1
  generalize Bp.getD (j/s) 0=l at a2
  have m1:=nS i hs
  have m2:=nS j hs
  rw[lI]
  simp only[oX,decide_eq_true_eq]
  constructor
  ·intro e
   have:=hinj k a1 l a2 _ m1 _ m2 e
   exact⟨this.2,this.1⟩
  ·rintro⟨e1,rfl⟩;rw[e1]
 j i hi:=by
  unfold jkN
  rw[gE hs (fun k hk=>hlen k (hA k hk)) hi]
  refine hj _ ?_ _ (nS i hs)
  have q:i/s<A.length:=(nI hs).2 hi
  rw[mR,mH q]
  exact hA _ (pO q)
noncomputable def injB (f:Nat→List Nat)(s:Nat):Bool:=(lW 8).all fun k=>(lW 8).all fun l=>(lW s).all fun r=>(lW s).all fun q=>!((f k).getD r 0==(f l).getD q 0)||(k==l&&r==q)
theorem inj_of {f:Nat→List Nat}{s:Nat}(h:injB f s=true):∀k<8,∀l<8,∀r<s,∀q<s,(f k).getD r 0=(f l).getD q 0→k=l∧r=q:=by
 intro k hk l hl r hr q hq e
 unfold injB at h
 have:=pY.1 (pY.1 (pY.1 (pY.1 h k (nB.2 hk)) l (nB.2 hl)) r (nB.2 hr)) q (nB.2 hq)
 rw[e] at this
 simpa using this
theorem inj16:∀k<8,∀l<8,∀r<2,∀q<2,(s16 k).getD r 0=(s16 l).getD q 0→k=l∧r=q:=inj_of (by decide +kernel)
theorem inj64:∀k<8,∀l<8,∀r<4,∀q<4,(s64 k).getD r 0=(s64 l).getD q 0→k=l∧r=q:=inj_of (by decide +kernel)
noncomputable abbrev j16:List Nat:=(kY "19").cps.toList
noncomputable abbrev j64:List Nat:=(kY "EFGH").cps.toList
noncomputable abbrev j00:List Nat:=(kY "").cps.toList
theorem jun16:∀k<8,∀r<2,jkOf true j16 ((s16 k).getD r 0)=jkOf false [1] k:=by decide +kernel
theorem jun64:∀k<8,∀r<4,jkOf true j64 ((s64 k).getD r 0)=jkOf false [1] k:=by decide +kernel
theorem junA (md:Bool)(k:Nat):jkOf md [] k=false:=rfl
theorem j00_nil:j00=[]:=by decide
noncomputable def MS (jk:Nat→Bool)(A Bp:List Nat):List (Nat×Nat×Nat):=mgOf A.length Bp.length (bl (eqN A Bp) (jkN A jk) (0,A.length,0,Bp.length))
theorem MS_sc {s:Nat}{f:Nat→List Nat}{A Bp:List Nat}{jk jk':Nat→Bool}(hs:0<s)(hlen:∀k<8,(f k).length=s)(hinj:∀k<8,∀l<8,∀r<s,∀q<s,(f k).getD r 0=(f l).getD q 0→k=l∧r=q)
  (hA:∀k∈A,k<8) (hB:∀k∈Bp,k<8) (hj:∀k<8,∀r<s,jk' ((f k).getD r 0)=jk k):
  MS jk' (A.flatMap f) (Bp.flatMap f)=(MS jk A Bp).map (sc s)∧(bR (MS jk' (A.flatMap f) (Bp.flatMap f))).2=(bR (MS jk A Bp)).2.map (scC s):=by
 have S:=sc_row hs hlen hinj hA hB hj
 have e:MS jk' (A.flatMap f) (Bp.flatMap f)=(MS jk A Bp).map (sc s):=by
  unfold MS
  rw[fN (fun k hk=>hlen k (hA k hk)),fN (fun k hk=>hlen k (hB k hk)),bl_sc S,mgOf_sc hs]
 rw[e,opRun_sc hs]
 exact⟨rfl,rfl⟩
theorem castD (A:List Nat)(i:Nat):(A.map fun n:Nat=>(n:Int)).getD i 0=((A.getD i 0:Nat):Int):=by
 rw[mR,oZ,mR]
 cases A[i]? <;>rfl
theorem due_is (A Bp js:List Nat):gH (A.map fun n:Nat=>(n:Int)).length (Bp.map fun n:Nat=>(n:Int)).length (aW (bD (eqI (A.map fun n:Nat=>(n:Int)) (Bp.map fun n:Nat=>(n:Int))) (jkI (A.map fun n:Nat=>(n:Int)) (js.map fun n:Nat=>(n:Int))) ((A.map fun n:Nat=>(n:Int)).length+1) 0 (A.map fun n:Nat=>(n:Int)).length 0 (Bp.map fun n:Nat=>(n:Int)).length))
  = (MS (jkOf false js) A Bp,(bR (MS (jkOf false js) A Bp)).2):=by
 have e1:eqI (A.map fun n:Nat=>(n:Int)) (Bp.map fun n:Nat=>(n:Int))=eqN A Bp:=by
  funext i j
  unfold eqI eqN
  rw[castD,castD,eS]
 have e2:jkI (A.map fun n:Nat=>(n:Int)) (js.map fun n:Nat=>(n:Int))=jkN A (jkOf false js):=by
  funext i
  unfold jkI jkN jkOf inJ
  rw[castD,fT]
  cases js with
  | nil=>rfl
  | cons x r=>simp
 rw[e1,e2,lZ,lZ]
 have e3:bD (eqN A Bp) (jkN A (jkOf false js)) (A.length+1) 0 A.length 0 Bp.length=bl (eqN A Bp) (jkN A (jkOf false js)) (0,A.length,0,Bp.length):=
  cS _ _ _ _ _ _ _ _ (lC _) (lC _) (lV _) (lE _)
 rw[e3]
 obtain⟨h1,h2⟩:=eY (eqN A Bp) (jkN A (jkOf false js)) (A.length-0) 0 A.length 0 Bp.length (lC _) (lC _)
 exact due_eq (fun c hc=>jH3 ((h1 c hc).2.1) ((h1 c hc).2.2.2.1) ((h1 c hc).2.2.2.2)) h2
theorem MS_len (jk:Nat→Bool)(A Bp:List Nat):(MS jk A Bp).length≤A.length+2:=by
 have h1:=bl_len (eqN A Bp) (jkN A jk) (0,A.length,0,Bp.length) (lC _) (lC _)
 have h2:=fL (bl (eqN A Bp) (jkN A jk) (0,A.length,0,Bp.length))
 dsimp only at h1
 unfold MS mgOf
 split<;>simp<;>lia
theorem opRun_len (l:List (Nat×Nat×Nat)):(bR l).2.length≤2*l.length:=by
 generalize hn:l.length=n
 induction n generalizing l with
 | zero=>have:=nT hn;subst this;exact lE _
 | succ n ih=>
  rcases mW l with rfl | ⟨qs,q,rfl⟩
  ·simp at hn
  ·rw[mX] at hn⊢
   have h1:=ih qs (by simpa using hn)
   rw[cC]
   unfold dH cT
   dsimp only
   split<;>(split<;>simp<;>lia)
noncomputable def ltr (n:Int):Nat:=((n.fdiv 5).fmod 8).toNat
noncomputable def snd (n:Int):Nat:=((n.fdiv 40).fmod 8).toNat
noncomputable def kin (n:Int):Nat:=(n.fmod 5).toNat
noncomputable def oneP (n:Int):List Nat:=[[ltr n],[ltr n],[],[ltr n],[ltr n,snd n]].getD (kin n) []
noncomputable def othP (n:Int):List Nat:=[[ltr n],[],[ltr n],[snd n],[snd n,ltr n]].getD (kin n) []
theorem mod_in (a:Int){b:Int}(hb:0<b):0≤a.fmod b∧a.fmod b<b:=⟨Int.fmod_nonneg_of_pos _ hb,Int.fmod_lt_of_pos _ hb⟩
theorem ltr_c (n:Int):(n.fdiv 5).fmod 8=(ltr n:Nat)∧ltr n<8:=by
 have:=mod_in (n.fdiv 5) (b:=8) (by decide)
 unfold ltr;exact ar_36 8 this
theorem snd_c (n:Int):(n.fdiv 40).fmod 8=(snd n:Nat)∧snd n<8:=by
 have:=mod_in (n.fdiv 40) (b:=8) (by decide)
 unfold snd;exact ar_36 8 this
theorem kin_c (n:Int):n.fmod 5=(kin n:Nat)∧kin n<5:=by
 have:=mod_in n (b:=5) (by decide)
 unfold kin;exact ar_36 5 this
theorem iF (n:Int):(∀k∈oneP n,k<8)∧(oneP n).length≤2:=by
 have h1:=(ltr_c n).2
 have h2:=(snd_c n).2
 have h3:=(kin_c n).2
 unfold oneP
 generalize kin n=k at h3
 generalize ltr n=a at h1
 generalize snd n=b at h2
 rcases k with _ | _ | _ | _ | _ | k<;>first | lia | simp_all
theorem iE (n:Int):(∀k∈othP n,k<8)∧(othP n).length≤2:=by
 have h1:=(ltr_c n).2
 have h2:=(snd_c n).2
 have h3:=(kin_c n).2
 unfold othP
 generalize kin n=k at h3
 generalize ltr n=a at h1
 generalize snd n=b at h2
 rcases k with _ | _ | _ | _ | _ | k<;>first | lia | simp_all
theorem fm_len {f:Int→List Nat}(h:∀n,(f n).length≤2)(ns:List Int):(ns.flatMap f).length≤2*ns.length:=by
 induction ns with
 | nil=>simp
 | cons n r ih=>rw[mO,lR,qD];have:=h n;lia
section
variable {w:jS}{A:jV}{C:Cx}{m mg mb:kJ→Option jL}{B:Base}{M:List (jQ×kK)}
 {h:kI} {g:Array jX} {d:kU} {t:Nat} {os:jU} {env:Env} {Q:jL→jP→Prop} {QP:jL×List jL→jP→Prop} {E:jL→jP→Prop}
theorem fM {a:jQ}{vs:List jL}{n:Nat}{pl:Sem Bool}(S:St C B h m M)(hm:(a,lstO vs n)∈M)(k:QP (.builtin "list.extend",[.ref a]) ⟨h,g,d,t,os⟩):
  jN (jM PW w) A (getMethod (.ref a) "extend" pl) QP E ⟨h,g,d,t,os⟩:=getMethod_list_of PySem.F.slot_list_extend PySem.F.type_list_extend (eI S hm) (own_nd S hm) k
theorem fZ {M₁ M₂:List (jQ×kK)}{a b:jQ}{vs ws:List jL}{n:Nat}(S:St C B h m (M₁++(a,lstO vs n)::M₂))(hb:Lst B b ws)(hsz:vs.length+ws.length≤kC)
  (k:∀h' n',St C B h' m (M₁++(a,lstO (vs++ws) n')::M₂)→Q .none ⟨h',g,d,t,os⟩):
  jN (jM PW w) A (call (.builtin "list.extend") [.ref a,.ref b]) Q E ⟨h,g,d,t,os⟩:=by
 have hl:=(S.m (a,lstO vs n) (lJ _ (kZ ..))).1
 obtain⟨n2,eb⟩:=hb
 have hsz':vs.toArray.size+ws.toArray.size≤kC:=by rw[lY,lY];exact hsz
 refine call_meets (s:=⟨h,g,d,t,os⟩) PySem.F.slot_list_extend ⟨_,hl,rfl⟩ PySem.F.entry_list_extend (PySem.F.args_list_extend_2 _ _) (AutoSeq1.list_extend_list_list_0 a vs.toArray n b ws.toArray n2 (extend_door hsz') (lB (mQ _ _) hsz')) (jH3 hl (S.b _ _ eb) ?_)
 have hu:=nZ (Obj.mapSeq fun x=>x++ws.toArray) hl (by rw[mapSeq_app];rfl)
 refine k _ (if(vs.toArray++ws.toArray).size==vs.toArray.size then n else n+1) (S.chg (Heap.SameBut.update ..) ?_)
 rw[hu,mapSeq_app]
 simp
theorem e_sliceU {hi:Expr}{p:kW}
  (k:jN (jM PW w) A (eval hi env) (fun u s₂=>jN (jM PW w) A (newFields "slice" [.none,u,.none]) Q E s₂) E ⟨h,g,d,t,os⟩):
  jN (jM PW w) A (eval (.Slice none (some hi) none p) env) Q E ⟨h,g,d,t,os⟩:=by
 rw[arm_eval_Slice]
 refine jK (jO (jK (kB ?_)))
 show jN _ _ (eval hi env) _ _ _
 refine jR k (fun u s₂ h₂=>jK (kB ?_)) fun _ _ z=>z
 exact jO h₂
theorem take5 (vs:List jL):slicePick vs.toArray none (some 5) none=(vs.take 5).toArray:=by
 have:=slicePick_upto' vs.toArray 5
 simpa using this
theorem r_slc5 {value slice:Expr}{l:jQ}{vs:List jL}{u:Tok}(S:St C B h m M)(hl:Lst B l vs)(hsz:vs.length≤kC)
  (k:∀h' a B',Le B B'→Lst B' a (vs.take 5)→St C B' h' m M→Q (.ref a) ⟨h',g,d,t,os⟩)
  (hs:autoParam (∀a:jQ,subscripted slice false (.ref l) (.ref a)=operate [.ref a,.ref l] (getItem (.ref l) (.ref a))) tW)
  (ht:autoParam (∀r,letTemporaryGo value (.ref l) r=pure ()) tW):
  jN (jM PW w) A (newFields "slice" [.none,.int 5 u,.none]) (fun v s₂=>jN (jM PW w) A (subscriptTail value slice (.ref l) v) Q E s₂) E ⟨h,g,d,t,os⟩:=by
 refine kP ?_
 have S1:=S.kp (Kp.push h {cls:=.type "slice",data:=.fields #[.none,.int 5 u,.none]})
 refine slice_listK (s:=⟨h,g,d,t,os⟩) (vl:=.none) (vu:=.int 5 u) (hl.at S) (lo:=none) (hi:=some 5) .none (.int 5 u) ?_ (hs _) ht (by rw[lY];exact hsz)
 rw[take5]
 have S2:=S1.froz (lstO (vs.take 5)) rfl
 have e:=aV (lstO (vs.take 5)) S1.freshB
 have z:(h.push {cls:=.type "slice",data:=.fields #[.none,.int 5 u,.none]}).objs.size=h.objs.size+1:=mK ..
 refine k _ (h.objs.size+1) _ e ⟨0,?_⟩ S2
 rw[←z];exact aM _ _ _
theorem i_lstT {value slice:Expr}{l:jQ}{vs:List jL}{i:Int}{u:Tok}{x:jL}(S:St C B h m M)(hl:Lst B l vs)(h0:0≤i)(hfit:i<2 ^ 63)(hx:vs[i.toNat]? =some x)(k:∀t',Q x ⟨h,g,d,t',os⟩)
  (hs:autoParam (subscripted slice false (.ref l) (.int i u)=operate [.ref l,.int i u] (getItem (.ref l) (.int i u))) tW):
  jN (jM PW w) A (subscriptTail value slice (.ref l) (.int i u)) Q E ⟨h,g,d,t,os⟩:=
 kba_turn (value':=.Name (kY "x") ⟨0,0,0,0⟩) (fun _=>rfl) (i_lst S hl h0 hfit hx (k _) hs (fun _=>rfl))
end
noncomputable def dTold (l:List (Nat×Nat×Nat))(c:List Cd):PyData:=.tuple [.list (l.map dBl),.list (c.map dCd)]
noncomputable def dTx (x y:kJ):PyData:=.list [.str x,.str y]
theorem layAllP {α:Type}{f:α→PyData}{k:Nat}{l:List α}(h:∀x∈l,(f x).canLay0=true∧(f x).depth≤k):nU (l.map f)=true∧nL (l.map f)≤k:=by
 induction l with
 | nil=>exact⟨rfl,lC _⟩
 | cons x r ih=>
  have hx:=h x (kZ ..)
  have hr:=ih fun y hy=>h y (lX _ hy)
  rw[mD,nU,nL];exact⟨by rw[hx.1,hr.1];rfl,Nat.max_le.2 ⟨hx.2,hr.2⟩⟩
theorem lay_cd (c:Cd)(h:mY c.1=true):(dCd c).canLay0=true∧(dCd c).depth≤1:=⟨by simp[dCd,pD,nU,h],by simp[dCd,oK,nL]⟩
theorem opTag_ok {a b c d:Nat}{t:kJ}(h:dN a b c d=some t):mY t=true:=by
 unfold dN at h
 split at h
 ·cases h;decide +kernel
 ·split at h
  ·cases h;decide +kernel
  ·split at h
   ·cases h;decide +kernel
   ·cases h
theorem opRun_ok (l:List (Nat×Nat×Nat)):∀c∈(bR l).2,mY c.1=true:=by
 generalize hn:l.length=n
 induction n generalizing l with
 | zero=>have:=nT hn;subst this;intro c hc;cases hc
 | succ n ih=>
  rcases mW l with rfl | ⟨qs,q,rfl⟩
  ·simp at hn
  ·rw[mX] at hn⊢
   have h1:=ih qs (by simpa using hn)
   rw[cC]
   generalize bR qs=st at h1
   have hp:∀c∈cT st q,mY c.1=true:=fun c hc=>by
    unfold cT at hc
    split at hc
    ·rename_i t e
     rcases lQ.1 hc with hc | hc
     ·exact h1 c hc
     ·rw[lA.1 hc];exact opTag_ok e
    ·exact h1 c hc
   intro c hc
   unfold dH at hc
   dsimp only at hc
   split at hc
   ·exact hp c hc
   ·rcases lQ.1 hc with hc | hc
    ·exact hp c hc
    ·rw[lA.1 hc];show mY (kY "equal")=true;decide +kernel
theorem scC_ok {s:Nat}{cs:List Cd}(h:∀c∈cs,mY c.1=true):∀c∈cs.map (scC s),mY c.1=true:=fun c hc=>by
 refine jI1 ?_ (mC.1 hc);intro x;refine jG2 ?_;intro hx zz1;obtain rfl:=zz1
 exact h x hx
theorem gX (l:List (Nat×Nat×Nat))(c:List Cd)(h:∀x∈c,mY x.1=true):SeqAt.shaped (dTold l c)=true:=by
 have h1:=layAll lay_bl l
 have h2:=layAllP (f:=dCd) (l:=c) (k:=1) fun x hx=>lay_cd x (h x hx)
 unfold SeqAt.shaped dTold
 rw[pD,nU,nU,nU,pD,pD,h1.1,h2.1,oK,nL,nL,nL,oK,oK]
 simp only[Bool.and_self,Bool.true_and,decide_eq_true_eq]
 lia
theorem shaped_tx (x y:kJ)(hx:mY x=true)(hy:mY y=true):SeqAt.shaped (dTx x y)=true:=by
 unfold SeqAt.shaped dTx;simp[pD,nU,oK,nL,hx,hy]
theorem gF {d:PyData}(h:SeqAt.shaped d=true):oT d d=true:=SeqAt.eqv_refl d (SeqAt.canLay_of_shaped h)
theorem hZ {B:Base}{r:jQ}{x y:jL}{l:List (Nat×Nat×Nat)}{c:List Cd}(ht:Tup B r [x,y])(hx:dE Bl B x l)(hy:dE CdR B y c):Rd B (.ref r) (dTold l c):=by
 refine jI2 ?_ hx;try clear hx;intro a vs;refine jG3 ?_;intro zz2 h1 h2;obtain rfl:=zz2
 refine jI2 ?_ hy;try clear hy;intro b ws;refine jG3 ?_;intro zz3 h3 h4;obtain rfl:=zz3
 exact .tup ht (.cons (.lst h1 (h2.map fun _ _ z=>z.rd)) (.cons (.lst h3 (h4.map fun _ _ z=>z.rd)) .nil))
theorem tx_rd {B:Base}{r:jQ}{x y:kJ}{t u:Tok}(h:Lst B r [.str x t,.str y u]):Rd B (.ref r) (dTx x y):=.lst h (.cons (.str _ _ _) (.cons (.str _ _ _) .nil))
theorem fD {B B':Base}{v:jL}{l:List (Nat×Nat×Nat)}(x:dE Bl B v l)(le:Le B B'):dE Bl B' v l:=jI2 (fun a vs=>jG3 fun e h1 h2=>(jJ2 a vs (jH3 e (h1.le le) (bE h2 le)))) x
theorem eM {B B':Base}{v:jL}{l:List Cd}(x:dE CdR B v l)(le:Le B B'):dE CdR B' v l:=jI2 (fun a vs=>jG3 fun e h1 h2=>(jJ2 a vs (jH3 e (h1.le le) (bS h2 le)))) x
structure JunkV (B:Base)(v:jL)(jl t16 t64:List Nat):Prop where
 l:∃jx ex vj u1 u2,v=.ref jx∧Lst B jx [.ref ex,.str ⟨t16.toArray⟩ u1,.str ⟨t64.toArray⟩ u2]∧Lst B ex vj∧F2 (fun v k=>El false k v) vj jl
 one:∀k l,jkOf false jl k=true→jkOf false jl l=true→k=l
 a:∀k<8,∀r<2,jkOf true t16 ((s16 k).getD r 0)=jkOf false jl k
 b:∀k<8,∀r<4,jkOf true t64 ((s64 k).getD r 0)=jkOf false jl k
 z:jl.length≤60∧t16.length≤60∧t64.length≤60
theorem JunkV.le {B B':Base}{v:jL}{jl t16 t64:List Nat}(x:JunkV B v jl t16 t64)(l:Le B B'):JunkV B' v jl t16 t64:=
 {x with l:=jI5 (fun jx ex vj u1 u2=>jG4 fun e h1 h2 h3=>(jJ5 jx ex vj u1 u2 (jH4 e (h1.le l) (h2.le l) h3))) x.l}
theorem mul2 (a:Int):IntMulOk a ((2:Nat):Int):=.of_right (by decide)
theorem mul4 (a:Int):IntMulOk a ((4:Nat):Int):=.of_right (by decide)
section
variable {w:jS}{A:jV}{s:jP}{mg mb:kJ→Option jL}{B:Base}
theorem c_law {sa:jQ}{vs:List jL}{ns:List Int}
  (hl:Lst B sa vs) (hi:IntsAre vs ns) (hsz:ns.length≤1000)
  (hd:s.heap.get? 325=some (tabObj #[])) (hdB:B 325=none) (hbm:BM mg B)
  (G:Gr w mg mb B) (hB:∀a o,B a=some o→s.heap.get? a=some o) (hr:Room A 202):
  jN (jM PW w) A (call (.ref 340) [.ref sa]) (dF B s 325 fun v B' od'=>v=.bool true∧∃ps',od'=tabObj ps'∧Tab B' posL gY ps') no s:=by
 refine' gI (o:=o_340 w.params) (binds:=[(kY "script",.ref sa)]) G hB hd hdB hr.d' ?ho ?hd ?hcd ?hb ?c1 ?c2 ?c3 ?c4 ?c5 ?_
 case ho=>exact rfl
 case hd=>exact rfl
 case hcd=>exact rfl
 case hb=>exact BindsTo.of_eq rfl
 case c1=>decide
 case c2=>exact locs rfl
 case c3=>exact rfl
 case c4=>exact rfl
 case c5=>exact rfl
 intro C h t e1 e2 S e3 e4
 have hh:=hr.h
 have hu:∀{env:Env},(A.deeper env).units+64<cLine:=fun {env}=>hr.deeper.u'
 generalize hEe:envX _ _ C.L _ _ []=env
 have hE:aP C env:=hEe▸⟨rfl,rfl,rfl,rfl⟩
 subst hEe
 change St C B h (vars [(kY "script",.ref sa)]) ([(325,tabObj #[])]) at S
 clear hd hdB hB;injection hl hi hsz hbm G hr e1 e2 e3 e4 hh hu hE S with w A s mg mb B sa vs ns C h t
 have hvl:=hi.length
 refine aY (bA (aC (fR S (lC _) ?_)));clear S;intro h oa S
 refine aD S hE ?_;clear S;intro h t S
 refine aY (bA (aC (fR S (lC _) ?_)));clear S;intro h pa S
 refine aD S hE ?_;clear S;intro h t S
 replace S:=S.few (.cons (x:=kY "other") rfl (.cons (x:=kY "one") rfl (.cons (x:=kY "script") rfl (.nil))))
 refine eD (bJ (aA S hE (by exact rfl) ?_))
 refine e_sliceU (aF ?_);intro u5 _
 refine r_slc5 S hl (by rw[hvl,jZ];lia) ?_;clear S;intro h l5 B1 le hl5 S
 replace G:=G.le le
 replace hbm:=hbm.le le
 have hi5:=ints_get (hi.take 5)
 have hi5l:=hi5.length
 have h5:(ns.take 5).length≤5:=by rw[nG];lia
 replace S:=S.few (.cons (x:=kY "other") rfl (.cons (x:=kY "one") rfl (.nil)))
 refine iX S hl5 hh (fun n B' m' M'=>∃v1 k1 v2 k2,M'=[(pa,lstO v2 k2),(oa,lstO v1 k1),(325,tabObj #[])]∧m'=vars [(kY "other",.ref pa),(kY "one",.ref oa)]∧F2 (fun v k=>El false k v) v1 (((ns.take 5).take n).flatMap oneP)∧F2 (fun v k=>El false k v) v2 (((ns.take 5).take n).flatMap othP)∧Le B1 B') (fun _ _ _=>False) (fun _ _ _ _=>False) ?_ ?_ ?_ (fun _ _ _ _ _ _ _ _ x=>x.elim)
 ·exact jJ4 [] _ [] _ (jH5 rfl rfl .nil .nil (Le.refl _))
 ·intro n v C' B' h m' M' d t hv;refine jI4 ?_;intro v1 k1 v2 k2;refine jG5 ?_;intro zz4 zz5 hv1 hv2 le0;obtain rfl:=zz4;obtain rfl:=zz5;intro S;rintro⟨eL,eB⟩;intro le
  rename_i yy0 yy1;clear yy1 yy0;clear hl5 hbm eB;injection G hv hv1 hv2 le0 S eL le with oa pa l5 B1 n v C' B' h d t v1 k1 v2 k2
  refine jI1 ?_ (hi5.get hv);intro x;refine jG2 ?_;intro hx;refine jI1 ?_;intro ux;intro zz6;obtain rfl:=zz6
  have hE':aP C' _:=⟨hE.k,hE.l.trans eL.symm,hE.g,hE.b⟩
  replace G:=G.le le
  have hnl:n<(ns.take 5).length:=(nF.1 hx).1
  have t1:((ns.take 5).take (n+1)).flatMap oneP=((ns.take 5).take n).flatMap oneP++oneP x:=by rw[nH,hx,nQ];simp
  have t2:((ns.take 5).take (n+1)).flatMap othP=((ns.take 5).take n).flatMap othP++othP x:=by rw[nH,hx,nQ];simp
  have q1:=fm_len (fun n=>(iF n).2) ((ns.take 5).take n)
  have q2:=fm_len (fun n=>(iE n).2) ((ns.take 5).take n)
  have q3:((ns.take 5).take n).length≤5:=by rw[nG];lia
  have hv1l:=hv1.length
  have hv2l:=hv2.length
  have hkin:=kin_c x
  generalize ((ns.take 5).take n).flatMap oneP=P1 at hv1 t1 q1 hv1l
  generalize ((ns.take 5).take n).flatMap othP=P2 at hv2 t2 q2 hv2l
  refine aK (aD S hE' ?_);clear S;intro h t S
  refine aY (aG (aG (aA S hE' (by exact rfl) ?_)))
  refine aF ?_;intro z1 _
  refine i_div (by decide) (PyProof.noPylong_small (by decide)) ?_;intro z2 _
  refine aF ?_;intro z3 _
  refine i_mod (by decide) ?_;intro ul _
  rw[(ltr_c x).1]
  refine aD S hE' ?_;clear S;intro h t S
  refine aY (aG (aG (aA S hE' (by exact rfl) ?_)))
  refine aF ?_;intro z4 _
  refine i_div (by decide) (PyProof.noPylong_small (by decide)) ?_;intro z5 _
  refine aF ?_;intro z6 _
  refine i_mod (by decide) ?_;intro us _
  rw[(snd_c x).1]
  refine aD S hE' ?_;clear S;intro h t S
  replace S:=S.few (.cons (x:=kY "second") rfl (.cons (x:=kY "letter") rfl (.cons (x:=kY "number") rfl (.cons (x:=kY "other") rfl (.cons (x:=kY "one") rfl (.nil))))))
  refine aZ (aU (aA S hE' (by exact rfl) ?_))
  refine fM (a:=oa) (vs:=v1) (n:=k1) S (by simp) ?_
  refine dI (aB (bJ (bA (aB (bA (aB (aA S hE' (by exact rfl) ?_)))))))
  refine aC (cD S (lF rfl) ?_);clear S;intro h r0 Ba l0 hr0 S
  refine aB (bA (aB (aA S hE' (by exact rfl) ?_)))
  refine aC (cD S (lF rfl) ?_);clear S;intro h r1 Bb l1 hr1 S
  refine aB (bA (aC (cD S (lC _) ?_)));clear S;intro h r2 Bc l2 hr2 S
  refine aB (bA (aB (aA S hE' (by exact rfl) ?_)))
  refine aC (cD S (lF rfl) ?_);clear S;intro h r3 Bd l3 hr3 S
  refine aB (bA (aB (aA S hE' (by exact rfl) ?_)))
  refine aB (aA S hE' (by exact rfl) ?_)
  refine aC (cD S (lF rfl) ?_);clear S;intro h r4 Be l4 hr4 S
  refine aC (cD S (lF rfl) ?_);clear S;intro h rr Bf l5' hrr S
  replace hr0:=(((((hr0.le l1).le l2).le l3).le l4).le l5')
  replace hr1:=((((hr1.le l2).le l3).le l4).le l5')
  replace hr2:=(((hr2.le l3).le l4).le l5')
  replace hr3:=((hr3.le l4).le l5')
  replace hr4:=(hr4.le l5')
  have lall:Le B' Bf:=((((l0.trans l1).trans l2).trans l3).trans l4).trans l5'
  clear l0 l1 l2 l3 l4 l5'
  obtain⟨rx,ws,hrx,hws,hwo⟩:∃rx ws,[Value.ref r0,.ref r1,.ref r2,.ref r3,.ref r4][kin x]? =some (.ref rx)∧Lst Bf rx ws∧F2 (fun v k=>El false k v) ws (oneP x):=by
   unfold oneP
   have hk5:=hkin.2
   generalize kin x=kk at hk5
   rcases kk with _ | _ | _ | _ | _ | kk
   ·exact jJ2 r0 _ (jH3 rfl hr0 (.one ⟨ul,rfl⟩))
   ·exact jJ2 r1 _ (jH3 rfl hr1 (.one ⟨ul,rfl⟩))
   ·exact jJ2 r2 _ (jH3 rfl hr2 .nil)
   ·exact jJ2 r3 _ (jH3 rfl hr3 (.one ⟨ul,rfl⟩))
   ·exact jJ2 r4 _ (jH3 rfl hr4 (.cons ⟨ul,rfl⟩ (.one ⟨us,rfl⟩)))
   ·lia
  refine aG (aA S hE' (by exact rfl) ?_)
  refine aF ?_;intro z7 _
  refine i_mod (by decide) ?_;intro z8 _
  rw[hkin.1]
  refine i_lstT S hrr (by lia) (by lia) (by rw[nY];exact hrx) ?_;intro _
  refine aC ?_
  have hwl:=hwo.length
  have hol:=(iF x).2
  refine fZ (M₁:=[(pa,lstO v2 k2)]) (M₂:=[(325,tabObj #[])]) S hws (by rw[jZ];lia) ?_;clear S;intro h n1 S
  replace hv1:=hv1.append hwo
  clear hr0 hr1 hr2 hr3 hr4 hrr hrx hws
  refine aZ (aU (aA S hE' (by exact rfl) ?_))
  refine fM (a:=pa) (vs:=v2) (n:=k2) S (by simp) ?_
  refine dI (aB (bJ (bA (aB (bA (aB (aA S hE' (by exact rfl) ?_)))))))
  refine aC (cD S (lF rfl) ?_);clear S;intro h r0 Ba l0 hr0 S
  refine aB (bA (aC (cD S (lC _) ?_)));clear S;intro h r1 Bb l1 hr1 S
  refine aB (bA (aB (aA S hE' (by exact rfl) ?_)))
  refine aC (cD S (lF rfl) ?_);clear S;intro h r2 Bc l2 hr2 S
  refine aB (bA (aB (aA S hE' (by exact rfl) ?_)))
  refine aC (cD S (lF rfl) ?_);clear S;intro h r3 Bd l3 hr3 S
  refine aB (bA (aB (aA S hE' (by exact rfl) ?_)))
  refine aB (aA S hE' (by exact rfl) ?_)
  refine aC (cD S (lF rfl) ?_);clear S;intro h r4 Be l4 hr4 S
  refine aC (cD S (lF rfl) ?_);clear S;intro h rr Bg l5' hrr S
  replace hr0:=(((((hr0.le l1).le l2).le l3).le l4).le l5')
  replace hr1:=((((hr1.le l2).le l3).le l4).le l5')
  replace hr2:=(((hr2.le l3).le l4).le l5')
  replace hr3:=((hr3.le l4).le l5')
  replace hr4:=(hr4.le l5')
  have lall2:Le Bf Bg:=((((l0.trans l1).trans l2).trans l3).trans l4).trans l5'
  clear l0 l1 l2 l3 l4 l5'
  obtain⟨rx,ws2,hrx,hws,hwo2⟩:∃rx ws,[Value.ref r0,.ref r1,.ref r2,.ref r3,.ref r4][kin x]? =some (.ref rx)∧Lst Bg rx ws∧F2 (fun v k=>El false k v) ws (othP x):=by
   unfold othP
   have hk5:=hkin.2
   generalize kin x=kk at hk5
   rcases kk with _ | _ | _ | _ | _ | kk
   ·exact jJ2 r0 _ (jH3 rfl hr0 (.one ⟨ul,rfl⟩))
   ·exact jJ2 r1 _ (jH3 rfl hr1 .nil)
   ·exact jJ2 r2 _ (jH3 rfl hr2 (.one ⟨ul,rfl⟩))
   ·exact jJ2 r3 _ (jH3 rfl hr3 (.one ⟨us,rfl⟩))
   ·exact jJ2 r4 _ (jH3 rfl hr4 (.cons ⟨us,rfl⟩ (.one ⟨ul,rfl⟩)))
   ·lia
  refine aG (aA S hE' (by exact rfl) ?_)
  refine aF ?_;intro z9 _
  refine i_mod (by decide) ?_;intro z10 _
  rw[hkin.1]
  refine i_lstT S hrr (by lia) (by lia) (by rw[nY];exact hrx) ?_;intro _
  refine aC ?_
  have hwl2:=hwo2.length
  have hol2:=(iE x).2
  refine fZ (M₁:=[]) (M₂:=[(oa,lstO (v1++ws) n1),(325,tabObj #[])]) S hws (by rw[jZ];lia) ?_;clear S;intro h n2 S
  replace hv2:=hv2.append hwo2
  refine aJ ?_
  replace S:=S.few (.cons (x:=kY "other") rfl (.cons (x:=kY "one") rfl (.nil)))
  exact jJ6 h _ _ _ _ _ (jH3 rfl S (jJ4 _ n1 _ n2 (jH5 rfl rfl (by rw[t1];exact hv1) (by rw[t2];exact hv2) ((le0.trans lall).trans lall2))))
 ·rintro h d t B2 m' M' S hj
  rename_i yy0;clear yy0;clear le hl5;injection G hbm S hj with oa pa l5 B1 h d t B2 m' M'
  refine jI4 ?_ (hj.resolve_right id);intro v1 k1 v2 k2;refine jG5 ?_;intro zz7 zz8 hv1 hv2 le;obtain rfl:=zz7;obtain rfl:=zz8
  rw[show(ns.take 5).take (List.take 5 vs).length=ns.take 5 from pA (by lia)] at hv1 hv2
  replace G:=G.le le
  replace hbm:=hbm.le le
  have q1:=fm_len (fun n=>(iF n).2) (ns.take 5)
  have q2:=fm_len (fun n=>(iE n).2) (ns.take 5)
  have w1:∀k∈(ns.take 5).flatMap oneP,k<8:=fun k hk=>jI1 (fun x=>jG2 fun _ hx=>(iF x).1 k hx) (nV.1 hk)
  have w2:∀k∈(ns.take 5).flatMap othP,k<8:=fun k hk=>jI1 (fun x=>jG2 fun _ hx=>(iE x).1 k hx) (nV.1 hk)
  have hv1l:=hv1.length
  have hv2l:=hv2.length
  generalize (ns.take 5).flatMap oneP=P1 at hv1 q1 w1 hv1l
  generalize (ns.take 5).flatMap othP=P2 at hv2 q2 w2 hv2l
  refine aZ (aU (aA S hE (by exact rfl) ?_))
  refine fM (a:=oa) (vs:=v1) (n:=k1) S (by simp) ?_
  refine dI (aB (bA (aB (aF ?_))));intro c1 _
  refine aB (aF ?_);intro c2 _
  refine aB (aF ?_);intro c3 _
  refine aC (cD S (lF rfl) ?_);clear S;intro h r0 B3 le hr0 S
  replace G:=G.le le
  replace hbm:=hbm.le le
  refine aC (fZ (M₁:=[(pa,lstO v2 k2)]) (M₂:=[(325,tabObj #[])]) S hr0 (by rw[jZ];show v1.length+3≤_;lia) ?_);clear S;intro h n1 S
  replace hv1:F2 (fun v k=>El false k v) _ (P1++[3,1,2]):=hv1.append (.cons ⟨c1,rfl⟩ (.cons ⟨c2,rfl⟩ (.one ⟨c3,rfl⟩)))
  refine aZ (aU (aA S hE (by exact rfl) ?_))
  refine fM (a:=pa) (vs:=v2) (n:=k2) S (by simp) ?_
  refine dI (aB (bA (aB (aF ?_))));intro c4 _
  refine aB (aF ?_);intro c5 _
  refine aB (aF ?_);intro c6 _
  refine aB (aF ?_);intro c7 _
  refine aC (cD S (lF rfl) ?_);clear S;intro h r1 B4 le hr1 S
  replace G:=G.le le
  replace hbm:=hbm.le le
  refine aC (fZ (M₁:=[]) (M₂:=[(oa,lstO (v1++[.int 3 c1,.int 1 c2,.int 2 c3]) n1),(325,tabObj #[])]) S hr1 (by rw[jZ];show v2.length+4≤_;lia) ?_);clear S;intro h n2 S
  replace hv2:F2 (fun v k=>El false k v) _ (P2++[3,0,1,2]):=hv2.append (.cons ⟨c4,rfl⟩ (.cons ⟨c5,rfl⟩ (.cons ⟨c6,rfl⟩ (.one ⟨c7,rfl⟩))))
  have g1:∀k∈P1++[3,1,2],k<8:=fun k hk=>by
   rcases lQ.1 hk with hk | hk
   ·exact w1 k hk
   ·exact(by decide:∀k∈([3,1,2]:List Nat),k<8) k hk
  have g2:∀k∈P2++[3,0,1,2],k<8:=fun k hk=>by
   rcases lQ.1 hk with hk | hk
   ·exact w2 k hk
   ·exact(by decide:∀k∈([3,0,1,2]:List Nat),k<8) k hk
  have g3:P1++[3,1,2]≠[]:=by simp
  have g4:P2++[3,0,1,2]≠[]:=by simp
  have g5:(P1++[3,1,2]).length≤13:=by rw[lR];show P1.length+3≤13;lia
  have g6:(P2++[3,0,1,2]).length≤14:=by rw[lR];show P2.length+4≤14;lia
  generalize v1++[Value.int 3 c1,.int 1 c2,.int 2 c3]=va at S hv1
  generalize v2++[Value.int 3 c4,.int 0 c5,.int 1 c6,.int 2 c7]=vb at S hv2
  generalize P1++[3,1,2]=RA at hv1 g1 g3 g5
  generalize P2++[3,0,1,2]=RB at hv2 g2 g4 g6
  clear w1 w2 q1 q2 hv1l hv2l hr0 hr1
  have hp325:pa≠325:=fun q=>S.apart (M₁:=[]) (M₂:=[(oa,lstO va n1),(325,tabObj #[])]) (325,tabObj #[]) (by simp) q.symm
  have ho325:oa≠325:=fun q=>S.apart (M₁:=[(pa,lstO vb n2)]) (M₂:=[(325,tabObj #[])]) (325,tabObj #[]) (by simp) q.symm
  have S1:=St.keep (M₁:=[]) (M₂:=[(oa,lstO va n1),(325,tabObj #[])]) S (e4.2 _ hp325)
  have lb1:Le B4 (Base.put B4 pa (lstO vb n2)):=aV _ (S.m (pa,lstO vb n2) (by simp)).2.2.2
  have hlb:Lst (Base.put B4 pa (lstO vb n2)) pa vb:=⟨n2,aM _ _ _⟩
  generalize Base.put B4 pa (lstO vb n2)=B5 at S1 lb1 hlb
  have S2:=St.keep (M₁:=[]) (M₂:=[(325,tabObj #[])]) S1 (e4.2 _ ho325)
  have lb2:Le B5 (Base.put B5 oa (lstO va n1)):=aV _ (S1.m (oa,lstO va n1) (by simp)).2.2.2
  have hla:Lst (Base.put B5 oa (lstO va n1)) oa va:=⟨n1,aM _ _ _⟩
  generalize Base.put B5 oa (lstO va n1)=B6 at S2 lb2 hla
  clear S S1
  have S:St C B6 h _ [(325,tabObj #[])]:=S2
  clear S2
  replace hlb:=hlb.le lb2
  replace G:=(G.le lb1).le lb2
  replace hbm:=(hbm.le lb1).le lb2
  refine fB (aR (dY S hE G (gD _) ?_))
  refine cZ (o:=o_304 w.params) rfl ?_
  refine aB (aA S hE (by exact rfl) ?_)
  refine aC ?_
  refine⟨S.b _ _ (G.K _ _ rfl),use S (c_written hla hv1 g1 g3 (by lia) G S.b (hr.deeper.le (by decide))) ?_⟩
  clear S
  intro _ h d t B7 S le;refine jI7 ?_;intro r fa fb t1 t2 t3 t4;refine jG4 ?_;intro zz9 htr hfa hfb;obtain rfl:=zz9
  rename_i yy0 _;clear yy0;clear hj g3 lb1 lb2;injection hv1 g1 g5 hv2 g2 g4 g6 hla hlb G hbm S le htr hfa hfb with v1 k1 v2 k2 B4 va vb RA RB B5 B6 h d t B7 r fa fb t1 t2 t3 t4
  replace G:=G.le le
  replace hbm:=hbm.le le
  replace hla:=hla.le le
  replace hlb:=hlb.le le
  refine fF S htr hh ?_;clear S;intro h S
  refine aL (aK (aD S hE ?_));clear S;intro h t S
  refine aL (aK (aD S hE ?_));clear S;intro h t S
  refine cK ?_
  refine fB (aR (dY S hE G (gD _) ?_))
  refine cZ (o:=o_304 w.params) rfl ?_
  refine aB (aA S hE (by exact rfl) ?_)
  refine aC ?_
  refine⟨S.b _ _ (G.K _ _ rfl),use S (c_written hlb hv2 g2 g4 (by lia) G S.b (hr.deeper.le (by decide))) ?_⟩
  clear S
  intro _ h d t B8 S le;refine jI7 ?_;intro r' sa' sb' t5 t6 t7 t8;refine jG4 ?_;intro zz10 htr' hsa hsb;obtain rfl:=zz10
  injection S le htr' hsa hsb with h d t B8 r' sa' sb' t5 t6 t7 t8
  replace G:=G.le le
  replace hbm:=hbm.le le
  replace hla:=hla.le le
  replace hlb:=hlb.le le
  replace hfa:=hfa.le le
  replace hfb:=hfb.le le
  refine fF S htr' hh ?_;clear S;intro h S
  refine aL (aK (aD S hE ?_));clear S;intro h t S
  refine aL (aK (aD S hE ?_));clear S;intro h t S
  refine cK ?_
  have ok16:∀{ks:List Nat},(∀k∈ks,k<8)→mY (⟨(ks.flatMap s16).toArray⟩:kJ)=true:=fun hk=>by
   unfold mY
   rw[Array.all_eq_true']
   intro c hc
   refine jI1 ?_ (nV.1 (by simpa using hc));intro k;refine jG2 ?_;intro hk2 hc
   have:=s16_lt k (hk k hk2) c hc
   exact decide_eq_true (by lia)
  have ok64:∀{ks:List Nat},(∀k∈ks,k<8)→mY (⟨(ks.flatMap s64).toArray⟩:kJ)=true:=fun hk=>by
   unfold mY
   rw[Array.all_eq_true']
   intro c hc
   refine jI1 ?_ (nV.1 (by simpa using hc));intro k;refine jG2 ?_;intro hk2 hc
   have:=s64_lt k (hk k hk2) c hc
   exact decide_eq_true (by lia)
  have sh1:=shaped_tx _ _ (ok16 g1) (ok64 g1)
  have sh2:=shaped_tx _ _ (ok16 g2) (ok64 g2)
  refine bH false ?_ (fun c=>nomatch c) (fun c t=>?_)
  ·refine p_or (p:=false) (q:=false) ?_ (fun _ t=>p_or (p:=false) (q:=false) ?_ fun _ t=>p_or0)
   ·refine aQ (aA S hE (by exact rfl) ?_)
    refine aA S hE (by exact rfl) ?_
    refine c_neD (tx_rd hfa _ S.b) (tx_rd hfb _ S.b) sh1 sh1 hu ?_
    refine aI ?_
    exact pu (by rw[gF sh1];rfl)
   ·refine aQ (aA S hE (by exact rfl) ?_)
    refine aA S hE (by exact rfl) ?_
    refine c_neD (tx_rd hsa _ S.b) (tx_rd hsb _ S.b) sh2 sh2 hu ?_
    refine aI ?_
    exact pu (by rw[gF sh2];rfl)
  refine aJ ?_
  replace S:=S.few (.cons (x:=kY "second_texts") rfl (.cons (x:=kY "first") rfl (.cons (x:=kY "other") rfl (.cons (x:=kY "one") rfl (.nil)))))
  clear sh1 sh2 hfb hsb ok16 ok64 htr htr'
  refine eD (bA (aB (bA (aB (bA (aC (cD S (lC _) ?_)))))));clear S;intro h x0 Ba l0 hx0 S
  refine aB (bW ?_);intro p1 _
  refine aB (bW ?_);intro p2 _
  refine aC (cD S (lF rfl) ?_);clear S;intro h y0 Bb l1 hy0 S
  refine aB (bA (aB (bA (aB (aF ?_)))));intro p3 _
  refine aC (cD S (lF rfl) ?_);clear S;intro h x1 Bc l2 hx1 S
  refine aB (bW ?_);intro p4 _
  refine aB (bW ?_);intro p5 _
  refine aC (cD S (lF rfl) ?_);clear S;intro h y1 Bd l3 hy1 S
  refine aC (cD S (lF rfl) ?_);clear S;intro h jl B9 l4 hjl S
  have lall:Le B8 B9:=(((l0.trans l1).trans l2).trans l3).trans l4
  replace hx0:=(((hx0.le l1).le l2).le l3).le l4
  replace hy0:=((hy0.le l2).le l3).le l4
  replace hx1:=(hx1.le l3).le l4
  replace hy1:=hy1.le l4
  clear l0 l1 l2 l3 l4
  replace G:=G.le lall
  replace hbm:=hbm.le lall
  replace hla:=hla.le lall
  replace hlb:=hlb.le lall
  replace hfa:=hfa.le lall
  replace hsa:=hsa.le lall
  have J0:JunkV B9 (.ref y0) [] j00 j00:=⟨(jJ5 y0 x0 ([]) p1 p2 (jH4 rfl (by simpa using hy0) hx0 .nil)),(fun k l h=>by cases h),(fun k _ r _=>by rw[j00_nil];rfl),(fun k _ r _=>by rw[j00_nil];rfl),(by decide)⟩
  have J1:JunkV B9 (.ref y1) [1] j16 j64:=⟨(jJ5 y1 x1 _ p4 p5 (jH4 rfl (by simpa using hy1) hx1 (.one ⟨p3,rfl⟩))),(fun k l h1 h2=>by
   have e:∀k,jkOf false [1] k=true→k=1:=fun k hk=>by unfold jkOf inJ at hk;simpa using hk
   rw[e k h1,e l h2]),jun16,jun64,(by decide)⟩
  have hJ:∀{n:Nat} {v:jL},[Value.ref y0,.ref y1][n]? =some v→∃jl t16 t64,JunkV B9 v jl t16 t64:=fun {n v} hn=>by
   rcases n with _ | _ | n
   ·cases hn;exact jJ3 _ _ _ J0
   ·cases hn;exact jJ3 _ _ _ J1
   ·simp at hn
  refine iX S hjl hh (fun n B' m' M'=>∃ps',M'=[(325,tabObj ps')]∧m'=vars [(kY "second_texts",.ref sa'),(kY "first",.ref fa),(kY "other",.ref pa),(kY "one",.ref oa)]∧Tab B' posL gY ps') (fun _ _ _=>False) (fun _ _ _ _=>False) ?_ ?_ ?_ (fun _ _ _ _ _ _ _ _ x=>x.elim)
  ·exact⟨#[],jH3 rfl rfl (.inl rfl)⟩
  ·intro n v C' B' h m' M' d t hv;refine jI1 ?_;intro ps';refine jG3 ?_;intro zz11 zz12 htab;obtain rfl:=zz11;obtain rfl:=zz12;intro S;rintro⟨eL,eB⟩;intro le
   rename_i yy0;clear yy0;injection hjl lall hx0 hy0 hx1 hy1 G hbm hla hlb hfa hsa J0 J1 hJ hv htab S eL eB le with x0 p1 p2 y0 p3 x1 p4 p5 y1 jl B9 n v C' B' h d t ps'
   refine jI3 ?_ (hJ hv);intro jl' t16 t64;intro hj
   have hE':aP C' _:=⟨hE.k,hE.l.trans eL.symm,hE.g,hE.b⟩
   clear hJ J0 J1 hx0 hy0 hx1 hy1 hjl
   replace G:=G.le le
   replace hbm:=hbm.le le
   replace hla:=hla.le le
   replace hlb:=hlb.le le
   replace hfa:=hfa.le le
   replace hsa:=hsa.le le
   replace hj:=hj.le le
   obtain⟨⟨jx,ex,vj,uj1,uj2,rfl,hjx,hex,hvj⟩,hjone,hja,hjb,hjz⟩:=hj
   refine aK (aD S hE' ?_);clear S;intro h t S
   refine aY (aR (dY S hE' G (glob_due _) ?_))
   refine cZ (o:=o_323 w.params) rfl ?_
   refine aB (aA S hE' (by exact rfl) ?_)
   refine aB (aA S hE' (by exact rfl) ?_)
   refine aB (bJ (aA S hE' (by exact rfl) ?_))
   refine aF ?_;intro z1 _
   refine i_lst S hjx (by decide) (by decide) rfl ?_
   refine aC ?_
   refine⟨S.b _ _ (G.K _ _ rfl),use S (c_due hla hlb hex (iI hv1) (iI hv2) (iI hvj) (by rw[lZ];lia) (by rw[lZ];lia) G S.b (hr.deeper.le (by decide))) ?_⟩
   clear S
   intro _ h d t B10 S le;refine jI3 ?_;intro rd xd yd;refine jG4 ?_;intro zz13 htd hxd hyd;obtain rfl:=zz13
   rw[due_is] at hxd hyd
   dsimp only at hxd hyd
   have hml:=MS_len (jkOf false jl') RA RB
   have hol:=opRun_len (MS (jkOf false jl') RA RB)
   have hok:=opRun_ok (MS (jkOf false jl') RA RB)
   have sc2:=MS_sc (s:=2) (f:=s16) (A:=RA) (Bp:=RB) (jk:=jkOf false jl') (jk':=jkOf true t16) (by decide) iC inj16 g1 g2 hja
   have sc4:=MS_sc (s:=4) (f:=s64) (A:=RA) (Bp:=RB) (jk:=jkOf false jl') (jk':=jkOf true t64) (by decide) iB inj64 g1 g2 hjb
   have ht0:mgOf RA.length RB.length (bl (eqN RA RB) (jkN RA (jkOf false jl')) (0,RA.length,0,RB.length))=MS (jkOf false jl') RA RB:=rfl
   generalize hMS:MS (jkOf false jl') RA RB=ms at hxd hyd hml hol hok sc2 sc4 ht0
   replace G:=G.le le
   replace hbm:=hbm.le le
   replace hla:=hla.le le
   replace hlb:=hlb.le le
   replace hfa:=hfa.le le
   replace hsa:=hsa.le le
   replace hjx:=hjx.le le
   replace hex:=hex.le le
   replace htab:=htab.le le
   refine aD S hE' ?_;clear S;intro h t S
   replace S:=S.few (.cons (x:=kY "due") rfl (.cons (x:=kY "junk") rfl (.cons (x:=kY "second_texts") rfl (.cons (x:=kY "first") rfl (.cons (x:=kY "other") rfl (.cons (x:=kY "one") rfl (.nil)))))))
   have shd:=gX ms (bR ms).2 hok
   refine x_ifq (aQ (aR (dY S hE' G (glob_told _) ?_)))
   refine cZ (o:=o_328 w.params) rfl ?_
   refine aB (aA S hE' (by exact rfl) ?_)
   refine aB (aA S hE' (by exact rfl) ?_)
   refine aB (bJ (aA S hE' (by exact rfl) ?_))
   refine aF ?_;intro z2 _
   refine i_lst S hjx (by decide) (by decide) rfl ?_
   refine aC ?_
   have A1:=S.m (325,tabObj ps') (kZ ..)
   refine⟨S.b _ _ (G.K _ _ rfl),useM (M₁:=[]) (M₂:=[]) S (c_told (md:=false) (as:=RA) (bs:=RB) (js:=jl') (jJ2 oa va (jH3 rfl hla hv1)) (jJ2 pa vb (jH3 rfl hlb hv2)) (jJ2 ex vj (jH3 rfl hex hvj)) (fun _=>hjone) (by lia) (by lia) hjz.1 A1.1 A1.2.2.2 htab hbm G S.b (hr.deeper.le (by decide))) ?_⟩
   clear S A1 htab
   intro _ h d t B11 od S le;refine jG2 ?_;intro zz14;refine jI1 ?_;intro ps1;refine jG2 ?_;intro zz15 htab;revert zz14;refine jI3 ?_;intro r1 x1 y1;refine jG4 ?_;intro zz16 ht1 hx1 hy1;obtain rfl:=zz16;obtain rfl:=zz15
   rw[ht0] at hx1 hy1
   replace G:=G.le le
   replace hbm:=hbm.le le
   replace hla:=hla.le le
   replace hlb:=hlb.le le
   replace hfa:=hfa.le le
   replace hsa:=hsa.le le
   replace hjx:=hjx.le le
   replace htd:=htd.le le
   replace hxd:=fD hxd le
   replace hyd:=eM hyd le
   refine aA S hE' (by exact rfl) ?_
   refine c_neD (hZ ht1 hx1 hy1 _ S.b) (hZ htd hxd hyd _ S.b) shd shd hu ?_
   refine aI ?_
   rw[gF shd]
   refine⟨(fun c=>nomatch c),fun _=>?_⟩
   refine aJ ?_
   clear ht1 hx1 hy1 hla hlb hex
   refine eD (aR (cM (v:=.type "range") S hE' G (dW _) rfl ?_))
   refine dX (aB (aF ?_));intro z3 _
   refine aC (n_rng1 S ?_);clear S;intro h t rr B12 le tr S
   replace G:=G.le le
   replace htab:=htab.le le
   replace hbm:=hbm.le le
   replace hfa:=hfa.le le
   replace hsa:=hsa.le le
   replace hjx:=hjx.le le
   replace htd:=htd.le le
   replace hxd:=fD hxd le
   replace hyd:=eM hyd le
   refine eW S tr (by unfold Sm;lia) (by unfold Sm;lia) hh (fun kk B' m' M'=>∃ps',M'=[(325,tabObj ps')]∧m'=vars [(kY "due",.ref rd),(kY "junk",.ref jx),(kY "second_texts",.ref sa'),(kY "first",.ref fa),(kY "other",.ref pa),(kY "one",.ref oa)]∧Tab B' posL gY ps') ?_ ?_ ?_
   ·exact⟨ps1,jH3 rfl rfl htab⟩
   ·clear htab
    intro kk uk C2 B13 h m' M' d t hkk;refine jI1 ?_;intro ps2;refine jG3 ?_;intro zz17 zz18 htab;obtain rfl:=zz17;obtain rfl:=zz18;intro S;rintro⟨eL2,eB2⟩;intro le
    have hE2:aP C2 _:=⟨hE'.k,hE'.l.trans eL2.symm,hE'.g,hE'.b⟩
    replace G:=G.le le
    replace hbm:=hbm.le le
    replace hfa:=hfa.le le
    replace hsa:=hsa.le le
    replace hjx:=hjx.le le
    replace htd:=htd.le le
    replace hxd:=fD hxd le
    replace hyd:=eM hyd le
    obtain⟨sk,fk,tk,ta,tb,tj,q1,q2,q3,q4,hm,hfl,hmul,hms,hmo⟩:∃(sk:Nat) (fk:Nat→List Nat) (tk:List Nat) (ta tb tj:Tok),[Value.str ⟨(RA.flatMap s16).toArray⟩ t1,.str ⟨(RA.flatMap s64).toArray⟩ t2][kk]? =some (.str ⟨(RA.flatMap fk).toArray⟩ ta)∧
      [Value.str ⟨(RB.flatMap s16).toArray⟩ t5,.str ⟨(RB.flatMap s64).toArray⟩ t6][kk]? =some (.str ⟨(RB.flatMap fk).toArray⟩ tb)∧[Value.ref ex,.str ⟨t16.toArray⟩ uj1,.str ⟨t64.toArray⟩ uj2][kk+1]? =some (.str ⟨tk.toArray⟩ tj)∧sk=2+2*kk∧tk.length≤60∧(∀k<8,(fk k).length=sk)∧(∀a:Int,IntMulOk a (sk:Nat))∧
      MS (jkOf true tk) (RA.flatMap fk) (RB.flatMap fk)=ms.map (sc sk)∧(bR (MS (jkOf true tk) (RA.flatMap fk) (RB.flatMap fk))).2=(bR ms).2.map (scC sk):=by
     rcases kk with _ | _ | kk
     ·exact jJ6 2 s16 t16 t1 t5 uj1 (jH9 rfl rfl rfl rfl hjz.2.1 iC mul2 sc2.1 sc2.2)
     ·exact jJ6 4 s64 t64 t2 t6 uj2 (jH9 rfl rfl rfl rfl hjz.2.2 iB mul4 sc4.1 sc4.2)
     ·omega
    have hla2:=fN (ks:=RA) (f:=fk) (n:=sk) fun k hk=>hfl k (g1 k hk)
    have hlb2:=fN (ks:=RB) (f:=fk) (n:=sk) fun k hk=>hfl k (g2 k hk)
    have hkk2:kk<2:=by lia
    have hla3:(RA.flatMap fk).length≤60:=by
     rw[hla2]
     have:RA.length*sk≤13*sk:=mI _ g5
     lia
    have hlb3:(RB.flatMap fk).length≤100:=by
     rw[hlb2]
     have:RB.length*sk≤14*sk:=mI _ g6
     lia
    have ht2:mgOf (RA.flatMap fk).length (RB.flatMap fk).length (bl (eqN (RA.flatMap fk) (RB.flatMap fk)) (jkN (RA.flatMap fk) (jkOf true tk)) (0,(RA.flatMap fk).length,0,(RB.flatMap fk).length))=MS (jkOf true tk) (RA.flatMap fk) (RB.flatMap fk):=rfl
    refine aK (aD S hE2 ?_);clear S;intro h t S
    refine x_ifq (aQ (aR (dY S hE2 G (glob_told _) ?_)))
    refine cZ (o:=o_328 w.params) rfl ?_
    refine aB (bJ (aA S hE2 (by exact rfl) ?_))
    refine aA S hE2 (by exact rfl) ?_
    refine i_lst S hfa (by lia) (by lia) (by rw[show(0+(kk:Int)).toNat=kk by omega];exact q1) ?_
    refine aB (bJ (aA S hE2 (by exact rfl) ?_))
    refine aA S hE2 (by exact rfl) ?_
    refine i_lst S hsa (by lia) (by lia) (by rw[show(0+(kk:Int)).toNat=kk by omega];exact q2) ?_
    refine aB (bJ (aA S hE2 (by exact rfl) ?_))
    refine aG (aA S hE2 (by exact rfl) ?_)
    refine aF ?_;intro z4 _
    refine aX ?_;intro z5 _
    refine i_lst S hjx (by lia) (by lia) (by rw[show(0+(kk:Int)+1).toNat=kk+1 by omega];exact q3) ?_
    refine aC ?_
    have A1:=S.m (325,tabObj ps2) (kZ ..)
    refine⟨S.b _ _ (G.K _ _ rfl),useM (M₁:=[]) (M₂:=[]) S (c_told (md:=true) (as:=RA.flatMap fk) (bs:=RB.flatMap fk) (js:=tk) ⟨ta,rfl⟩ ⟨tb,rfl⟩ ⟨tj,rfl⟩ (fun z=>nomatch z) hla3 hlb3 hm A1.1 A1.2.2.2 htab hbm G S.b (hr.deeper.le (by decide))) ?_⟩
    clear S A1 htab
    intro _ h d t B14 od S le;refine jG2 ?_;intro zz19;refine jI1 ?_;intro ps3;refine jG2 ?_;intro zz20 htab;revert zz19;refine jI3 ?_;intro r1 x1 y1;refine jG4 ?_;intro zz21 ht1 hx1 hy1;obtain rfl:=zz21;obtain rfl:=zz20
    rw[ht2,hms] at hx1
    rw[ht2,hmo] at hy1
    replace G:=G.le le
    replace htd:=htd.le le
    replace hxd:=fD hxd le
    replace hyd:=eM hyd le
    refine aR (dY S hE2 G (glob_times _) ?_)
    refine cZ (o:=o_333 w.params) rfl ?_
    refine aB (aG (aF ?_));intro z6 _
    refine aG (aF ?_);intro z7 _
    refine aA S hE2 (by exact rfl) ?_
    refine cP (by mul_fits) ?_;intro z8 _
    refine aX ?_;intro z9 _
    rw[show(2+2*(0+(kk:Int)))=((sk:Nat):Int) by lia]
    refine aB (aA S hE2 (by exact rfl) ?_)
    refine aC ?_
    refine⟨S.b _ _ (G.K _ _ rfl),use S (c_times htd hxd hyd hmul (by lia) (by lia) G S.b (hr.deeper.le (by decide))) ?_⟩
    clear S
    intro _ h d t B15 S le;refine jI3 ?_;intro r2 x2 y2;refine jG4 ?_;intro zz22 ht3 hx3 hy3;obtain rfl:=zz22
    have shs:=gX (ms.map (sc sk)) ((bR ms).2.map (scC sk)) (scC_ok hok)
    refine c_neD (hZ (ht1.le le) (fD hx1 le) (eM hy1 le) _ S.b) (hZ ht3 hx3 hy3 _ S.b) shs shs hu ?_
    refine aI ?_
    rw[gF shs]
    refine⟨(fun c=>nomatch c),fun _=>?_⟩
    refine aJ (aJ ?_)
    replace S:=S.few (.cons (x:=kY "due") rfl (.cons (x:=kY "junk") rfl (.cons (x:=kY "second_texts") rfl (.cons (x:=kY "first") rfl (.cons (x:=kY "other") rfl (.cons (x:=kY "one") rfl (.nil)))))))
    exact jJ6 h _ _ _ _ _ (jH3 rfl S ⟨ps3,jH3 rfl rfl (htab.le le)⟩)
   ·intro h d t B13 m' M' S le;refine jI1 ?_;intro ps2;refine jG3 ?_;intro zz23 zz24 htab;obtain rfl:=zz23;obtain rfl:=zz24
    refine aJ ?_
    replace S:=S.few (.cons (x:=kY "second_texts") rfl (.cons (x:=kY "first") rfl (.cons (x:=kY "other") rfl (.cons (x:=kY "one") rfl (.nil)))))
    exact jJ6 h _ _ _ _ _ (jH3 rfl S ⟨ps2,jH3 rfl rfl htab⟩)
  ·rintro h d t B10 m' M' S hj
   rename_i yy0;clear yy0;clear hjl lall hx0 hy0 hx1 hy1 G hbm hla hlb hfa hsa J0 J1 hJ;injection S hj with x0 p1 p2 y0 p3 x1 p4 p5 y1 jl B9 h d t B10 m' M'
   refine jI1 ?_ (hj.resolve_right id);intro ps';refine jG3 ?_;intro zz25 zz26 htab;obtain rfl:=zz25;obtain rfl:=zz26
   refine cN (e_bool ?_)
   exact S.endsM e1 e2 e3 e4 (kZ ..) ⟨rfl,ps',rfl,htab⟩
end
theorem glob_law (P:jT):glob P "law"=some (.ref 340):=by kernel_rfl!
theorem kf_325 (P:jT):(KF P).lookup 325=none:=rfl
noncomputable def hid (h:kI):Base:=fun a=>if a=325 then none else h.get? a
theorem gN {h:kI}{a:jQ}{o:kK}(hn:a≠325)(e:h.get? a=some o):hid h a=some o:=by unfold hid;rw[if_neg hn];exact e
theorem hid_to {h:kI}{a:jQ}{o:kK}(e:hid h a=some o):a≠325∧h.get? a=some o:=by
 unfold hid at e
 split at e
 ·cases e
 ·rename_i q;exact⟨q,e⟩
theorem lst_of_well {P:jT}{h:kI}{a:jQ}{xs:List PyData}{vs:List jL}(W:Well P h (.ref a) (ofPy (.list xs)))(hL:h.IsList a vs.toArray):h.get? a=some (lstO vs 0):=by
 injection W hL with P h a xs vs
 have W':Well P h (.ref a) (.list (ofPys xs)):=W
 cases W' with
 | list e _=>
  refine jI1 ?_ hL;try clear hL;intro o;refine jG3 ?_;intro ho _;refine jI1 ?_;intro n;intro hd
  rw[e] at ho
  cases ho
  dsimp only at hd
  injection hd with h1 h2
  rw[h1] at e
  exact e
theorem fin_law {w:jS}{s:jP}{mg mb:kJ→Option jL}{a fa:jQ}{vs:List jL}{ns:List Int}
  (hK:(KF w.params).In s.heap) (h325:s.heap.get? 325=some (o_325 w.params)) (hg:s.heap.Ns mainGlobals mg) (hb:s.heap.Ns builtinsNs mb) (hlim:s.heap.NoLimit) (hbl:∀x:kJ,x≠"__name__"→mb x=bootBuiltins x)
  (hbm:∃bm ob,mg "__builtins__"=some (.ref bm)∧bm≠builtinsNs∧s.heap.get? bm=some ob∧ob.cls=.type "module"∧ob.dict=some builtinsNs∧ob.data=.plain)
  (hl:s.heap.get? a=some (lstO vs 0)) (hi:IntsAre vs ns) (hn:ns.length≤1000) (hfa:mg "law"=some (.ref fa)):
  jN (jM PW w) callerA (call (.ref fa) [.ref a]) (fun v s'=>v=.bool true∧OldK s.heap s'.heap∧s'.os=s.os∧s'.gens=s.gens) no s:=by
 injection hK h325 hg hb hlim hbl hbm hl hi hn hfa with w s mg mb a fa vs ns
 obtain⟨h,g,d,t,os⟩:=s
 dsimp only at hK h325 hg hb hlim hbm hl⊢
 have G:Gr w mg mb (hid h):={
  K:=fun a o e=>gN (fun q=>by rw[q,kf_325] at e;cases e) (hK a o e)
  g:=by
   refine jI3 ?_ hg;try clear hg;intro o es ep;refine jG2 ?_;intro e r
   exact⟨o,⟨gN (by decide) e,fun h' e'=>jJ3 o es ep ⟨e',r⟩⟩⟩
  b:=by
   refine jI3 ?_ hb;try clear hb;intro o es ep;refine jG2 ?_;intro e r
   exact⟨o,⟨gN (by decide) e,fun h' e'=>jJ3 o es ep ⟨e',r⟩⟩⟩
  lim:=by
   refine jI1 ?_ hlim;try clear hlim;intro mc;refine jG2 ?_;intro zz1 q;revert zz1;refine jI3 ?_;intro o es ep;refine jG2 ?_;intro e r
   exact fun h' k=>⟨mc,jJ3 o es ep ⟨k _ _ (gN (by decide) e),r⟩,q⟩
  bl:=hbl}
 have hB:∀a o,hid h a=some o→h.get? a=some o:=fun a o e=>(hid_to e).2
 have hBM:BM mg (hid h):=by
  refine jI2 ?_ hbm;try clear hbm;intro bm ob;refine jG6 ?_;intro b1 b2 b3 b4 b5 b6
  refine jJ2 bm ob (jH6 b1 b2 (gN (fun q=>?_) b3) b4 b5 b6)
  rw[q,h325] at b3;cases b3;cases b4
 have hfa':fa=340:=by
  have:=(G.gl hB "law").symm.trans hfa
  rw[glob_law] at this
  cases this;rfl
 subst hfa'
 have hla:Lst (hid h) a vs:=⟨0,gN (fun q=>by rw[q,h325] at hl;cases hl) hl⟩
 have hr:Room callerA 202:=⟨by decide +kernel,by decide +kernel,rfl⟩
 refine jR (c_law (s:=⟨h,g,d,t,os⟩) hla hi hn h325 (by unfold hid;rw[if_pos rfl]) hBM G hB hr) (fun v s' x=>?_) fun _ _ x=>x
 refine jI5 ?_ x;try clear x;intro h' t' d' B' od';refine jG8 ?_;intro zz2 kp le lh nw eo zz3;refine jI1 ?_;intro ps';refine jG2 ?_;intro zz4 htab;obtain rfl:=zz2;obtain rfl:=zz3;obtain rfl:=zz4
 refine jH4 rfl ?_ rfl rfl
 have e327:=hK 327 (o_327 w.params) rfl
 have ht₀:h.TableAt 327 325 #[]:=⟨(jJ2 _ _ (jH4 e327 rfl rfl rfl)),h325⟩
 have ht':h'.TableAt 327 325 (#[]++ps'):=⟨(jJ2 _ _ (jH4 (kp 327 _ (by decide) e327) rfl rfl rfl)),by rw[eo];simp⟩
 exact OldK.step_table (OldK.refl h) ht₀ ht₀ ht' (fun b o hb e=>kp b o hb e) (by decide)
end Mine
theorem PySem.Challenge.cw_pd0123_01_holds : PySem.Challenge.rw_pd0123_01.Holds := by
 w_on
 refine holds_law (by decide +kernel) fun said=>?_
 refine holds_open (q:=Mine.qv) (loose:=Mine.looseL) (Xt:=Mine.xt) (XP:=XL Mine.qv []) (Yf:=Hook.obs Mine.hk) (Ya:=Hook.val Mine.hk) (YP:=Hook.says Mine.hk) (N:=5362) Mine.left (Hook.of Mine.hk) (Hook.keeps Mine.hk) (fun s e=>xl_of s (mT.mp e).1) XL.keeps (by rfl) (by rfl) (by rfl) (fun s e=>recFacts_of (mT.mp e).2) (by rfl) (by first | assumption | decide +kernel) (by decide +kernel) ⟨rfl,rfl,rfl,rfl,rfl,by decide +kernel⟩ ?hw ?hc
 case hw=>w_witness2
 case hc=>
  intro w s₀ s₁ mg mb G Y fa o pm cd doc dV kV ho hd hcd hD hmg hg args vals as hpre hlay hrd hwl hlo
  clear hd hcd hD
  wrow_args hpre hlay hrd hwl hlo
  rename_i ns _ _ _ _ _ _ _ a vs _ hL _ hW _ hI _ hc1 _
  have hn:ns.length≤1000:=by lia
  have T:=G.T
  refine jR (Mine.fin_law (s:=s₁) Y.1 Y.2 T.g T.b T.nolimit T.builtins T.bmain (Mine.lst_of_well hW hL) hI hn hmg) (fun v s' x=>?_) (fun _ _ z=>z.elim)
  obtain⟨rfl,hK,hos,hgs⟩:=x
  refine⟨.inl ⟨.bool true,.bool true,[],rfl,fun _=>rfl,.bool true,?_,fun _=>⟨oO,fun a ha=>nomatch ha⟩⟩,hK,hos,.of_eq (hgs.trans hg)⟩
  exact postW_of rfl (by wtm_val) rfl
