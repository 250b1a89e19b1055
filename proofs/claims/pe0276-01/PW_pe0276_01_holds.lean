import PyProof.Rows.All
import PyProof.ZipIter
import PyProof.Rows.ListMulArg
import PyProof.Rows.StrGather
import OpenK.KDescr
import OpenK.KCls
import KE.KCallOwn
import KE.KDictIter
import KE.KStar
import KE.KSuper
import Open.Tops
import Wide.FinOn
import OpenK.AllK
import Wide.All
import PySem.Challenge.RW_pe0276_01
set_option Elab.async false
set_option maxRecDepth 100000
set_option maxHeartbeats 0
set_option tactic.hygienic false
set_option genSizeOf false
set_option bootstrap.genMatcherCode false
set_option linter.all false
open PySem renaming wpAny_bind->zA,wpAny_pure->zD,wpAny_mono->zQ,wpAny_of_eq->zr,wpAny_holding->yJ,wpAny_field->yv,wpAny_seqItems->yx,wpAny_newObj_type->jH,holding->jK,ks_wpAt_execs_cons->jS,wpAny_loadName_local->jU,wpAny_call_entry->jW,wpAny_standAt->jX,builtinLookup_eq_fast->jd,wpAny_Call_NameR->jf,codeAny_mono->jm,wpAny_assign_Name->ju,wpAny_rule->jw,wpAny_letGo->uC,wpAny_call->uR,wpAny_assignInOrder_more->uS,ks_wpAt_Return_some->uT,wpAny_loadPart->uW,wpAny_listSubscript_int->uX,wpAny_callSpecial?_slot->uY,wpAny_setField_rec->ud,wpAny_specialOf->uh,typeLookup_type->ui,wpAt_of_wpAny->um,wpAny_pyIter_listiter->uo,wpAny_isInstance->uy,builtinType_eq_fast->vD,wpAny_pyIter_list->vO
open Nat renaming le_trans->zB,le_add_left->zH,lt_of_lt_of_le->zR,le_of_eq->zS,le_add_right->zW,le_refl->zY,ne_of_lt->zd,le_of_lt->zg,lt_succ_self->zq,mod_lt->zt,lt_of_le_of_lt->zu,sub_one_lt_of_lt->yA,le_antisymm->yE,ne_of_gt->yF,lt_succ_of_lt->yL,le_of_not_lt->yU,sub_le->yj,zero_add->ym,le_succ_of_le->yo,le_succ->yq,lt_irrefl->yu,zero_le->jG,add_comm->jP,pos_of_ne_zero->jQ,eq_zero_or_pos->jR,min_le_right->jT,add_le_add->jY,add_assoc->jk,min_eq_left->jv,succ_le_succ->uD,succ_pos->uc,mul_le_mul_left->vC,not_lt->vJ,sub_pos_of_lt->vW,succ_ne_zero->vY
open List renaming length_map->zC,length_append->zF,mem_singleton->zG,length_cons->zL,mem_cons->zM,getElem?_eq_getElem->zP,getElem?_append_left->zU,map_cons->zV,lookup_cons->zZ,mem_append->zb,size_toArray->ze,getElem?_eq_some_iff->zh,mem_cons_self->zj,length_eq_zero_iff->zk,flatMap_cons->zm,append_nil->zo,mem_map->zv,map_append->zx,mem_cons_of_mem->zy,length_drop->yC,all_eq_true->yD,append_assoc->yG,getLast?_eq_none_iff->yH,not_mem_nil->yM,length_take->yP,range->yS,mem_of_getElem?->yT,length_singleton->yV,take_of_length_le->yX,lookup->yY,getElem_mem->yZ,mem_flatMap->ya,flatten_cons->yd,nodup_append->ye,forIn_cons->yf,getElem?_append_right->yg,getLast?_eq_getElem?->yi,getLast?_eq_some_iff->yk,take_succ_eq_append_getElem->yn,getElem?_eq_none->yr,length_nil->yt,range'->yy,takeWhile_append_dropWhile->jC,length_pos_iff->jE,flatMap_append->jF,forIn_nil->jJ,nil_append->jN,dropWhile_cons->ja,take_append_drop->jc,cons_append->je,sum_cons->ji,mem_range->jn,dropLast_concat->jo,length->jp,drop_eq_nil_iff->jq,length_range->js,getElem?_map->jt,flatten_append->jx,findSome?_cons->jy,takeWhile_cons->jz,all_cons->uB,getElem?_drop->uI,getD_eq_getElem?_getD->uJ,foldl_cons->uL,mem_of_mem_drop->uN,map_dropLast->uO,map_drop->uP,drop_drop->uV,contains_cons->ub,find?_cons->uf,dropLast_concat_getLast->ug,getD->uj,map_take->uk,contains_iff_mem->un,ext_getElem?->uq,mem_of_mem_take->ut,take_length->uw,map_nil->ux,drop_eq_getElem_cons->vA,getElem?_take_of_lt->vE
open Option.some renaming inj->zE
open PySem.Heap renaming get?_push_of_some->zJ,get?_push_size->zN,lt_size->yB,get?_update_other->yR,size_push->yW,get?_update_self->jI,SameBut->jl,get?_none_of_le->uu
open PySem.W.Fast renaming te14364793385576792824->zK,te10110043849684766642->zO
open Int renaming natCast_nonneg->zX,le_trans->jg,ofNat_lt->jh,ofNat_le->uZ,not_lt->ua,natCast_add->ue
open Bool renaming and_eq_true->za,false_eq_true->yK,and_eq_true_iff->yN,false_ne_true->uG,and_false->uH,eq_iff_iff->uM,or_false->vF,false_and->vM
open PySem.Str renaming ofString->zf
open PySem.Value renaming int->zl,type->yO,ref->jV,none->vK
open Option renaming bind_some->zp,map_some->jO,isSome_iff_exists->uQ,getD_some->vQ,isNone_iff_eq_none->vV
open PySem.Obj renaming mapSeq->zw
open PySem.Unicode renaming isSpace->yI,lowerOf->jM
open Array renaming getElem?_setIfInBounds_self_of_lt->yQ,getElem?_setIfInBounds_ne->jb,getElem?_eq_getElem->uK,getElem?_push->uU,eraseIdxIfInBounds->vH,ext_getElem?->vL,getElem?_setIfInBounds->vT,size_setIfInBounds->vX
open String renaming reduceBEq->yb
open Pure renaming pure->yc
open False renaming elim->yp
open ForInStep renaming yield->yw
open Prod.mk renaming inj->yz
open PySem.Builtin.List renaming listSubscript?->jA,listTooLong->vG,listItems->vP
open PySem.Builtin.Range renaming rangeSize->jB,small->vU
open PySem.W renaming looks_findIn->jD
open PySem.Challenge renaming pw_pe0276_01->jL
open PUnit renaming unit->jZ
open PySem.Around renaming under_plainId->jr
open PyProof.Rows renaming listItems_at->uA
open PySem.Calls renaming callWith_builtin->uE,Name_function_global->uv,spliced_cons->uz
open PySem.F renaming plain_min_loop->uF
open PySem.W.Looks renaming of_pure->ul
open PySem.Builtin.Builtins renaming bindParams->ur
namespace Mine
theorem aA{a p1:Prop}{G:Prop}(h:a/\p1)(k:a->p1->G):G:=k h.1 h.2
theorem cE{a p1 p2:Prop}{G:Prop}(h:a/\p1/\p2)(k:a->p1->p2->G):G:=aA h.2 (k h.1)
theorem wZ{a p1 p2 p3:Prop}{G:Prop}(h:a/\p1/\p2/\p3)(k:a->p1->p2->p3->G):G:=cE h.2 (k h.1)
theorem el05{a p1 p2 p3 b:Prop}{G:Prop}(h:a/\p1/\p2/\p3/\b)(k:a->p1->p2->p3->b->G):G:=wZ h.2 (k h.1)
theorem el06{a p1 p2 p3 b c:Prop}{G:Prop}(h:a/\p1/\p2/\p3/\b/\c)(k:a->p1->p2->p3->b->c->G):G:=el05 h.2 (k h.1)
theorem el07{a p1 p2 p3 b c d:Prop}{G:Prop}(h:a/\p1/\p2/\p3/\b/\c/\d)(k:a->p1->p2->p3->b->c->d->G):G:=el06 h.2 (k h.1)
theorem eD{c:Type}{b:c->Prop}{G:Prop}(h:∃a,b a)(k:∀a,b a->G):G:=h.elim k
theorem el12{c:Type}{b p1:c->Prop}{G:Prop}(h:∃a,b a/\p1 a)(k:∀a,b a->p1 a->G):G:=h.elim λx q=>aA q (k x)
theorem cu{c:Type}{b p1 p2:c->Prop}{G:Prop}(h:∃a,b a/\p1 a/\p2 a)(k:∀a,b a->p1 a->p2 a->G):G:=h.elim λx q=>cE q (k x)
theorem lB{c:Type}{b p1 p2 p3:c->Prop}{G:Prop}(h:∃a,b a/\p1 a/\p2 a/\p3 a)(k:∀a,b a->p1 a->p2 a->p3 a->G):G:=h.elim λx q=>wZ q (k x)
theorem ws{d:Type}{b p1 p2 p3 c:d->Prop}{G:Prop}(h:∃a,b a/\p1 a/\p2 a/\p3 a/\c a)(k:∀a,b a->p1 a->p2 a->p3 a->c a->G):G:=h.elim λx q=>el05 q (k x)
theorem BQ{e:Type}{b p1 p2 p3 c d:e->Prop}{G:Prop}(h:∃a,b a/\p1 a/\p2 a/\p3 a/\c a/\d a)(k:∀a,b a->p1 a->p2 a->p3 a->c a->d a->G):G:=h.elim λx q=>el06 q (k x)
theorem wO{f:Type}{b p1 p2 p3 c d e:f->Prop}{G:Prop}(h:∃a,b a/\p1 a/\p2 a/\p3 a/\c a/\d a/\e a)(k:∀a,b a->p1 a->p2 a->p3 a->c a->d a->e a->G):G:=h.elim λx q=>el07 q (k x)
theorem dk{d:Type}{e:Type}{c:d->e->Prop}{G:Prop}(h:∃a b,c a b)(k:∀a b,c a b->G):G:=h.elim λx q=>eD q (k x)
theorem fw{d:Type}{e:Type}{c p1:d->e->Prop}{G:Prop}(h:∃a b,c a b/\p1 a b)(k:∀a b,c a b->p1 a b->G):G:=h.elim λx q=>el12 q (k x)
theorem bY{d:Type}{e:Type}{c p1 p2:d->e->Prop}{G:Prop}(h:∃a b,c a b/\p1 a b/\p2 a b)(k:∀a b,c a b->p1 a b->p2 a b->G):G:=h.elim λx q=>cu q (k x)
theorem kX{d:Type}{e:Type}{c p1 p2 p3:d->e->Prop}{G:Prop}(h:∃a b,c a b/\p1 a b/\p2 a b/\p3 a b)(k:∀a b,c a b->p1 a b->p2 a b->p3 a b->G):G:=h.elim λx q=>lB q (k x)
theorem el25{e:Type}{f:Type}{c p1 p2 p3 d:e->f->Prop}{G:Prop}(h:∃a b,c a b/\p1 a b/\p2 a b/\p3 a b/\d a b)(k:∀a b,c a b->p1 a b->p2 a b->p3 a b->d a b->G):G:=h.elim λx q=>ws q (k x)
theorem el26{f:Type}{g:Type}{c p1 p2 p3 d e:f->g->Prop}{G:Prop}(h:∃a b,c a b/\p1 a b/\p2 a b/\p3 a b/\d a b/\e a b)(k:∀a b,c a b->p1 a b->p2 a b->p3 a b->d a b->e a b->G):G:=h.elim λx q=>BQ q (k x)
theorem el27{g:Type}{i:Type}{c p1 p2 p3 d e f:g->i->Prop}{G:Prop}(h:∃a b,c a b/\p1 a b/\p2 a b/\p3 a b/\d a b/\e a b/\f a b)(k:∀a b,c a b->p1 a b->p2 a b->p3 a b->d a b->e a b->f a b->G):G:=h.elim λx q=>wO q (k x)
theorem pW{e:Type}{f:Type}{g:Type}{d p1 p2:e->f->g->Prop}{G:Prop}(h:∃a b c,d a b c/\p1 a b c/\p2 a b c)(k:∀a b c,d a b c->p1 a b c->p2 a b c->G):G:=h.elim λx q=>bY q (k x)
theorem el34{e:Type}{f:Type}{g:Type}{d p1 p2 p3:e->f->g->Prop}{G:Prop}(h:∃a b c,d a b c/\p1 a b c/\p2 a b c/\p3 a b c)(k:∀a b c,d a b c->p1 a b c->p2 a b c->p3 a b c->G):G:=h.elim λx q=>kX q (k x)
theorem qP{f:Type}{g:Type}{i:Type}{d p1 p2 p3 e:f->g->i->Prop}{G:Prop}(h:∃a b c,d a b c/\p1 a b c/\p2 a b c/\p3 a b c/\e a b c)(k:∀a b c,d a b c->p1 a b c->p2 a b c->p3 a b c->e a b c->G):G:=h.elim λx q=>el25 q (k x)
theorem mJ{g:Type}{i:Type}{j:Type}{d p1 p2 p3 e f:g->i->j->Prop}{G:Prop}(h:∃a b c,d a b c/\p1 a b c/\p2 a b c/\p3 a b c/\e a b c/\f a b c)(k:∀a b c,d a b c->p1 a b c->p2 a b c->p3 a b c->e a b c->f a b c->G):G:=h.elim λx q=>el26 q (k x)
theorem el31{e:Type}{f:Type}{g:Type}{d:e->f->g->Prop}{G:Prop}(h:∃a b c,d a b c)(k:∀a b c,d a b c->G):G:=h.elim λx q=>dk q (k x)
theorem wU{e:Type}{f:Type}{g:Type}{d p1:e->f->g->Prop}{G:Prop}(h:∃a b c,d a b c/\p1 a b c)(k:∀a b c,d a b c->p1 a b c->G):G:=h.elim λx q=>fw q (k x)
theorem el37{i:Type}{j:Type}{l:Type}{d p1 p2 p3 e f g:i->j->l->Prop}{G:Prop}(h:∃a b c,d a b c/\p1 a b c/\p2 a b c/\p3 a b c/\e a b c/\f a b c/\g a b c)(k:∀a b c,d a b c->p1 a b c->p2 a b c->p3 a b c->e a b c->f a b c->g a b c->G):G:=h.elim λx q=>el27 q (k x)
theorem el43{f:Type}{g:Type}{i:Type}{j:Type}{e p1 p2:f->g->i->j->Prop}{G:Prop}(h:∃a b c d,e a b c d/\p1 a b c d/\p2 a b c d)(k:∀a b c d,e a b c d->p1 a b c d->p2 a b c d->G):G:=h.elim λx q=>pW q (k x)
theorem el46{i:Type}{j:Type}{l:Type}{m:Type}{e p1 p2 p3 f g:i->j->l->m->Prop}{G:Prop}(h:∃a b c d,e a b c d/\p1 a b c d/\p2 a b c d/\p3 a b c d/\f a b c d/\g a b c d)(k:∀a b c d,e a b c d->p1 a b c d->p2 a b c d->p3 a b c d->f a b c d->g a b c d->G):G:=h.elim λx q=>mJ q (k x)
theorem in04{a p1 p2 p3:Prop}(b:a)(c:p1)(d:p2)(e:p3):a/\p1/\p2/\p3:=⟨b,c,d,e⟩
theorem in05{a p1 p2 p3 b:Prop}(c:a)(d:p1)(e:p2)(f:p3)(g:b):a/\p1/\p2/\p3/\b:=⟨c,d,e,f,g⟩
theorem av{b:Type}{c p1:b->Prop}(a:b)(d:c a)(e:p1 a):∃a,c a/\p1 a:=⟨a,d,e⟩
theorem cy{b:Type}{c p1 p2:b->Prop}(a:b)(d:c a)(e:p1 a)(f:p2 a):∃a,c a/\p1 a/\p2 a:=⟨a,d,e,f⟩
theorem rU{b:Type}{c p1 p2 p3:b->Prop}(a:b)(d:c a)(e:p1 a)(f:p2 a)(g:p3 a):∃a,c a/\p1 a/\p2 a/\p3 a:=⟨a,d,e,f,g⟩
theorem in16{b:Type}{c p1 p2 p3 d e:b->Prop}(a:b)(f:c a)(g:p1 a)(h:p2 a)(i:p3 a)(j:d a)(k:e a):∃a,c a/\p1 a/\p2 a/\p3 a/\d a/\e a:=⟨a,f,g,h,i,j,k⟩
theorem AU{c:Type}{d:Type}{e:c->d->Prop}(a:c)(b:d)(f:e a b):∃a b,e a b:=⟨a,b,f⟩
theorem wM{c:Type}{d:Type}{e p1:c->d->Prop}(a:c)(b:d)(f:e a b)(g:p1 a b):∃a b,e a b/\p1 a b:=⟨a,b,f,g⟩
theorem qW{c:Type}{d:Type}{e p1 p2:c->d->Prop}(a:c)(b:d)(f:e a b)(g:p1 a b)(h:p2 a b):∃a b,e a b/\p1 a b/\p2 a b:=⟨a,b,f,g,h⟩
theorem mf{c:Type}{d:Type}{e p1 p2 p3:c->d->Prop}(a:c)(b:d)(f:e a b)(g:p1 a b)(h:p2 a b)(i:p3 a b):∃a b,e a b/\p1 a b/\p2 a b/\p3 a b:=⟨a,b,f,g,h,i⟩
theorem in33{d:Type}{e:Type}{f:Type}{g p1 p2:d->e->f->Prop}(a:d)(b:e)(c:f)(h:g a b c)(i:p1 a b c)(j:p2 a b c):∃a b c,g a b c/\p1 a b c/\p2 a b c:=⟨a,b,c,h,i,j⟩
theorem in34{d:Type}{e:Type}{f:Type}{g p1 p2 p3:d->e->f->Prop}(a:d)(b:e)(c:f)(h:g a b c)(i:p1 a b c)(j:p2 a b c)(k:p3 a b c):∃a b c,g a b c/\p1 a b c/\p2 a b c/\p3 a b c:=⟨a,b,c,h,i,j,k⟩
theorem in35{d:Type}{e:Type}{f:Type}{g p1 p2 p3 h:d->e->f->Prop}(a:d)(b:e)(c:f)(i:g a b c)(j:p1 a b c)(k:p2 a b c)(l:p3 a b c)(m:h a b c):∃a b c,g a b c/\p1 a b c/\p2 a b c/\p3 a b c/\h a b c:=⟨a,b,c,i,j,k,l,m⟩
theorem in36{d:Type}{e:Type}{f:Type}{g p1 p2 p3 h i:d->e->f->Prop}(a:d)(b:e)(c:f)(j:g a b c)(k:p1 a b c)(l:p2 a b c)(m:p3 a b c)(n:h a b c)(o:i a b c):∃a b c,g a b c/\p1 a b c/\p2 a b c/\p3 a b c/\h a b c/\i a b c:=⟨a,b,c,j,k,l,m,n,o⟩
theorem in43{e:Type}{f:Type}{g:Type}{h:Type}{i p1 p2:e->f->g->h->Prop}(a:e)(b:f)(c:g)(d:h)(j:i a b c d)(k:p1 a b c d)(l:p2 a b c d):∃a b c d,i a b c d/\p1 a b c d/\p2 a b c d:=⟨a,b,c,d,j,k,l⟩
theorem in44{e:Type}{f:Type}{g:Type}{h:Type}{i p1 p2 p3:e->f->g->h->Prop}(a:e)(b:f)(c:g)(d:h)(j:i a b c d)(k:p1 a b c d)(l:p2 a b c d)(m:p3 a b c d):∃a b c d,i a b c d/\p1 a b c d/\p2 a b c d/\p3 a b c d:=⟨a,b,c,d,j,k,l,m⟩
end Mine
set_option compiler.extract_closed false
namespace Mine
noncomputable abbrev Un:Type 1:=Nat->(a:Type)×a
noncomputable def eps(p:Un->Prop):Un:=@Classical.epsilon Un ⟨λ_=>⟨Unit,()⟩⟩ λa=>¬p a
open Classical in
noncomputable def ot_{a:Type}(n:Nonempty a)(e:Un)(i:Nat):a:=if h:(e i).1=a then cast h (e i).2 else choice n
theorem ok_{b:Type}{n:Nonempty b}{e:Un}{i:Nat}{a:b}(h:e i=⟨b,a⟩):ot_ n e i=a:=by unfold ot_;rw[h];exact dif_pos rfl
theorem ne_{a:Type}(x:Nonempty a:=by repeat' first|exact default|constructor|intro _):Nonempty a:=x
theorem Dc{p:Un->Prop}(h:p (eps p))(a:Un):p a:=Classical.byContradiction λn=>@Classical.epsilon_spec _ (λa=>¬p a) ⟨a,n⟩ h
set_option genInjectivity false in
structure Wt where
 G:Prop
 R:Un->Prop
 e:Un
 imp:R e->G
noncomputable def mkW(G:Prop)(R:Un->Prop)(h:(∀e,R e)->G):Wt:=⟨G,R,eps R,λr=>h (Dc r)⟩
noncomputable def ce1_{a:Type}(c:Nonempty a){P:a->Prop}:Wt:=mkW (∀b,P b) (λe=>True->P (ot_ c e 0)) λh b=>(congrArg P (ok_ rfl)).mp (h (λi=>[⟨a,b⟩].getD i ⟨Unit,()⟩) ⟨⟩)
noncomputable def ce2_{a b:Type}(f:Nonempty a)(g:Nonempty b){P:a->b->Prop}:Wt:=mkW (∀c d,P c d) (λe=>True->P (ot_ f e 0) (ot_ g e 1)) λh c d=>(congr (congrArg P (ok_ rfl)) (ok_ rfl)).mp (h (λi=>[⟨a,c⟩,⟨b,d⟩].getD i ⟨Unit,()⟩) ⟨⟩)
noncomputable def ce3_{a b c:Type}(j:Nonempty a)(k:Nonempty b)(l:Nonempty c){P:a->b->c->Prop}:Wt:=mkW (∀d f g,P d f g) (λe=>True->P (ot_ j e 0) (ot_ k e 1) (ot_ l e 2)) λh d f g=>(congr (congr (congrArg P (ok_ rfl)) (ok_ rfl)) (ok_ rfl)).mp (h (λi=>[⟨a,d⟩,⟨b,f⟩,⟨c,g⟩].getD i ⟨Unit,()⟩) ⟨⟩)
noncomputable def ce4_{a b c d:Type}(l:Nonempty a)(m:Nonempty b)(n:Nonempty c)(o:Nonempty d){P:a->b->c->d->Prop}:Wt:=mkW (∀f g j k,P f g j k) (λe=>True->P (ot_ l e 0) (ot_ m e 1) (ot_ n e 2) (ot_ o e 3)) λh f g j k=>(congr (congr (congr (congrArg P (ok_ rfl)) (ok_ rfl)) (ok_ rfl)) (ok_ rfl)).mp (h (λi=>[⟨a,f⟩,⟨b,g⟩,⟨c,j⟩,⟨d,k⟩].getD i ⟨Unit,()⟩) ⟨⟩)
noncomputable def ce5_{a b c d f:Type}(n:Nonempty a)(o:Nonempty b)(p:Nonempty c)(q:Nonempty d)(r:Nonempty f){P:a->b->c->d->f->Prop}:Wt:=mkW (∀g j k l m,P g j k l m) (λe=>True->P (ot_ n e 0) (ot_ o e 1) (ot_ p e 2) (ot_ q e 3) (ot_ r e 4)) λh g j k l m=>(congr (congr (congr (congr (congrArg P (ok_ rfl)) (ok_ rfl)) (ok_ rfl)) (ok_ rfl)) (ok_ rfl)).mp (h (λi=>[⟨a,g⟩,⟨b,j⟩,⟨c,k⟩,⟨d,l⟩,⟨f,m⟩].getD i ⟨Unit,()⟩) ⟨⟩)
noncomputable def dI{a b c d f g:Type}(p:Nonempty a)(q:Nonempty b)(r:Nonempty c)(s:Nonempty d)(t:Nonempty f)(u:Nonempty g){P:a->b->c->d->f->g->Prop}:Wt:=mkW (∀j k l m n o,P j k l m n o) (λe=>True->P (ot_ p e 0) (ot_ q e 1) (ot_ r e 2) (ot_ s e 3) (ot_ t e 4) (ot_ u e 5)) λh j k l m n o=>(congr (congr (congr (congr (congr (congrArg P (ok_ rfl)) (ok_ rfl)) (ok_ rfl)) (ok_ rfl)) (ok_ rfl)) (ok_ rfl)).mp (h (λi=>[⟨a,j⟩,⟨b,k⟩,⟨c,l⟩,⟨d,m⟩,⟨f,n⟩,⟨g,o⟩].getD i ⟨Unit,()⟩) ⟨⟩)
noncomputable def bK{a b c d f g j:Type}(r:Nonempty a)(s:Nonempty b)(t:Nonempty c)(u:Nonempty d)(v:Nonempty f)(w:Nonempty g)(x:Nonempty j){P:a->b->c->d->f->g->j->Prop}:Wt:=mkW (∀k l m n o p q,P k l m n o p q) (λe=>True->P (ot_ r e 0) (ot_ s e 1) (ot_ t e 2) (ot_ u e 3) (ot_ v e 4) (ot_ w e 5) (ot_ x e 6)) λh k l m n o p q=>(congr (congr (congr (congr (congr (congr (congrArg P (ok_ rfl)) (ok_ rfl)) (ok_ rfl)) (ok_ rfl)) (ok_ rfl)) (ok_ rfl)) (ok_ rfl)).mp (h (λi=>[⟨a,k⟩,⟨b,l⟩,⟨c,m⟩,⟨d,n⟩,⟨f,o⟩,⟨g,p⟩,⟨j,q⟩].getD i ⟨Unit,()⟩) ⟨⟩)
noncomputable def bZ{a b c d f g j k:Type}(t:Nonempty a)(u:Nonempty b)(v:Nonempty c)(w:Nonempty d)(x:Nonempty f)(y:Nonempty g)(z:Nonempty j)(A:Nonempty k){P:a->b->c->d->f->g->j->k->Prop}:Wt:=mkW (∀l m n o p q r s,P l m n o p q r s) (λe=>True->P (ot_ t e 0) (ot_ u e 1) (ot_ v e 2) (ot_ w e 3) (ot_ x e 4) (ot_ y e 5) (ot_ z e 6) (ot_ A e 7)) λh l m n o p q r s=>(congr (congr (congr (congr (congr (congr (congr (congrArg P (ok_ rfl)) (ok_ rfl)) (ok_ rfl)) (ok_ rfl)) (ok_ rfl)) (ok_ rfl)) (ok_ rfl)) (ok_ rfl)).mp (h (λi=>[⟨a,l⟩,⟨b,m⟩,⟨c,n⟩,⟨d,o⟩,⟨f,p⟩,⟨g,q⟩,⟨j,r⟩,⟨k,s⟩].getD i ⟨Unit,()⟩) ⟨⟩)
noncomputable def cc{a b c d f g j k l:Type}(v:Nonempty a)(w:Nonempty b)(x:Nonempty c)(y:Nonempty d)(z:Nonempty f)(A:Nonempty g)(B:Nonempty j)(C:Nonempty k)(D:Nonempty l){P:a->b->c->d->f->g->j->k->l->Prop}:Wt:=mkW (∀m n o p q r s t u,P m n o p q r s t u) (λe=>True->P (ot_ v e 0) (ot_ w e 1) (ot_ x e 2) (ot_ y e 3) (ot_ z e 4) (ot_ A e 5) (ot_ B e 6) (ot_ C e 7) (ot_ D e 8)) λh m n o p q r s t u=>(congr (congr (congr (congr (congr (congr (congr (congr (congrArg P (ok_ rfl)) (ok_ rfl)) (ok_ rfl)) (ok_ rfl)) (ok_ rfl)) (ok_ rfl)) (ok_ rfl)) (ok_ rfl)) (ok_ rfl)).mp (h (λi=>[⟨a,m⟩,⟨b,n⟩,⟨c,o⟩,⟨d,p⟩,⟨f,q⟩,⟨g,r⟩,⟨j,s⟩,⟨k,t⟩,⟨l,u⟩].getD i ⟨Unit,()⟩) ⟨⟩)
noncomputable def ce10_{a b c d f g j k l m:Type}(x:Nonempty a)(y:Nonempty b)(z:Nonempty c)(A:Nonempty d)(B:Nonempty f)(C:Nonempty g)(D:Nonempty j)(E:Nonempty k)(F:Nonempty l)(G:Nonempty m){P:a->b->c->d->f->g->j->k->l->m->Prop}:Wt:=mkW (∀n o p q r s t u v w,P n o p q r s t u v w) (λe=>True->P (ot_ x e 0) (ot_ y e 1) (ot_ z e 2) (ot_ A e 3) (ot_ B e 4) (ot_ C e 5) (ot_ D e 6) (ot_ E e 7) (ot_ F e 8) (ot_ G e 9)) λh n o p q r s t u v w=>(congr (congr (congr (congr (congr (congr (congr (congr (congr (congrArg P (ok_ rfl)) (ok_ rfl)) (ok_ rfl)) (ok_ rfl)) (ok_ rfl)) (ok_ rfl)) (ok_ rfl)) (ok_ rfl)) (ok_ rfl)) (ok_ rfl)).mp (h (λi=>[⟨a,n⟩,⟨b,o⟩,⟨c,p⟩,⟨d,q⟩,⟨f,r⟩,⟨g,s⟩,⟨j,t⟩,⟨k,u⟩,⟨l,v⟩,⟨m,w⟩].getD i ⟨Unit,()⟩) ⟨⟩)
noncomputable def ck{b c d f g j k l m n a:Type}(A:Nonempty b)(B:Nonempty c)(C:Nonempty d)(D:Nonempty f)(E:Nonempty g)(F:Nonempty j)(G:Nonempty k)(H:Nonempty l)(I:Nonempty m)(J:Nonempty n)(p:Nonempty a){P:b->c->d->f->g->j->k->l->m->n->a->Prop}:Wt:=mkW (∀q r s t u v w x y z o,P q r s t u v w x y z o) (λe=>True->P (ot_ A e 0) (ot_ B e 1) (ot_ C e 2) (ot_ D e 3) (ot_ E e 4) (ot_ F e 5) (ot_ G e 6) (ot_ H e 7) (ot_ I e 8) (ot_ J e 9) (ot_ p e 10)) λh q r s t u v w x y z o=>(congr (congr (congr (congr (congr (congr (congr (congr (congr (congr (congrArg P (ok_ rfl)) (ok_ rfl)) (ok_ rfl)) (ok_ rfl)) (ok_ rfl)) (ok_ rfl)) (ok_ rfl)) (ok_ rfl)) (ok_ rfl)) (ok_ rfl)) (ok_ rfl)).mp (h (λi=>[⟨b,q⟩,⟨c,r⟩,⟨d,s⟩,⟨f,t⟩,⟨g,u⟩,⟨j,v⟩,⟨k,w⟩,⟨l,x⟩,⟨m,y⟩,⟨n,z⟩,⟨a,o⟩].getD i ⟨Unit,()⟩) ⟨⟩)
noncomputable def b5{c d f g j k l m n o a b:Type}(D:Nonempty c)(E:Nonempty d)(F:Nonempty f)(G:Nonempty g)(H:Nonempty j)(I:Nonempty k)(J:Nonempty l)(K:Nonempty m)(L:Nonempty n)(M:Nonempty o)(r:Nonempty a)(s:Nonempty b){P:c->d->f->g->j->k->l->m->n->o->a->b->Prop}:Wt:=mkW (∀t u v w x y z A B C p q,P t u v w x y z A B C p q) (λe=>True->P (ot_ D e 0) (ot_ E e 1) (ot_ F e 2) (ot_ G e 3) (ot_ H e 4) (ot_ I e 5) (ot_ J e 6) (ot_ K e 7) (ot_ L e 8) (ot_ M e 9) (ot_ r e 10) (ot_ s e 11)) λh t u v w x y z A B C p q=>(congr (congr (congr (congr (congr (congr (congr (congr (congr (congr (congr (congrArg P (ok_ rfl)) (ok_ rfl)) (ok_ rfl)) (ok_ rfl)) (ok_ rfl)) (ok_ rfl)) (ok_ rfl)) (ok_ rfl)) (ok_ rfl)) (ok_ rfl)) (ok_ rfl)) (ok_ rfl)).mp (h (λi=>[⟨c,t⟩,⟨d,u⟩,⟨f,v⟩,⟨g,w⟩,⟨j,x⟩,⟨k,y⟩,⟨l,z⟩,⟨m,A⟩,⟨n,B⟩,⟨o,C⟩,⟨a,p⟩,⟨b,q⟩].getD i ⟨Unit,()⟩) ⟨⟩)
noncomputable def ce13_{d f g j k l m n o p a b c:Type}(G:Nonempty d)(H:Nonempty f)(I:Nonempty g)(J:Nonempty j)(K:Nonempty k)(L:Nonempty l)(M:Nonempty m)(N:Nonempty n)(O:Nonempty o)(Q:Nonempty p)(t:Nonempty a)(u:Nonempty b)(v:Nonempty c){P:d->f->g->j->k->l->m->n->o->p->a->b->c->Prop}:Wt:=mkW (∀w x y z A B C D E F q r s,P w x y z A B C D E F q r s) (λe=>True->P (ot_ G e 0) (ot_ H e 1) (ot_ I e 2) (ot_ J e 3) (ot_ K e 4) (ot_ L e 5) (ot_ M e 6) (ot_ N e 7) (ot_ O e 8) (ot_ Q e 9) (ot_ t e 10) (ot_ u e 11) (ot_ v e 12)) λh w x y z A B C D E F q r s=>(congr (congr (congr (congr (congr (congr (congr (congr (congr (congr (congr (congr (congrArg P (ok_ rfl)) (ok_ rfl)) (ok_ rfl)) (ok_ rfl)) (ok_ rfl)) (ok_ rfl)) (ok_ rfl)) (ok_ rfl)) (ok_ rfl)) (ok_ rfl)) (ok_ rfl)) (ok_ rfl)) (ok_ rfl)).mp (h (λi=>[⟨d,w⟩,⟨f,x⟩,⟨g,y⟩,⟨j,z⟩,⟨k,A⟩,⟨l,B⟩,⟨m,C⟩,⟨n,D⟩,⟨o,E⟩,⟨p,F⟩,⟨a,q⟩,⟨b,r⟩,⟨c,s⟩].getD i ⟨Unit,()⟩) ⟨⟩)
noncomputable def ce14_{f g j k l m n o p q a b c d:Type}(J:Nonempty f)(K:Nonempty g)(L:Nonempty j)(M:Nonempty k)(N:Nonempty l)(O:Nonempty m)(Q:Nonempty n)(R:Nonempty o)(S:Nonempty p)(T:Nonempty q)(v:Nonempty a)(w:Nonempty b)(x:Nonempty c)(y:Nonempty d){P:f->g->j->k->l->m->n->o->p->q->a->b->c->d->Prop}:Wt:=mkW (∀z A B C D E F G H I r s t u,P z A B C D E F G H I r s t u) (λe=>True->P (ot_ J e 0) (ot_ K e 1) (ot_ L e 2) (ot_ M e 3) (ot_ N e 4) (ot_ O e 5) (ot_ Q e 6) (ot_ R e 7) (ot_ S e 8) (ot_ T e 9) (ot_ v e 10) (ot_ w e 11) (ot_ x e 12) (ot_ y e 13)) λh z A B C D E F G H I r s t u=>(congr (congr (congr (congr (congr (congr (congr (congr (congr (congr (congr (congr (congr (congrArg P (ok_ rfl)) (ok_ rfl)) (ok_ rfl)) (ok_ rfl)) (ok_ rfl)) (ok_ rfl)) (ok_ rfl)) (ok_ rfl)) (ok_ rfl)) (ok_ rfl)) (ok_ rfl)) (ok_ rfl)) (ok_ rfl)) (ok_ rfl)).mp (h (λi=>[⟨f,z⟩,⟨g,A⟩,⟨j,B⟩,⟨k,C⟩,⟨l,D⟩,⟨m,E⟩,⟨n,F⟩,⟨o,G⟩,⟨p,H⟩,⟨q,I⟩,⟨a,r⟩,⟨b,s⟩,⟨c,t⟩,⟨d,u⟩].getD i ⟨Unit,()⟩) ⟨⟩)
end Mine
set_option compiler.extract_closed false
set_option hygiene false in
local macro_rules
 | `(tactic| exists $c:ident,$xs:ident,*) => `(tactic| (refine @(Mine.Wt.imp ($c $[ (by first|(clear $xs;done)|exact Mine.ne_)]*) ?_);intro t_;clear t_;generalize Mine.Wt.e _=t_;exists [0],$xs,*))
set_option hygiene false in
local macro_rules
 | `(tactic| exists [$n],$x:ident,$xs:ident,*) => `(tactic| (generalize Mine.ot_ _ t_ $n = $x;exists [$n+1],$xs,*))
 | `(tactic| exists [$n],$x:ident) => `(tactic| (generalize Mine.ot_ _ t_ $n = $x;clear t_))
namespace Mine
theorem fk0{e f:Nat}(k:e<=f:=by simp +arith):e<=f:=k
theorem fk1{a b e f:Nat}(h:a<=b)(k:b+e<=a+f:=by simp +arith):e<=f:=Nat.le_of_add_le_add_left (zB k (Nat.add_le_add_right h f))
theorem fk2{a b c d e f:Nat}(h:a<=b)(q:c<=d)(k:b+d+e<=a+c+f:=by simp +arith):e<=f:=fk1 (jY h q) k
theorem fk3{a b c d x y e f:Nat}(h:a<=b)(q:c<=d)(r:x<=y)(k:b+d+y+e<=a+c+x+f:=by simp +arith):e<=f:=fk2 (jY h q) r k
theorem fk4{a b c d x y u v e f:Nat}(h:a<=b)(q:c<=d)(r:x<=y)(s:u<=v)(k:b+d+y+v+e<=a+c+x+u+f:=by simp +arith):e<=f:=fk3 (jY h q) r s k
theorem fz1{a b:Nat}(h:a<=b)(k:b+1<=a:=by simp +arith):False:=yu _ (zB k h)
theorem fz2{a b c d:Nat}(h:a<=b)(q:c<=d)(k:b+d+1<=a+c:=by simp +arith):False:=fz1 (jY h q) k
theorem fz3{a b c d x y:Nat}(h:a<=b)(q:c<=d)(r:x<=y)(k:b+d+y+1<=a+c+x:=by simp +arith):False:=fz2 (jY h q) r k
theorem ik1{a b e f:Int}(h:a<=b)(k:b+e<=a+f:=by simp +arith):e<=f:=Int.le_of_add_le_add_left (jg k (Int.add_le_add_right h f))
theorem ik2{a b c d e f:Int}(h:a<=b)(q:c<=d)(k:b+d+e<=a+c+f:=by simp +arith):e<=f:=ik1 (Int.add_le_add h q) k
theorem iz1{a b:Int}(h:a<=b)(k:b+1<=a:=by simp +arith):False:=Int.lt_irrefl _ (Int.lt_of_lt_of_le k h)
theorem iz2{a b c d:Int}(h:a<=b)(q:c<=d)(k:b+d+1<=a+c:=by simp +arith):False:=iz1 (Int.add_le_add h q) k
theorem eqg{a b:Nat}(h:a=b):b<=a:=zS h.symm
theorem sa(a b:Nat):a<=a-b+b:=Nat.le_add_of_sub_le (zY _)
theorem sb{a b:Nat}(h:b<=a):a-b+b<=a:=zS (Nat.sub_add_cancel h)
theorem tnp(n:Nat):((n:Int)-1).toNat=n-1:=by omega
end Mine
namespace Mine
open PySem
inductive bj where
 | int (i:Int)|str (s:Str)
 deriving DecidableEq
inductive V where
 | none|bool (b:Bool)|int (i:Int)|str (s:Str)|tup (l:List bj)|ref (k:Nat)|top (t:Nat)
inductive O where
 | list (vs:List V)
 | inst (fs:List (Str×V))
 | acc (fs:List (Str×V)) (vs:List V)
 | ghost
 | frozen (l:List (Int×Nat)) (n:Nat)
noncomputable def xY:(v:V)->Option (PLift (v=.none))
 | .none=>some ⟨rfl⟩
 | _=>none
noncomputable def vBool:(v:V)->Option {b:Bool // v=.bool b}
 | .bool b=>some ⟨b,rfl⟩
 | _=>none
noncomputable def bW:(v:V)->Option {i:Int // v=.int i}
 | .int i=>some ⟨i,rfl⟩
 | _=>none
noncomputable def dO:(v:V)->Option {s:Str // v=.str s}
 | .str s=>some ⟨s,rfl⟩
 | _=>none
noncomputable def mK:(v:V)->Option {l:List bj // v=.tup l}
 | .tup l=>some ⟨l,rfl⟩
 | _=>none
noncomputable def du:(v:V)->Option {k:Nat // v=.ref k}
 | .ref k=>some ⟨k,rfl⟩
 | _=>none
noncomputable def vTop:(v:V)->Option {t:Nat // v=.top t}
 | .top t=>some ⟨t,rfl⟩
 | _=>none
noncomputable def cI:(o:Option O)->Option {vs:List V // o=some (.list vs)}
 | some (.list vs)=>some ⟨vs,rfl⟩
 | _=>none
noncomputable def nj:(o:Option O)->Option {fs:List (Str×V) // o=some (.inst fs)}
 | some (.inst fs)=>some ⟨fs,rfl⟩
 | _=>none
noncomputable def fu:(o:Option O)->Option {q:List (Str×V)×List V // o=some (.acc q.1 q.2)}
 | some (.acc fs vs)=>some ⟨(fs,vs),rfl⟩
 | _=>none
noncomputable def Em:(o:Option O)->Option {q:List (Int×Nat)×Nat // o=some (.frozen q.1 q.2)}
 | some (.frozen l n)=>some ⟨(l,n),rfl⟩
 | _=>none
noncomputable def aInt:(a:bj)->Option {i:Int // a=.int i}
 | .int i=>some ⟨i,rfl⟩
 | _=>none
noncomputable def aStr:(a:bj)->Option {s:Str // a=.str s}
 | .str s=>some ⟨s,rfl⟩
 | _=>none
set_option genInjectivity false
inductive Bop where|add|sub|fdiv|mod
set_option genCtorIdx false
inductive X where
 | none|bool (b:Bool)|int (i:Int)|str (s:Str)
 | var (x:Str)
 | top (t:Nat)
 | bin (op:Bop) (a b:X)
 | neg (a:X)|not (a:X)
 | and (a b:X)|or (a b:X)
 | cond (t b e:X)
 | cmp (op:CmpOp) (a b:X)
 | item (a i:X)
 | slice (a lo hi:X)
 | attr (a:X) (n:Str)
 | tup (es:List X)|lst (es:List X)
 | call (f:Nat) (es:List X)
 | new (c:Nat) (es:List X)
 | meth (a:X) (n:Str) (es:List X)
 | methStar (a:X) (n:Str) (e:X)
 | blt (n:Str) (es:List X)
 | comp (elt:X) (x:Str) (it:X)
 | compIf (elt:X) (x:Str) (it c:X)
 | comp2 (elt:X) (x:Str) (it:X) (y:Str) (it2:X)
inductive S where
 | expr (e:X)|ret (e:X)
 | asg (x:Str) (e:X)|asg2 (x y:Str) (e:X)
 | asgAttr (o:X) (n:Str) (e:X)
 | asgSlice (o lo hi e:X)
 | augItem (o i e:X)
 | ite (t:X) (b o:List S)
 | forR (x:Str) (args:List X) (b o:List S)
 | forV (x:Str) (it:X) (b o:List S)
 | forPair (x y:Str) (l:X) (b:List S)
 | brk|cont|pass
noncomputable def nm(s:String):Str:=zf s
noncomputable def ap(sc:Scope)(x:Str):Bool:=sc.names.lookup x==some .local && !(x==nm "__debug__")
noncomputable def bx(sc:Scope)(x:Str):Bool:=sc.names.lookup x==some .globalImplicit && !(x==nm "__debug__")
noncomputable def cp:List (Str×Nat):=[(nm "in_table_b1",0),(nm "map_table_b3",1),(nm "_law_pairs",2),(nm "_law_rows",3),(nm "_law_prepared",4),(nm "_law_folded",5),(nm "law",6)]
noncomputable def fD:List (Str×Nat):=[(nm "_ValueFormatter",0),(nm "_Accumulator",1)]
noncomputable def cl:List Str:=[nm "len",nm "ord",nm "chr",nm "sum",nm "min",nm "str"]
noncomputable def cm:List (Str×Nat):=[(nm "b1_set",0),(nm "b3_exceptions",1),(nm "_twin_re_1",2)]
noncomputable def constNames:List (Str×Str):=[(nm "NL",nm "\n"),(nm "EMPTYSTRING",nm "")]
noncomputable def fldNames:List Str:=[nm "_maxlen",nm "_continuation_ws",nm "_continuation_ws_len",nm "_splitchars",nm "_lines",nm "_current_line",nm "_initial_size"]
noncomputable def csOk(cs:Scope):Bool:=cs.kind==.function&&cs.names.all (λx=>x.2 != .free)&&cs.names.all (λx=>x.2 != .cell)&&cs.names.all (λx=>x.2 != .local||cs.names.lookup x.1==some .local)
noncomputable def bV(e:Expr):Bool := !(e.ctorIdx==8||e.ctorIdx==9||e.ctorIdx==10)
noncomputable def hM(e:Expr):Bool := !(e.ctorIdx==25)
noncomputable def alt{b:Type}:Option b->Option b->Option b
 | some a,_=>some a
 | none,y=>y
theorem bo{b:Type}{x y:Option b}{r:b}{G:Prop}(h:alt x y=some r)(k1:x=some r->G)(k2:y=some r->G):G:=by
 cases x with
 | none=>exact k2 h
 | some a=>exact k1 h
noncomputable def dA{c d:Type}(f:c->Option d):List c->Option (List d)
 | []=>some []
 | a::r=>(f a).bind λb=>(dA f r).map (b::·)
noncomputable def xV:Operator->Option Bop
 | .Add=>some .add|.Sub=>some .sub|.FloorDiv=>some .fdiv|.Mod=>some .mod
 | _=>none
noncomputable def txC:Const->Option X
 | .none=>some .none|.bool b=>some (.bool b)|.int i=>some (.int i)|.str s=>some (.str s)
 | _=>none
noncomputable def txN(sc:Scope)(x:Str):Option X:=
 if ap sc x then some (.var x)else if bx sc x then
  match cm.lookup x with
  | some t=>some (.top t)
  | none=>(constNames.lookup x).map .str
 else none
noncomputable def dm{b:Type}:(l:List b)->Option {a:b // l=[a]}
 | [a]=>some ⟨a,rfl⟩
 | _=>none
noncomputable def oU{c:Type}:(l:List c)->Option {q:c×c // l=[q.1,q.2]}
 | [a,b]=>some ⟨(a,b),rfl⟩
 | _=>none
noncomputable def Gi{d:Type}:(l:List d)->Option {q:d×d×d // l=[q.1,q.2.1,q.2.2]}
 | [a,b,c]=>some ⟨(a,b,c),rfl⟩
 | _=>none
theorem nW{c:Type}{l:List c}{a b x y:c}(h:l=[a,b])(d:a=x)(e:b=y):l=[x,y]:=by rw[h,d,e]
noncomputable def ints2(l:List bj):Option {p:Int×Int // l=[.int p.1,.int p.2]}:=(oU l).bind λq=>(aInt q.1.1).bind λi=>(aInt q.1.2).map λj=>⟨(i.1,j.1),nW q.2 i.2 j.2⟩
noncomputable def strs2(l:List bj):Option {p:Str×Str // l=[.str p.1,.str p.2]}:=(oU l).bind λq=>(aStr q.1.1).bind λi=>(aStr q.1.2).map λj=>⟨(i.1,j.1),nW q.2 i.2 j.2⟩
noncomputable def fh(e:Expr):Option {q:Str×Pos // e=.Name q.1 q.2}:=if h:e.ctorIdx=23 then Expr.Name.elim e h λx p=>some ⟨(x,p),rfl⟩else none
noncomputable def EC(e:Expr):Option {q:Expr×Pos // e=.Starred q.1 q.2}:=if h:e.ctorIdx=22 then Expr.Starred.elim e h λx p=>some ⟨(x,p),rfl⟩else none
noncomputable def sn(e:Expr):Option {q:(Option Expr×Option Expr×Option Expr)×Pos // e=.Slice q.1.1 q.1.2.1 q.1.2.2 q.2}:=if h:e.ctorIdx=26 then Expr.Slice.elim e h λa b c p=>some ⟨((a,b,c),p),rfl⟩else none
noncomputable def qA(e:Expr):Option {q:(Expr×List Expr×List Keyword)×Pos // e=.Call q.1.1 q.1.2.1 q.1.2.2 q.2}:=if h:e.ctorIdx=16 then Expr.Call.elim e h λa b c p=>some ⟨((a,b,c),p),rfl⟩else none
noncomputable def bin?(e:Expr):Option {q:(Expr×Operator×Expr)×Pos // e=.BinOp q.1.1 q.1.2.1 q.1.2.2 q.2}:=if h:e.ctorIdx=2 then Expr.BinOp.elim e h λa b c p=>some ⟨((a,b,c),p),rfl⟩else none
noncomputable def list?(e:Expr):Option {q:List Expr×Pos // e=.List q.1 q.2}:=if h:e.ctorIdx=24 then Expr.List.elim e h λa p=>some ⟨(a,p),rfl⟩else none
noncomputable def tup?(e:Expr):Option {q:(List Expr×Nat)×Pos // e=.Tuple q.1.1 q.1.2 q.2}:=if h:e.ctorIdx=25 then Expr.Tuple.elim e h λa k p=>some ⟨((a,k),p),rfl⟩else none
noncomputable def con?(e:Expr):Option {q:(Const×Nat)×Pos // e=.Constant q.1.1 q.1.2 q.2}:=if h:e.ctorIdx=19 then Expr.Constant.elim e h λa k p=>some ⟨((a,k),p),rfl⟩else none
noncomputable def EF(e:Expr):Option {q:(Expr×Str)×Pos // e=.Attribute q.1.1 q.1.2 q.2}:=if h:e.ctorIdx=20 then Expr.Attribute.elim e h λa k p=>some ⟨((a,k),p),rfl⟩else none
noncomputable def sub?(e:Expr):Option {q:(Expr×Expr)×Pos // e=.Subscript q.1.1 q.1.2 q.2}:=if h:e.ctorIdx=21 then Expr.Subscript.elim e h λa k p=>some ⟨((a,k),p),rfl⟩else none
noncomputable def Er(es:List Expr):Option {q:Expr×Pos // es=[.Starred q.1 q.2]}:=(dm es).bind λq=>(EC q.1).map λs=>⟨s.1,q.2.trans (congrArg (λa=>[a]) s.2)⟩
noncomputable def fG{a:Type}:(l:List a)->Option (PLift (l=[]))
 | []=>some ⟨rfl⟩
 | _=>none
noncomputable def ra{a:Type}:(l:Option a)->Option (PLift (l=none))
 | none=>some ⟨rfl⟩
 | _=>none
noncomputable def is?(p:Prop)[Decidable p]:Option (PLift p):=if h:p then some ⟨h⟩else none
noncomputable def fx(e:Expr):Bool:=((qA e).bind λc=>(fh c.1.1.1).bind λ_=>(fG c.1.1.2.1).bind λ_=>(fG c.1.1.2.2).map λ_=>()).isNone
noncomputable def txO(f:Expr->Option X):Option Expr->Option X
 | some e=>f e
 | none=>some .none
structure Gen (g:Comprehension) where
 x:Str
 p:Pos
 e:g=⟨.Name x p,g.iter,g.ifs,0⟩
noncomputable def Aq(g:Comprehension):Option (Gen g):=(fh g.target).bind λq=>(is? (g.is_async=0)).map λh=>⟨q.1.1,q.1.2,by
 obtain⟨a,b,c,d⟩:=g;have e:=q.2;have f:=h.1;dsimp only at e f;rw[<-e,f]⟩
noncomputable def txG(f:Scope->Expr->Option X)(sc cs:Scope)(elt:Expr)(g:Comprehension):Option X:=(Aq g).bind λq=>if ap cs q.x then(f sc g.iter).bind λa=>match g.ifs with
 | []=>(f cs elt).map λelt=>.comp elt q.x a
 | [c]=>(f cs elt).bind λelt=>(f cs c).map λc=>.compIf elt q.x a c
 | _=>none
 else none
noncomputable def txG2(f:Scope->Expr->Option X)(sc cs:Scope)(elt:Expr)(g a:Comprehension):Option X:=(Aq g).bind λq=>(Aq a).bind λb=>(fG g.ifs).bind λ_=>(fG a.ifs).bind λ_=>
 if ap cs q.x&&ap cs b.x && !(b.x==q.x)then(f sc g.iter).bind λd=>(f cs a.iter).bind λc=>(f cs elt).map λelt=>.comp2 elt q.x d b.x c else none
noncomputable def txL(f:Scope->Expr->Option X)(sc cs:Scope)(elt:Expr):List Comprehension->Option X
 | [g]=>txG f sc cs elt g
 | [g,g2]=>txG2 f sc cs elt g g2
 | _=>none
noncomputable def txF(f:Expr->Option X)(sc:Scope)(x:Str)(es:List Expr):Option X:=
 if bx sc x then(dA f es).bind λes=>
  match cp.lookup x with
  | some i=>some (.call i es)
  | none=>match fD.lookup x with
   | some c=>some (.new c es)
   | none=>if cl.contains x then some (.blt x es)else none
 else none
noncomputable def txA(f:Expr->Option X)(o:Expr)(a:Str)(c:Bool)(es:List Expr):Option X:=
 if fx o then match Er es with
  | some q=>(f o).bind λo=>(f q.1.1).map λe=>.methStar o a e
  | none=>if c&&decide (es.length<30)then(f o).bind λo=>(dA f es).map λes=>.meth o a es else none
 else none
noncomputable def GE(f:Expr->Option X)(sc:Scope)(l:Nat)(es:List Expr)(e:Expr):Option X:=
 alt ((EF e).bind λq=>txA f q.1.1.1 q.1.1.2 (q.1.2.endLine==l) es) ((fh e).bind λq=>txF f sc q.1.1 es)
noncomputable def tx:Nat->Scope->Expr->Option X
 | 0,_,_=>none
 | n+1,sc,e=>match e with
  | .Constant c _ _=>txC c
  | .Name x _=>txN sc x
  | .BinOp l op r _=>(xV op).bind λo=>(tx n sc l).bind λa=>(tx n sc r).map λb=>.bin o a b
  | .UnaryOp op x _=>(match op with|.USub=>(tx n sc x).map .neg|.Not=>(tx n sc x).map .not|_=>none)
  | .BoolOp op es _=>(oU es).bind λq=>(tx n sc q.1.1).bind λa=>(tx n sc q.1.2).map λb=>match op with|.And=>.and a b|.Or=>.or a b
  | .IfExp t b e _=>(tx n sc t).bind λt=>(tx n sc b).bind λb=>(tx n sc e).map λe=>.cond t b e
  | .Compare l d g _=>(dm d).bind λop=>(dm g).bind λr=>if behindInMarks op.1 r.1 then none else(tx n sc l).bind λa=>(tx n sc r.1).map λb=>.cmp op.1 a b
  | .Subscript v i _=>(tx n sc v).bind λv=>(match sn i with
   | some q=>(ra q.1.1.2.2).bind λ_=>(txO (tx n sc) q.1.1.1).bind λh=>(txO (tx n sc) q.1.1.2.1).map λj=>.slice v h j
   | none=>(tx n sc i).map λi=>.item v i)
  | .Attribute v a _=>if fx v&&fldNames.contains a then(tx n sc v).map λv=>.attr v a else none
  | .Tuple es _ _=>if es.length<=100 then(dA (tx n sc) es).map .tup else none
  | .List es _=>(dA (tx n sc) es).map .lst
  | .ListComp elt k cs _=>if csOk cs then txL (tx n) sc cs elt k else none
  | .Call f es ks p=>(fG ks).bind λ_=>GE (tx n sc) sc p.line es f
  | .NamedExpr ..|.Lambda ..|.Dict ..|.Set ..|.SetComp ..|.DictComp ..|.GeneratorExp ..|.Await ..|.Yield ..|.YieldFrom ..|.FormattedValue ..|.JoinedStr ..|.Starred ..|.Slice .. => none
structure Zip (sc:Scope) (it:Expr) where
 l:Expr
 z:Str
 i:Str
 k2:Nat
 p4:Pos
 p5:Pos
 p6:Pos
 p7:Pos
 p8:Pos
 p9:Pos
 p10:Pos
 p11:Pos
 ok:(bx sc z&&bx sc i&&z==nm "zip"&&i==nm "iter")=true
 e:it=.Call (.Name z p4) [.Starred (.BinOp (.List [.Call (.Name i p5) [l] [] p6] p7) .Mult (.Constant (.int 2) k2 p8) p9) p10] [] p11
theorem GD{k m s b n o p q l:Expr}{r le da:List Expr}{t u:List Keyword}{v:Operator}{w:Const}{z i:Str}{k2:Nat}{x y A B C D a c:Pos}(E:k=.Call m r t c)(F:m=.Name z x)(G:r=[s])(H:t=[])(I:s=.Starred b a)(J:b=.BinOp n v o D)(K:n=.List le B)(L:le=[p])(M:p=.Call q da u A)(d:q=.Name i y)(e:da=[l])(f:u=[])(g:o=.Constant w k2 C)(h:w=.int 2)(j:v=.Mult):
 k=.Call (.Name z x) [.Starred (.BinOp (.List [.Call (.Name i y) [l] [] A] B) .Mult (.Constant (.int 2) k2 C) D) a] [] c:=by
 rw[E,F,G,H,I,J,K,L,M,d,e,f,g,h,j]
noncomputable def zip?(sc:Scope)(a:Expr):Option (Zip sc a):=(qA a).bind λc=>(fh c.1.1.1).bind λz=>(dm c.1.1.2.1).bind λs=>(fG c.1.1.2.2).bind λf=>(EC s.1).bind λb=>(bin? b.1.1).bind λm=>(list? m.1.1.1).bind λls=>
 (dm ls.1.1).bind λe=>(qA e.1).bind λd=>(fh d.1.1.1).bind λi=>(dm d.1.1.2.1).bind λl=>(fG d.1.1.2.2).bind λg=>(con? m.1.1.2.2).bind λk=>(is? (k.1.1.1=.int 2)).bind λk2=>(is? (m.1.1.2.1=.Mult)).bind λh=>
 (is? ((bx sc z.1.1&&bx sc i.1.1&&z.1.1==nm "zip"&&i.1.1==nm "iter")=true)).map λj=>⟨l.1,z.1.1,i.1.1,k.1.1.2,z.1.2,i.1.2,d.1.2,ls.1.2,k.1.2,m.1.2,b.1.2,c.1.2,j.1,GD c.2 z.2 s.2 f.1 b.2 m.2 ls.2 e.2 d.2 i.2 l.2 g.1 k.2 k2.1 h.1⟩
noncomputable def oq(sc:Scope)(a:Expr):Option (Expr×List Expr):=(qA a).bind λc=>(fh c.1.1.1).bind λr=>(fG c.1.1.2.2).bind λ_=>if bx sc r.1.1&&r.1.1==nm "range" then some (c.1.1.1,c.1.1.2.1)else none
noncomputable def tsT(f:Expr->Option X)(sc:Scope)(e t:Expr):Option S:=
 alt ((fh t).bind λq=>if ap sc q.1.1 then(f e).map (.asg q.1.1)else none)
 (alt ((tup? t).bind λt=>(oU t.1.1.1).bind λq=>(fh q.1.1).bind λx=>(fh q.1.2).bind λy=>if ap sc x.1.1&&ap sc y.1.1&&bV e&&hM e then(f e).map (.asg2 x.1.1 y.1.1)else none)
 (alt ((EF t).bind λt=>if fldNames.contains t.1.1.2&&bV e then(f t.1.1.1).bind λo=>(f e).map λe=>.asgAttr o t.1.1.2 e else none)
 ((sub? t).bind λt=>(sn t.1.1.2).bind λq=>(ra q.1.1.2.2).bind λ_=>if bV e then(f t.1.1.1).bind λv=>(txO f q.1.1.1).bind λa=>(txO f q.1.1.2.1).bind λb=>(f e).map λe=>.asgSlice v a b e else none)))
noncomputable def tsF(f:Expr->Option X)(sc:Scope)(c:Expr)(d:List Stmt)(b o:List S)(t:Expr):Option S:=
 alt ((fh t).bind λq=>if ap sc q.1.1 then alt ((oq sc c).bind λp=>(dA f p.2).map λa=>.forR q.1.1 a b o) (if(oq sc c).isNone then(f c).map λc=>.forV q.1.1 c b o else none)else none)
 ((tup? t).bind λt=>(oU t.1.1.1).bind λq=>(fh q.1.1).bind λx=>(fh q.1.2).bind λy=>(zip? sc c).bind λz=>(fG d).bind λ_=>if ap sc x.1.1&&ap sc y.1.1 then(f z.l).map λl=>.forPair x.1.1 y.1.1 l b else none)
mutual
noncomputable def ts:Nat->Scope->Stmt->Option S
 | 0,_,_=>none
 | n+1,sc,st=>match st with
  | .Expr e _=>if bV e then(tx n sc e).map .expr else none
  | .Return e _=>(txO (tx n sc) e).map .ret
  | .Assign ts e _=>(dm ts).bind λt=>tsT (tx n sc) sc e t.1
  | .AugAssign t op e _=>(is? (op=.Add)).bind λ_=>(sub? t).bind λq=>(tx n sc q.1.1.1).bind λv=>(tx n sc q.1.1.2).bind λi=>(tx n sc e).map λe=>.augItem v i e
  | .If t b o _=>(tx n sc t).bind λt=>(tss n sc b).bind λb=>(tss n sc o).map λo=>.ite t b o
  | .For t a b o _=>(tss n sc b).bind λc=>(tss n sc o).bind λd=>tsF (tx n sc) sc a o c d t
  | .Break _=>some .brk
  | .Continue _=>some .cont
  | .Pass _=>some .pass
  | .FunctionDef ..|.AsyncFunctionDef ..|.ClassDef ..|.Delete ..|.TypeAlias ..|.AnnAssign ..|.AsyncFor ..|.While ..|.With ..|.AsyncWith ..|.Match ..|.Raise ..|.Try ..|.TryStar ..|.Assert ..|.Import ..|.ImportFrom ..|.Global ..|.Nonlocal .. => none
noncomputable def tss:Nat->Scope->List Stmt->Option (List S)
 | 0,_,_=>none
 | _+1,_,[]=>some []
 | n+1,sc,s::r=>(ts n sc s).bind λs=>(tss n sc r).map (s::·)
end
structure Fn where
 params:List Str
 dflts:List V
 body:List S
noncomputable def fc(e:Expr):Option V:=(con? e).bind λq=>match q.1.1.1 with
 | .none=>some .none
 | .int i=>some (.int i)
 | _=>none
structure FP (s:Stmt) where
 as:List Arg
 ds:List Expr
 body:List Stmt
 sc:Scope
 n:Str
 a:Option Scope
 b:Str
 c:Pos
 e:s=.FunctionDef n ⟨[],as,none,[],[],none,ds⟩ body [] none [] sc a b c
noncomputable def qR(s:Stmt):Option (FP s):=if h:s.ctorIdx=0 then Stmt.FunctionDef.elim (motive_2:=λs=>Option (FP s)) s h λn e body l m o sc a b c=>(fG l).bind λd=>(ra m).bind λr=>(fG o).bind λt=>(fG e.posonlyargs).bind λf=>(ra e.vararg).bind λg=>(fG e.kwonlyargs).bind λi=>(fG e.kw_defaults).bind λj=>(ra e.kwarg).map λk=>
 ⟨e.args,e.defaults,body,sc,n,a,b,c,by
  obtain⟨p,q,u,v,w,x,y⟩:=e;have f:=f.1;have g:=g.1;have i:=i.1;have j:=j.1;have k:=k.1;dsimp only at f g i j k;rw[d.1,r.1,t.1,f,g,i,j,k]⟩
 else none
noncomputable def fnOf?(s:Stmt):Option Fn:=(qR s).bind λq=>(dA fc q.ds).bind λds=>(tss 64 q.sc q.body).map λb=>⟨q.as.map (·.arg),ds,b⟩
noncomputable def top:List Stmt:=jL.main.body
noncomputable def dQ(i j:Nat):Stmt:=if h:(top.getD i default).ctorIdx=2 then Stmt.ClassDef.elim (motive_2:=λ_=>Stmt) _ h λ_ _ _ body _ _ _ _ _ _ _=>body.getD j default else default
noncomputable def ve:List (Nat×Stmt):=[(0,top.getD 10 default),(1,top.getD 12 default),(2,top.getD 14 default),(3,top.getD 15 default),(4,top.getD 16 default),(5,top.getD 17 default),(6,top.getD 18 default),
 (10,dQ 6 0),(11,dQ 6 1),(12,dQ 6 3),(13,dQ 6 7),(14,dQ 6 8),(20,dQ 7 0),(21,dQ 7 1),(22,dQ 7 2),(23,dQ 7 3),(24,dQ 7 4),(25,dQ 7 5),(26,dQ 7 6),(27,dQ 7 7),(28,dQ 7 8)]
noncomputable def aK(i:Nat):Stmt:=(ve.lookup i).getD default
set_option genInjectivity true
end Mine
set_option genCtorIdx true
namespace Mine
open PySem
theorem no{b:Type}{a:b}{p:Prop}(h:none=some a):p:=by cases h
theorem ai{b:Type}{c:Prop}[Decidable c]{y:Option b}{x:b}{G:Prop}(h:(if c then y else none)=some x)(k:c->y=some x->G):G:=by
 by_cases a:c
 ·rw[if_pos a]at h;exact k a h
 ·rw[if_neg a]at h;exact no h
theorem dl{b:Type}{c:Prop}[Decidable c]{y z:Option b}{x:b}{G:Prop}(h:(if c then y else z)=some x)(k:c->y=some x->G)(k2:¬c->z=some x->G):G:=by
 by_cases a:c
 ·rw[if_pos a]at h;exact k a h
 ·rw[if_neg a]at h;exact k2 a h
theorem bE{b c:Type}{x:Option b}{f:b->Option c}{r:c}{G:Prop}(h:x.bind f=some r)(k:∀a,x=some a->f a=some r->G):G:=by
 cases x with
 | none=>cases h
 | some a=>exact k a rfl h
theorem bP{b d e:Type}{x:Option (b×d)}{f:b×d->Option e}{r:e}{G:Prop}(h:x.bind f=some r)(k:∀a c,x=some (a,c)->f (a,c)=some r->G):G:=bE h λa=>k a.1 a.2
theorem mE{b c:Type}{x:Option b}{f:b->c}{r:c}{G:Prop}(h:x.map f=some r)(k:∀a,x=some a->f a=r->G):G:=by
 cases x with
 | none=>cases h
 | some a=>cases h;exact k a rfl rfl
theorem mP{b d e:Type}{x:Option (b×d)}{f:b×d->e}{r:e}{G:Prop}(h:x.map f=some r)(k:∀a c,x=some (a,c)->f (a,c)=r->G):G:=mE h λa=>k a.1 a.2
structure St where
 loc:List (Str×V)
 hp:List O
inductive R where
 | next|brk|cont|ret (v:V)
noncomputable def put(loc:List (Str×V))(x:Str)(v:V):List (Str×V):=(x,v)::loc
noncomputable def St.set(st:St)(x:Str)(v:V):St:={st with loc:=put st.loc x v}
noncomputable def St.new(st:St)(o:O):V×St:=(.ref st.hp.length,{st with hp:=st.hp++[o]})
noncomputable def lid:Nat:=1000000
noncomputable def rS(s:Str):Option V:=if s.length<=lid then some (.str s)else none
noncomputable def fj(vs:List V)(st:St):Option (V×St):=if vs.length<=lid then some (st.new (.list vs))else none
noncomputable def one(c:Nat):Str:=⟨#[c]⟩
noncomputable def toA(v:V):Option bj:=alt ((bW v).map λi=>.int i.1) ((dO v).map λs=>.str s.1)
noncomputable def ofA:bj->V
 | .int i=>.int i|.str s=>.str s
noncomputable def strs?:List V->Option (List Str)
 | []=>some []
 | v::r=>(dO v).bind λs=>(strs? r).map (s.1::·)
noncomputable def nq:List V->Option (List Int)
 | []=>some []
 | v::r=>(bW v).bind λi=>(nq r).map (i.1::·)
noncomputable def gE:List V->Option (List (Int×Int))
 | []=>some []
 | v::r=>(mK v).bind λl=>(ints2 l.1).bind λp=>(gE r).map (p.1::·)
noncomputable def items?(st:St)(v:V):Option (List V):=(du v).bind λk=>(cI st.hp[k.1]?).map (·.1)
noncomputable def bk:Int:=1000000000000
noncomputable def aH(i:Int):Bool:=decide (-bk<=i)&&decide (i<=bk)
noncomputable def rJ(i:Int):Option V:=if aH i then some (.int i)else none
noncomputable def wt(a b:V)(st:St):Option (V×St):=alt ((bW a).bind λi=>(bW b).bind λj=>(rJ (i.1+j.1)).map (·,st)) (alt ((dO a).bind λs=>(dO b).bind λt=>(rS (s.1++t.1)).map (·,st))
 ((du a).bind λk=>(du b).bind λl=>(cI st.hp[k.1]?).bind λa=>(cI st.hp[l.1]?).bind λb=>fj (a.1++b.1) st))
noncomputable def km(op:Bop)(a b:V)(st:St):Option (V×St):=match op with
 | .add=>wt a b st
 | .sub=>(bW a).bind λi=>(bW b).bind λj=>(rJ (i.1-j.1)).map (·,st)
 | .fdiv=>(bW a).bind λi=>(bW b).bind λj=>if 0<j.1/\j.1<1000000000 then(rJ (Int.fdiv i.1 j.1)).map (·,st)else none
 | .mod=>(bW a).bind λi=>(bW b).bind λj=>if 0<j.1 then(rJ (Int.fmod i.1 j.1)).map (·,st)else none
noncomputable def bl(i:Int)(n:Nat):Option Nat:=
 if aH i=false then none else if 0<=i then(if i<n then some i.toNat else none)else(if -(n:Int)<=i then some (i+n).toNat else none)
noncomputable def dp(a i:V)(st:St):Option V:=(bW i).bind λi=>
 alt ((du a).bind λk=>alt ((cI st.hp[k.1]?).bind λl=>(bl i.1 l.1.length).bind (l.1[·]?)) ((fu st.hp[k.1]?).bind λl=>(bl i.1 l.1.2.length).bind (l.1.2[·]?)))
 (alt ((mK a).bind λl=>(bl i.1 l.1.length).bind λj=>(l.1[j]?).map ofA) ((dO a).bind λs=>(bl i.1 s.1.cps.size).bind λj=>(s.1.cps[j]?).map λc=>.str (one c)))
noncomputable def cut(n:Nat)(i:Int):Nat:=if i<0 then(i+n).toNat else min i.toNat n
noncomputable def gJ(n:Nat)(d:Nat)(v:V):Option Nat:=alt ((xY v).map λ_=>d) ((bW v).map λi=>cut n i.1)
noncomputable def part(vs:List V)(a b:Nat):List V:=(vs.drop a).take (b-a)
noncomputable def oy(vs:List V)(a b:V)(st:St):Option (V×St):=if vs.length<=lid then(gJ vs.length 0 a).bind λi=>(gJ vs.length vs.length b).bind λj=>fj (part vs i j) st else none
noncomputable def fO(a b c:V)(st:St):Option (V×St):=(du a).bind λk=>alt ((cI st.hp[k.1]?).bind λl=>oy l.1 b c st) (alt ((fu st.hp[k.1]?).bind λl=>oy l.1.2 b c st) ((Em st.hp[k.1]?).bind λl=>oy (l.1.1.map λp=>.int p.1) b c st))
noncomputable def gR:List Int:=[173,847,6150,6155,6156,6157,8203,8204,8205,8288,65279]++(yS 16).map (λi=>((65024+i:Nat):Int))
noncomputable def AO(s t:Str):Option Bool:=(dm s.cps.toList).map λc=>t.cps.toList.contains c.1
noncomputable def inV(a b:V):Option Bool:=
 alt ((dO a).bind λs=>alt ((dO b).bind λt=>AO s.1 t.1) ((mK b).map λl=>l.1.contains (.str s.1))) ((bW a).bind λi=>(vTop b).bind λt=>if t.1=0 then some (gR.contains i.1)else none)
noncomputable def kS(l:List bj):Bool:=l.all λa=>(aStr a).isSome
noncomputable def eqV(a b:V)(st:St):Option Bool:=
 alt ((bW a).bind λi=>(bW b).map λj=>i.1==j.1) (alt ((dO a).bind λs=>(dO b).map λt=>s.1==t.1) (alt ((mK a).bind λl=>(mK b).bind λm=>if kS l.1&&kS m.1 then some (l.1==m.1)else none)
  ((du a).bind λk=>(du b).bind λl=>(cI st.hp[k.1]?).bind λa=>(cI st.hp[l.1]?).bind λb=>if b.1.isEmpty then some a.1.isEmpty else none)))
noncomputable def isV(a b:V):Option Bool:=(xY b).bind λ_=>match a with|.none=>some true|.str _|.int _|.ref _=>some false|_=>none
noncomputable def ltV(f:Int->Int->Bool)(a b:V):Option Bool:=(bW a).bind λi=>(bW b).map λj=>f i.1 j.1
noncomputable def ninV(a b:V):Option Bool:=if(vTop b).isSome then none else(inV a b).map (!·)
noncomputable def fP(op:CmpOp)(a b:V)(st:St):Option Bool:=match op with
 | .Eq=>eqV a b st
 | .NotEq=>(eqV a b st).map (!·)
 | .In=>inV a b
 | .NotIn=>ninV a b
 | .Is=>isV a b
 | .IsNot=>(isV a b).map (!·)
 | .Lt=>ltV (λi j=>decide (i<j)) a b
 | .LtE=>ltV (λi j=>decide (i<=j)) a b
 | .Gt=>ltV (λi j=>decide (j<i)) a b
 | .GtE=>ltV (λi j=>decide (j<=i)) a b
noncomputable def iF(a:V)(n:Str)(st:St):Option V:=(du a).bind λk=>alt ((nj st.hp[k.1]?).bind λfs=>fs.1.lookup n) ((fu st.hp[k.1]?).bind λo=>o.1.1.lookup n)
noncomputable def setField:List (Str×V)->Str->V->List (Str×V)
 | [],n,v=>[(n,v)]
 | (m,u)::r,n,v=>if m==n then(m,v)::r else(m,u)::setField r n v
noncomputable def et(a:V)(n:Str)(v:V)(st:St):Option St:=(du a).bind λk=>
 alt ((nj st.hp[k.1]?).bind λfs=>if fs.1.length<=100 then some {st with hp:=st.hp.set k.1 (.inst (setField fs.1 n v))}else none)
 ((fu st.hp[k.1]?).bind λo=>if o.1.1.length<=100 then some {st with hp:=st.hp.set k.1 (.acc (setField o.1.1 n v) o.1.2)}else none)
noncomputable def cH(s:Str):Bool:=decide (0<s.cps.size)&&s.cps.toList.all yI
noncomputable def isW(c:Nat):Bool:=c==32||c==9
noncomputable def dU:Nat->List Nat->List (List Nat)
 | 0,t=>[t]
 | n+1,t=>match t.dropWhile (!isW ·)with
  | []=>[t]
  | c::r=>t.takeWhile (!isW ·)::(c::r).takeWhile isW::dU n ((c::r).dropWhile isW)
noncomputable def toS(l:List Nat):Str:=⟨l.toArray⟩
noncomputable def tabOf:List (Option Expr)->List Expr->List (Int×Str)
 | some k::ks,v::vs=>match con? k,con? v with
  | some ⟨((.int k,_),_),_⟩,some ⟨((.str s,_),_),_⟩=>(k,s)::tabOf ks vs
  | _,_=>[]
 | _,_=>[]
noncomputable def b3Tab:List (Int×Str):=if h:(top.getD 11 default).ctorIdx=5 then Stmt.Assign.elim (motive_2:=λ_=>List (Int×Str)) _ h λ_ d _=>if h:d.ctorIdx=6 then Expr.Dict.elim (motive_1:=λ_=>List (Int×Str)) d h λks vs _=>tabOf ks vs else[]else[]
noncomputable abbrev Fs:=Nat->List V->List O->Option (V×List O)
noncomputable def vfMeth:List (Str×Nat):=[(nm "_str",11),(nm "newline",12),(nm "_ascii_split",13),(nm "_append_chunk",14)]
noncomputable def acMeth:List (Str×Nat):=[(nm "push",21),(nm "pop_from",22),(nm "pop",23),(nm "reset",26),(nm "is_onlyws",27),(nm "part_count",28)]
noncomputable def cF(F:Fs)(f:Nat)(as:List V)(st:St):Option (V×St):=(F f as st.hp).map λr=>(r.1,{st with hp:=r.2})
noncomputable def mD:List (Int×Int)->Option (Int×Int)
 | []=>none
 | p::r=>some (r.foldl (λm q=>if q.1<m.1\/(q.1=m.1/\q.2<m.2)then q else m) p)
noncomputable def n2(F:Fs)(as:List V)(st:St):Option (Int×St):=(cF F 24 as st).bind λr=>(bW r.1).bind λi=>if 0<=i.1/\aH i.1=true then some (i.1,r.2)else none
noncomputable def a7(F:Fs)(v:V)(st:St):Option (Bool×St):=
 alt ((vBool v).map λb=>(b.1,st)) (alt ((bW v).map λi=>(i.1 != 0,st)) (alt ((dO v).bind λs=>if s.1.length<=lid then some (s.1.cps.size != 0,st)else none)
  ((du v).bind λk=>alt ((cI st.hp[k.1]?).bind λl=>if l.1.length<=lid then some (!l.1.isEmpty,st)else none) ((fu st.hp[k.1]?).bind λ_=>(n2 F [v] st).map λr=>(r.1 != 0,r.2)))))
noncomputable def lenV(F:Fs)(v:V)(st:St):Option (V×St):=alt ((dO v).bind λs=>if s.1.length<=lid then some (.int s.1.cps.size,st)else none)
 ((du v).bind λk=>alt ((cI st.hp[k.1]?).bind λl=>if l.1.length<=lid then some (.int l.1.length,st)else none) ((fu st.hp[k.1]?).bind λ_=>(n2 F [v] st).map λr=>(.int r.1,r.2)))
noncomputable def blt6(F:Fs)(n:Str)(a:V)(st:St):Option (V×St):=if n=nm "str" then(du a).bind λk=>(fu st.hp[k.1]?).bind λ_=>(cF F 25 [a] st).bind λr=>(dO r.1).map λs=>(.str s.1,r.2)else none
noncomputable def blt5(F:Fs)(n:Str)(a:V)(st:St):Option (V×St):=if n=nm "min" then(items? st a).bind λvs=>(gE vs).bind λl=>(mD l).map λp=>(.tup [.int p.1,.int p.2],st)else blt6 F n a st
noncomputable def blt4(F:Fs)(n:Str)(a:V)(st:St):Option (V×St):=if n=nm "sum" then(items? st a).bind λvs=>(nq vs).bind λl=>if l.all aH&&decide (l.length<=100)then some (.int l.sum,st)else none else blt5 F n a st
noncomputable def blt3(F:Fs)(n:Str)(a:V)(st:St):Option (V×St):=if n=nm "chr" then(bW a).bind λi=>if 0<=i.1/\i.1<1114112 then some (.str (one i.1.toNat),st)else none else blt4 F n a st
noncomputable def blt2(F:Fs)(n:Str)(a:V)(st:St):Option (V×St):=if n=nm "ord" then(dO a).bind λs=>(dm s.1.cps.toList).map λc=>(.int c.1,st)else blt3 F n a st
noncomputable def iE(F:Fs)(n:Str)(as:List V)(st:St):Option (V×St):=(dm as).bind λa=>if n=nm "len" then lenV F a.1 st else blt2 F n a.1 st
inductive Mth where
 | blt (id:String)|fn (i:Nat)
 deriving DecidableEq
noncomputable def mthS(n:Str):Option Mth:=if n=nm "join" then some (.blt "str.join")else if n=nm "isspace" then some (.blt "str.isspace")else if n=nm "lower" then some (.blt "str.lower")else none
noncomputable def mthT(t:Nat)(n:Str):Option Mth:=if t=1 then(if n=nm "get" then some (.blt "dict.get")else none)else if t=2 then(if n=nm "split" then some (.blt "re.Pattern.split")else none)else none
noncomputable def mthR(o:Option O)(n:Str):Option Mth:=
 alt ((cI o).bind λ_=>if n=nm "append" then some (.blt "list.append")else if n=nm "pop" then some (.blt "list.pop")else none) (alt ((nj o).bind λfs=>if fs.1.lookup n=none then(vfMeth.lookup n).map .fn else none)
  ((fu o).bind λq=>if q.1.1.lookup n=none then(if n=nm "append" then some (.blt "list.append")else(acMeth.lookup n).map .fn)else none))
noncomputable def aW(v:V)(n:Str)(st:St):Option Mth:=alt ((dO v).bind λ_=>mthS n) (alt ((vTop v).bind λt=>mthT t.1 n) ((du v).bind λk=>mthR st.hp[k.1]? n))
noncomputable def Ci(s:Str)(n:Str)(as:List V)(st:St):Option (V×St):=
 if n=nm "join" then(dm as).bind λl=>(items? st l.1).bind λvs=>(strs? vs).bind λa=>if(a.map (·.length)).sum+a.length*s.length<=lid then some (.str (Str.join s a),st)else none
 else if n=nm "isspace" then(fG as).map λ_=>(.bool (cH s),st)
 else if n=nm "lower" then(fG as).bind λ_=>(dm s.cps.toList).bind λc=>(rS (toS (jM c.1))).map (·,st)
 else none
noncomputable def b3V(i:Int):V:=match b3Tab.lookup i with|some s=>.str s|none=>.none
noncomputable def Bk(t:Nat)(n:Str)(as:List V)(st:St):Option (V×St):=
 if t=1 then(if n=nm "get" then(dm as).bind λa=>(bW a.1).map λi=>(b3V i.1,st)else none)
 else if t=2 then(if n=nm "split" then(dm as).bind λa=>(dO a.1).bind λs=>if s.1.cps.size<=lid then fj ((dU (s.1.cps.size+1) s.1.cps.toList).map λl=>.str (toS l)) st else none else none)
 else none
noncomputable def AQ(k:Nat)(vs:List V)(n:Str)(as:List V)(st:St):Option (V×St):=
 if n=nm "append" then(dm as).bind λv=>if vs.length+1<=lid then some (.none,{st with hp:=st.hp.set k (.list (vs++[v.1]))})else none
 else if n=nm "pop" then(dm as).bind λa=>(bW a.1).bind λi=>if i.1=0 then(match vs with|[]=>none|v::r=>if r.length<=lid then some (v,{st with hp:=st.hp.set k (.list r)})else none)else none
 else none
noncomputable def EI(F:Fs)(k:Nat)(fs:List (Str×V))(vs:List V)(n:Str)(as:List V)(st:St):Option (V×St):=
 if n=nm "append" then(dm as).bind λv=>if vs.length+1<=lid then some (.none,{st with hp:=st.hp.set k (.acc fs (vs++[v.1]))})else none
 else(acMeth.lookup n).bind λf=>cF F f (.ref k::as) st
noncomputable def cU(F:Fs)(a:V)(n:Str)(as:List V)(st:St):Option (V×St):=alt ((dO a).bind λs=>Ci s.1 n as st) (alt ((vTop a).bind λt=>Bk t.1 n as st) ((du a).bind λk=>
 alt ((cI st.hp[k.1]?).bind λl=>AQ k.1 l.1 n as st) (alt ((nj st.hp[k.1]?).bind λ_=>(vfMeth.lookup n).bind λf=>cF F f (.ref k.1::as) st) ((fu st.hp[k.1]?).bind λo=>EI F k.1 o.1.1 o.1.2 n as st))))
noncomputable def newO(F:Fs)(o:O)(f:Nat)(as:List V)(st:St):Option (V×St):=(cF F f ((st.new o).1::as) (st.new o).2).bind λq=>(xY q.1).map λ_=>((st.new o).1,q.2)
noncomputable def newV(F:Fs)(c:Nat)(as:List V)(st:St):Option (V×St):=if c=0 then newO F (.inst []) 10 as st else if c=1 then newO F (.acc [] []) 20 as st else none
noncomputable def dj(g:List O->Bool)(f:V->List V->List O->Option (List V×List O)):List V->List V->List O->Option (List V×List O)
 | [],acc,hp=>if g hp=true then some (acc,hp)else none
 | v::r,acc,hp=>if g hp=true then(f v acc hp).bind λq=>dj g f r q.1 q.2 else none
open Classical in
noncomputable def dv(f:V->List V->List O->Option (List V×List O))(v:V)(acc:List V)(hp:List O):Option (List V×List O):=
 alt ((dO v).bind λs=>dj (λ_=>true) f (s.1.cps.toList.map λc=>.str (one c)) acc hp) ((du v).bind λk=>(cI hp[k.1]?).bind λl=>dj (λhp=>decide (hp[k.1]?=some (.list l.1))) f l.1 acc hp)
noncomputable def push(acc:List V)(v:V)(hp:List O):Option (List V×List O):=if acc.length+1<=lid then some (acc++[v],hp)else none
noncomputable def pairsOf:List V->Option (List (Str×Str))
 | []=>some []
 | v::r=>(mK v).bind λl=>(strs2 l.1).bind λp=>(pairsOf r).map (p.1::·)
mutual
noncomputable def ev(F:Fs):X->St->Option (V×St)
 | .none,st=>some (.none,st)
 | .bool b,st=>some (.bool b,st)
 | .int i,st=>some (.int i,st)
 | .str s,st=>some (.str s,st)
 | .var x,st=>(st.loc.lookup x).map (·,st)
 | .top t,st=>some (.top t,st)
 | .bin op a b,st=>(ev F a st).bind λr=>(ev F b r.2).bind λq=>km op r.1 q.1 q.2
 | .neg a,st=>(ev F a st).bind λr=>(bW r.1).map λi=>(.int (-i.1),r.2)
 | .not a,st=>(ev F a st).bind λr=>(a7 F r.1 r.2).map λt=>(.bool (!t.1),t.2)
 | .and a b,st=>(ev F a st).bind λr=>(a7 F r.1 r.2).bind λt=>match t.1 with|true=>ev F b t.2|false=>some (r.1,t.2)
 | .or a b,st=>(ev F a st).bind λr=>(a7 F r.1 r.2).bind λt=>match t.1 with|false=>ev F b t.2|true=>some (r.1,t.2)
 | .cond t b e,st=>(evT F t st).bind λr=>match r.1 with|true=>ev F b r.2|false=>ev F e r.2
 | .cmp op a b,st=>(ev F a st).bind λr=>(ev F b r.2).bind λq=>(fP op r.1 q.1 q.2).map λc=>(.bool c,q.2)
 | .item a i,st=>(ev F a st).bind λr=>(ev F i r.2).bind λq=>(dp r.1 q.1 q.2).map (·,q.2)
 | .slice a lo hi,st=>(ev F a st).bind λr=>(ev F lo r.2).bind λp=>(ev F hi p.2).bind λq=>fO r.1 p.1 q.1 q.2
 | .attr a n,st=>(ev F a st).bind λr=>(iF r.1 n r.2).map (·,r.2)
 | .tup es,st=>(evs F es st).bind λr=>(dA toA r.1).map λl=>(.tup l,r.2)
 | .lst es,st=>(evs F es st).bind λr=>fj r.1 r.2
 | .call f es,st=>(evs F es st).bind λr=>cF F f r.1 r.2
 | .new c es,st=>(evs F es st).bind λr=>newV F c r.1 r.2
 | .meth a n es,st=>(ev F a st).bind λr=>(evs F es r.2).bind λq=>if(aW r.1 n r.2).isSome/\aW r.1 n r.2=aW r.1 n q.2 then cU F r.1 n q.1 q.2 else none
 | .methStar a n e,st=>(ev F a st).bind λr=>(ev F e r.2).bind λq=>(mK q.1).bind λl=>(aW r.1 n r.2).bind λm=>match m with|.fn i=>if aW r.1 n q.2=some (.fn i)/\l.1.length<=100 then cU F r.1 n (l.1.map ofA) q.2 else none|.blt _=>none
 | .blt n es,st=>(evs F es st).bind λr=>iE F n r.1 r.2
 | .comp elt x it,st=>(ev F it st).bind λr=>
  (dv (λv acc hp=>(ev F elt ⟨[(x,v)],hp⟩).bind λq=>push acc q.1 q.2.hp) r.1 [] r.2.hp).bind λq=>fj q.1 {r.2 with hp:=q.2}
 | .compIf elt x it c,st=>(ev F it st).bind λr=>
  (dv (λv acc hp=>(evT F c ⟨[(x,v)],hp⟩).bind λt=>match t.1 with
   | true=>(ev F elt ⟨[(x,v)],t.2.hp⟩).bind λq=>push acc q.1 q.2.hp
   | false=>some (acc,t.2.hp)) r.1 [] r.2.hp).bind λq=>fj q.1 {r.2 with hp:=q.2}
 | .comp2 elt x it y it2,st=>(ev F it st).bind λr=>
  (dv (λv acc hp=>(ev F it2 ⟨[(x,v)],hp⟩).bind λp=>
   dv (λu acc hp=>(ev F elt ⟨[(y,u),(x,v)],hp⟩).bind λq=>push acc q.1 q.2.hp) p.1 acc p.2.hp) r.1 [] r.2.hp).bind λq=>fj q.1 {r.2 with hp:=q.2}
noncomputable def evT(F:Fs):X->St->Option (Bool×St)
 | .not a,st=>(evT F a st).map λr=>(!r.1,r.2)
 | .and a b,st=>(evT F a st).bind λr=>match r.1 with|true=>evT F b r.2|false=>some (false,r.2)
 | .or a b,st=>(evT F a st).bind λr=>match r.1 with|false=>evT F b r.2|true=>some (true,r.2)
 | .cmp op a b,st=>(ev F a st).bind λr=>(ev F b r.2).bind λq=>(fP op r.1 q.1 q.2).map λc=>(c,q.2)
 | .none,st=>(some (.none,st)).bind λr=>a7 F r.1 r.2
 | .bool b,st=>(some (.bool b,st)).bind λr=>a7 F r.1 r.2
 | .int i,st=>(some (.int i,st)).bind λr=>a7 F r.1 r.2
 | .str s,st=>(some (.str s,st)).bind λr=>a7 F r.1 r.2
 | .var x,st=>((st.loc.lookup x).map (·,st)).bind λr=>a7 F r.1 r.2
 | .item a i,st=>((ev F a st).bind λr=>(ev F i r.2).bind λq=>(dp r.1 q.1 q.2).map (·,q.2)).bind λr=>a7 F r.1 r.2
 | .attr a n,st=>((ev F a st).bind λr=>(iF r.1 n r.2).map (·,r.2)).bind λr=>a7 F r.1 r.2
 | .call f es,st=>((evs F es st).bind λr=>cF F f r.1 r.2).bind λr=>a7 F r.1 r.2
 | .meth a n es,st=>((ev F a st).bind λr=>(evs F es r.2).bind λq=>if(aW r.1 n r.2).isSome/\aW r.1 n r.2=aW r.1 n q.2 then cU F r.1 n q.1 q.2 else none).bind λr=>a7 F r.1 r.2
 | .top _,_|.bin _ _ _,_|.neg _,_|.cond _ _ _,_|.slice _ _ _,_|.tup _,_|.lst _,_|.new _ _,_|.methStar _ _ _,_|.blt _ _,_|.comp _ _ _,_|.compIf _ _ _ _,_|.comp2 _ _ _ _ _,_=>none
noncomputable def evs(F:Fs):List X->St->Option (List V×St)
 | [],st=>some ([],st)
 | e::r,st=>(ev F e st).bind λp=>(evs F r p.2).map λq=>(p.1::q.1,q.2)
end
noncomputable def turns(f:V->St->Option (R×St))(rest:St->Option (R×St)):List V->St->Option (R×St)
 | [],st=>rest st
 | v::r,st=>(f v st).bind λq=>match q.1 with
  | .next|.cont=>turns f rest r q.2
  | .brk=>some (.next,q.2)
  | .ret v=>some (.ret v,q.2)
open Classical in
noncomputable def dC(f:V->V->St->Option (R×St))(k g:Nat)(all:List V):List V->St->Option (R×St)
 | [],st=>if st.hp[k]?=some (.list all)/\st.hp[g]?=some .ghost then some (.next,st)else none
 | [_],_=>none
 | u::v::r,st=>if st.hp[k]?=some (.list all)/\st.hp[g]?=some .ghost then(f u v st).bind λq=>match q.1 with
  | .next|.cont=>dC f k g all r q.2
  | .brk=>some (.next,q.2)
  | .ret v=>some (.ret v,q.2)
  else none
noncomputable def aX:Nat->Int->Int->List V
 | 0,_,_=>[]
 | n+1,a,d=>.int a::aX n (a+d) d
noncomputable def rng1(as:List V):Option (List V):=(dm as).bind λb=>(bW b.1).bind λb=>if aH b.1&&decide (b.1<=100000)then some (aX b.1.toNat 0 1)else none
noncomputable def rng2(as:List V):Option (List V):=(oU as).bind λq=>(bW q.1.1).bind λa=>(bW q.1.2).bind λb=>if aH a.1&&aH b.1&&decide (b.1-a.1<=100000)then some (aX (b.1-a.1).toNat a.1 1)else none
noncomputable def rng3(as:List V):Option (List V):=(Gi as).bind λq=>(bW q.1.1).bind λa=>(bW q.1.2.1).bind λb=>(bW q.1.2.2).bind λc=>if c.1 = -1/\(aH a.1&&aH b.1&&decide (a.1-b.1<=100000))=true then some (aX (a.1-b.1).toNat a.1 (-1))else none
noncomputable def iM(as:List V):Option (List V):=alt (rng1 as) (alt (rng2 as) (rng3 as))
noncomputable def gc(st:St)(k:Nat)(f:List V->O)(vs:List V)(a b:V)(new:List V):Option (R×St):=(gJ vs.length 0 a).bind λi=>(gJ vs.length vs.length b).bind λj=>
 if vs.length+new.length<=lid then some (.next,{st with hp:=st.hp.set k (f (vs.take i++new++vs.drop (max i j)))})else none
noncomputable def aslV(st:St)(o a b:V)(new:List V):Option (R×St):=(du o).bind λk=>alt ((cI st.hp[k.1]?).bind λl=>gc st k.1 .list l.1 a b new) ((fu st.hp[k.1]?).bind λl=>gc st k.1 (.acc l.1.1) l.1.2 a b new)
open Classical in
noncomputable def augV(st:St)(old b r i:V):Option (R×St):=(dO old).bind λx=>(dO b).bind λy=>(du r).bind λk=>(bW i).bind λi=>(cI st.hp[k.1]?).bind λl=>(bl i.1 l.1.length).bind λj=>
 if l.1[j]?=some old then(rS (x.1++y.1)).map λv=>(.next,{st with hp:=st.hp.set k.1 (.list (l.1.set j v))})else none
mutual
noncomputable def ex(F:Fs):S->St->Option (R×St)
 | .expr e,st=>(ev F e st).map λr=>(.next,r.2)
 | .ret e,st=>(ev F e st).map λr=>(.ret r.1,r.2)
 | .asg x e,st=>(ev F e st).map λr=>(.next,r.2.set x r.1)
 | .asg2 x y e,st=>(ev F e st).bind λr=>(mK r.1).bind λl=>(oU l.1).map λq=>(.next,(r.2.set x (ofA q.1.1)).set y (ofA q.1.2))
 | .asgAttr o n e,st=>(ev F e st).bind λr=>(ev F o r.2).bind λq=>(et q.1 n r.1 q.2).map λs=>(.next,s)
 | .asgSlice o lo hi e,st=>(ev F e st).bind λr=>(ev F o r.2).bind λq=>(ev F lo q.2).bind λp=>(ev F hi p.2).bind λh=>(items? h.2 r.1).bind λnew=>aslV h.2 q.1 p.1 h.1 new
 | .augItem o i e,st=>(ev F o st).bind λr=>(ev F i r.2).bind λq=>(dp r.1 q.1 q.2).bind λold=>(ev F e q.2).bind λp=>augV p.2 old p.1 r.1 q.1
 | .ite t b o,st=>(evT F t st).bind λr=>match r.1 with|true=>exs F b r.2|false=>exs F o r.2
 | .forR x a b o,st=>(evs F a st).bind λr=>(iM r.1).bind λl=>turns (λv s=>exs F b (s.set x v)) (λs=>exs F o s) l r.2
 | .forV x it b o,st=>(ev F it st).bind λr=>(dO r.1).bind λs=>turns (λv s=>exs F b (s.set x v)) (λs=>exs F o s) (s.1.cps.toList.map λc=>.str (one c)) r.2
 | .forPair x y l b,st=>(ev F l st).bind λr=>(du r.1).bind λk=>(cI r.2.hp[k.1]?).bind λvs=>dC (λu v s=>exs F b ((s.set x u).set y v)) k.1 r.2.hp.length vs.1 vs.1 {r.2 with hp:=r.2.hp++[.ghost]}
 | .brk,st=>some (.brk,st)
 | .cont,st=>some (.cont,st)
 | .pass,st=>some (.next,st)
noncomputable def exs(F:Fs):List S->St->Option (R×St)
 | [],st=>some (.next,st)
 | s::r,st=>(ex F s st).bind λq=>match q.1 with
  | .next=>exs F r q.2
  | f=>some (f,q.2)
end
noncomputable def iU:List Str->List V->List V->Option (List (Str×V))
 | ps,as,ds=>
  let all:=as++ds.drop (ds.length-(ps.length-as.length))
  if as.length<=ps.length/\all.length=ps.length then some (ps.zip all)else none
noncomputable def sp20(as:List V)(hp:List O):Option (V×List O):=(oU as).bind λq=>(du q.1.1).bind λk=>(bW q.1.2).bind λi=>(fu hp[k.1]?).bind λo=>if o.1.1.length<=100/\aH i.1=true/\o.1.2.length<=lid then some (.none,hp.set k.1 (.acc (setField o.1.1 (nm "_initial_size") (.int i.1)) []))else none
noncomputable def sp23(as:List V)(hp:List O):Option (V×List O):=(dm as).bind λq=>(du q.1).bind λk=>(fu hp[k.1]?).bind λo=>if o.1.2.length<=lid/\o.1.1.lookup (nm "part_count")=none then some (match o.1.2.getLast? with
 | some v=>(v,hp.set k.1 (.acc o.1.1 o.1.2.dropLast))
 | none=>(.tup [.str (nm ""),.str (nm "")],hp))else none
noncomputable def sp24(as:List V)(hp:List O):Option (V×List O):=(dm as).bind λq=>(du q.1).bind λk=>(fu hp[k.1]?).bind λo=>(pairsOf o.1.2).bind λps=>(o.1.1.lookup (nm "_initial_size")).bind λv=>(bW v).bind λi=>
 if aH i.1=true/\0<=i.1/\ps.length<=1000/\(∀p∈ps,p.1.length<=1000/\p.2.length<=1000)then some (.int (ps.foldl (λn p=>n+((p.1.length:Int)+(p.2.length:Int))) i.1),hp)else none
noncomputable def sp25(as:List V)(hp:List O):Option (V×List O):=(dm as).bind λq=>(du q.1).bind λk=>(fu hp[k.1]?).bind λo=>(pairsOf o.1.2).bind λps=>if ps.length<=1000/\(∀p∈ps,p.1.length<=1000/\p.2.length<=1000)then some (.str (toS (ps.flatMap λp=>p.1.cps.toList++p.2.cps.toList)),hp)else none
noncomputable def sp28(as:List V)(hp:List O):Option (V×List O):=(dm as).bind λq=>(du q.1).bind λk=>(fu hp[k.1]?).bind λo=>if o.1.2.length<=lid then some (.int o.1.2.length,hp)else none
noncomputable def gV(f:Nat)(as:List V)(hp:List O):Option (Option (V×List O)):=
 if f=20 then some (sp20 as hp)else if f=23 then some (sp23 as hp)else if f=24 then some (sp24 as hp)else if f=25 then some (sp25 as hp)else if f=28 then some (sp28 as hp)else none
noncomputable def run(a:Nat->Option Fn):Nat->Fs
 | 0,_,_,_=>none
 | n+1,f,as,hp=>match gV f as hp with
  | some r=>r
  | none=>(a f).bind λfn=>(iU fn.params as fn.dflts).bind λloc=>(exs (run a n) fn.body ⟨loc,hp⟩).map λr=>(match r.1 with|.ret v=>v|_=>.none,r.2.hp)
theorem BI{a:Nat->Option Fn}{n f:Nat}:run a (n+1) f as hp=(match gV f as hp with
 | some r=>r
 | none=>(a f).bind λfn=>(iU fn.params as fn.dflts).bind λloc=>(exs (run a n) fn.body ⟨loc,hp⟩).map λr=>(match r.1 with|.ret v=>v|_=>.none,r.2.hp)):=rfl
noncomputable def tabNow(f:Nat):Option Fn:=fnOf? (aK f)
end Mine
namespace Mine
open PySem
theorem s1{e f:Type}{a c:e}{b d:f}(h:some (a,b)=some (c,d)):c=a:=(congrArg Prod.fst (zE h)).symm
theorem s2{e f:Type}{a c:e}{b d:f}(h:some (a,b)=some (c,d)):d=b:=(congrArg Prod.snd (zE h)).symm
theorem p1{e f:Type}{a c:e}{b d:f}(h:(a,b)=(c,d)):c=a:=(congrArg Prod.fst h).symm
theorem p2{e f:Type}{a c:e}{b d:f}(h:(a,b)=(c,d)):d=b:=(congrArg Prod.snd h).symm
theorem s3{e f:Type}{a c:e}{b d:f}(h:some (a,b)=some (c,d)):b=d:=congrArg Prod.snd (zE h)
theorem p3{e f:Type}{a c:e}{b d:f}(h:(a,b)=(c,d)):b=d:=congrArg Prod.snd h
theorem sp{e f:Type}{a c:e}{b d:f}(g:a=c)(h:b=d):some (a,b)=some (c,d):=by rw[g,h]
theorem eJ{a x:V}(h:as=[a])(b:a=x):as=[x]:=b▸h
theorem By{a b c x y:V}(h:as=[a,b,c])(d:a=x)(e:b=y)(f:c=z):as=[x,y,z]:=d▸e▸f▸h
section
variable {G:Prop}{st st':St}{F:Fs}{u:V}
theorem addE:∀{a b v:V}(h:wt a b st=some (v,st'))(k1:∀i j,a=.int i->b=.int j->(rJ (i+j)).map (·,st)=some (v,st')->G)(k2:∀x y,a=.str x->b=.str y->rS (x++y)=some v->st=st'->G)(k3:∀k l u w,a=.ref k->b=.ref l->st.hp[k]?=some (.list u)->st.hp[l]?=some (.list w)->fj (u++w) st=some (v,st')->G),G:=by
 revert G st st';exists dI,G,st,st',a,b,v;intro h k1 k2 k3;exact(bo h (λh=>bE h λi _ h=>bE h λj _ h=>k1 _ _ i.2 j.2 h) λh=>bo h (λh=>bE h λx _ h=>bE h λy _ h=>mE h λu c e=>k2 _ _ x.2 y.2 (p1 e▸c) (p3 e))
  λh=>bE h λk _ h=>bE h λl _ h=>bE h λu _ h=>bE h λw _ h=>k3 _ _ _ _ k.2 l.2 u.2 w.2 h)
theorem EG:∀{a i v:V}(h:dp a i st=some v)(k1:∀b k o vs j,i=.int b->a=.ref k->st.hp[k]?=some o->(o=.list vs\/∃fs,o=.acc fs vs)->bl b vs.length=some j->vs[j]?=some v->G)(k2:∀b l j c,i=.int b->a=.tup l->bl b l.length=some j->l[j]?=some c->ofA c=v->G)(k3:∀b s j c,i=.int b->a=.str s->bl b s.cps.size=some j->s.cps[j]?=some c->v=.str (one c)->G),G:=by
 revert G st;exists ce5_,G,st,a,i,v;intro h k1 k2 k3;exact(bE h λi _ h=>bo h (λh=>bE h λk _ h=>bo h (λh=>bE h λl _ h=>bE h λj d h=>k1 _ _ _ _ _ i.2 k.2 l.2 (.inl rfl) d h) λh=>bE h λl _ h=>bE h λj d h=>k1 _ _ _ _ _ i.2 k.2 l.2 (.inr ⟨_,rfl⟩) d h)
  λh=>bo h (λh=>bE h λl _ h=>bE h λj d h=>mE h λc f e=>k2 _ _ _ _ i.2 l.2 d f e) λh=>bE h λs _ h=>bE h λj d h=>mE h λc f e=>k3 _ _ _ _ i.2 s.2 d f e.symm)
theorem Fe{a u:V}{n:Str}(h:iF a n st=some u)(k1:∀k fs,a=.ref k->st.hp[k]?=some (.inst fs)->fs.lookup n=some u->G)(k2:∀k fs vs,a=.ref k->st.hp[k]?=some (.acc fs vs)->fs.lookup n=some u->G):G:=
 bE h λk _ h=>bo h (λh=>bE h λfs _ h=>k1 _ _ k.2 fs.2 h) λh=>bE h λo _ h=>k2 _ _ _ k.2 o.2 h
theorem xk{a u:V}{n:Str}(h:et a n u st=some st')(k1:∀k fs,a=.ref k->st.hp[k]?=some (.inst fs)->fs.length<=100->st'={st with hp:=st.hp.set k (.inst (setField fs n u))}->G)
 (k2:∀k fs vs,a=.ref k->st.hp[k]?=some (.acc fs vs)->fs.length<=100->st'={st with hp:=st.hp.set k (.acc (setField fs n u) vs)}->G):G:=
 bE h λk _ h=>bo h (λh=>bE h λfs _ h=>ai h λb e=>k1 _ _ k.2 fs.2 b (zE e).symm) λh=>bE h λo _ h=>ai h λb e=>k2 _ _ _ k.2 o.2 b (zE e).symm
theorem tH{f:Nat}{v:V}(h:cF F f as st=some (v,st'))(k:∀a,F f as st.hp=some (v,a)->st'={st with hp:=a}->G):G:=mP (show(F f as st.hp).map _=_ from h) λu a b e=>k a (p1 e▸b) (p2 e)
theorem lenE{i:Int}(h:n2 F as st=some (i,st'))(k:∀a,F 24 as st.hp=some (.int i,a)->st'={st with hp:=a}->0<=i->aH i=true->G):G:=bP h λu st1 c h=>bE h λd _ h=>ai h λb e=>tH c λa f g=>k a (f.trans (congrArg (λx=>some (x,a)) (d.2.trans (congrArg V.int (s1 e).symm)))) ((s2 e).trans g) (s1 e▸b.1) (s1 e▸b.2)
theorem Fp:∀{v:V}{b:Bool}(h:a7 F v st=some (b,st'))(k1:v=.bool b->st=st'->G)(k2:∀i,v=.int i->b=(i != 0)->st=st'->G)(k3:∀s,v=.str s->s.length<=lid->b=(s.cps.size != 0)->st=st'->G)(k4:∀k vs,v=.ref k->st.hp[k]?=some (.list vs)->vs.length<=lid->b = !vs.isEmpty->st=st'->G)(k5:∀k fs vs i a,v=.ref k->st.hp[k]?=some (.acc fs vs)->F 24 [v] st.hp=some (.int i,a)->0<=i->aH i=true->b=(i != 0)->st'={st with hp:=a}->G),G:=by
 revert G st st' F;exists dI,G,st,st',F,v,b;intro h k1 k2 k3 k4 k5;exact(bo h (λh=>mE h λd _ e=>k1 (d.2.trans (congrArg V.bool (p1 e).symm)) (p3 e)) λh=>bo h (λh=>mE h λi _ e=>k2 _ i.2 (p1 e) (p3 e)) λh=>bo h (λh=>bE h λs _ h=>ai h λc e=>k3 _ s.2 c (s1 e) (s3 e))
  λh=>bE h λk _ h=>bo h (λh=>bE h λvs _ h=>ai h λc e=>k4 _ _ k.2 vs.2 c (s1 e) (s3 e)) λh=>bE h λo _ h=>mP h λi st1 c e=>lenE c λa f g j l=>k5 _ _ _ _ _ k.2 o.2 f j l (p1 e) ((p2 e).trans g))
theorem lenVE:∀{v:V}(h:lenV F v st=some (u,st'))(k3:∀s,v=.str s->s.length<=lid->u=.int s.cps.size->st=st'->G)(k4:∀k vs,v=.ref k->st.hp[k]?=some (.list vs)->vs.length<=lid->u=.int vs.length->st=st'->G)(k5:∀k fs vs i a,v=.ref k->st.hp[k]?=some (.acc fs vs)->F 24 [v] st.hp=some (.int i,a)->0<=i->aH i=true->u=.int i->st'={st with hp:=a}->G),G:=by
 revert G st st' F u;exists dI,G,st,st',F,u,v;intro h k3 k4 k5;exact(bo h (λh=>bE h λs _ h=>ai h λb e=>k3 _ s.2 b (s1 e) (s3 e))
  λh=>bE h λk _ h=>bo h (λh=>bE h λvs _ h=>ai h λb e=>k4 _ _ k.2 vs.2 b (s1 e) (s3 e)) λh=>bE h λo _ h=>mP h λi st1 b e=>lenE b λa c d f g=>k5 _ _ _ _ _ k.2 o.2 c f g (p1 e) ((p2 e).trans d))
theorem bltE:∀{n:Str}{as:List V}(h:iE F n as st=some (u,st'))(k1:∀a,as=[a]->n=nm "len"->lenV F a st=some (u,st')->G)(k2:∀a s c,as=[a]->n=nm "ord"->a=.str s->s.cps.toList=[c]->u=.int c->st=st'->G)(k3:∀a i,as=[a]->n=nm "chr"->a=.int i->0<=i/\i<1114112->u=.str (one i.toNat)->st=st'->G)(k4:∀a vs l,as=[a]->n=nm "sum"->items? st a=some vs->nq vs=some l->(l.all aH&&decide (l.length<=100))=true->u=.int l.sum->st=st'->G)(k5:∀a vs l p,as=[a]->n=nm "min"->items? st a=some vs->gE vs=some l->mD l=some p->u=.tup [.int p.1,.int p.2]->st=st'->G)(k6:∀k fs vs s,as=[.ref k]->n=nm "str"->st.hp[k]?=some (.acc fs vs)->cF F 25 as st=some (.str s,st')->u=.str s->G),G:=by
 revert G st st' F u;exists bK,G,st,st',F,u,n,as;intro h k1 k2 k3 k4 k5 k6;exact(bE h λa _ h=>dl h (λb h=>k1 _ a.2 b h) λ_ h=>dl h (λb h=>bE h λs _ h=>mE h λc _ e=>k2 _ _ _ a.2 b s.2 c.2 (p1 e) (p3 e)) λ_ h=>
  dl h (λb h=>bE h λi _ h=>ai h λg e=>k3 _ _ a.2 b i.2 g (s1 e) (s3 e)) λ_ h=>dl h (λb h=>bE h λvs d h=>bE h λl f h=>ai h λj e=>k4 _ _ _ a.2 b d f j (s1 e) (s3 e)) λ_ h=>
  dl h (λb h=>bE h λvs d h=>bE h λl f h=>mE h λp m e=>k5 _ _ _ _ a.2 b d f m (p1 e) (p3 e)) λ_ h=>
  ai h λb h=>bE h λk _ h=>bE h λo _ h=>bP h λv st1 d h=>mE h λs _ e=>k6 _ _ _ _ (eJ a.2 k.2) b o.2 ((congrArg (λas=>cF F 25 as st) a.2).trans (d.trans (sp s.2 (p2 e).symm))) (p1 e))
theorem and2{a:Bool}{p:Prop}[Decidable p](h:(a&&decide p)=true):a=true/\p:=⟨(yN.mp h).1,of_decide_eq_true (yN.mp h).2⟩
theorem and3{a b:Bool}{p:Prop}[Decidable p](h:(a&&b&&decide p)=true):a=true/\b=true/\p:=⟨(yN.mp (and2 h).1).1,(yN.mp (and2 h).1).2,(and2 h).2⟩
theorem augE:∀{old b r i:V}{q:R}(h:augV st old b r i=some (q,st'))(k:∀x y a c vs j,old=.str x->b=.str y->r=.ref a->i=.int c->st.hp[a]?=some (.list vs)->bl c vs.length=some j->vs[j]?=some old->(x++y).length<=lid->q=.next->st'={st with hp:=st.hp.set a (.list (vs.set j (.str (x++y))))}->G),G:=by
 revert G st st';exists bZ,G,st,st',old,b,r,i,q;intro h k;exact bE h λx _ h=>bE h λy _ h=>bE h λa _ h=>bE h λc _ h=>bE h λl _ h=>bE h λj d h=>@ai _ _ (_) _ _ _ h λf h=>mE h λv g e=>ai (show(if _ then _ else none)=_ from g) λm n=>k _ _ _ _ _ _ x.2 y.2 a.2 c.2 l.2 d f m (p1 e) ((p2 e).trans (by rw[<-zE n]))
theorem EX{f:List V->O}{new:List V}{q:R}(h:gc st kk f vs lo a new=some (q,st'))(k:∀i j,gJ vs.length 0 lo=some i->gJ vs.length vs.length a=some j->vs.length+new.length<=lid->q=.next->st'={st with hp:=st.hp.set kk (f (vs.take i++new++vs.drop (max i j)))}->G):G:=
 bE h λi a h=>bE h λj b h=>ai h λc e=>k _ _ a b c (s1 e) (s2 e)
theorem aslE{o:V}{new:List V}{q:R}(h:aslV st o lo hi new=some (q,st'))(k1:∀a vs,o=.ref a->st.hp[a]?=some (.list vs)->gc st a .list vs lo hi new=some (q,st')->G)(k2:∀a fs vs,o=.ref a->st.hp[a]?=some (.acc fs vs)->gc st a (.acc fs) vs lo hi new=some (q,st')->G):G:=
 bE h λa _ h=>bo h (λh=>bE h λl _ h=>k1 _ _ a.2 l.2 h) λh=>bE h λl _ h=>k2 _ _ _ a.2 l.2 h
theorem sp20E{v:V}(h:sp20 as hp=some (v,hp'))(k:∀a i fs vs,as=[.ref a,.int i]->hp[a]?=some (.acc fs vs)->fs.length<=100/\aH i=true/\vs.length<=lid->v=.none->hp'=hp.set a (.acc (setField fs (nm "_initial_size") (.int i)) [])->G):G:=
 bE h λq _ h=>bE h λa _ h=>bE h λi _ h=>bE h λo _ h=>ai h λb e=>k _ _ _ _ (nW q.2 a.2 i.2) o.2 b (s1 e) (s2 e)
theorem sp23E:∀{as hp a:_}{v:V}(h:sp23 as hp=some (v,a)) (k:∀b fs vs,as=[.ref b]->hp[b]?=some (.acc fs vs)->vs.length<=lid/\fs.lookup (nm "part_count")=none->(match vs.getLast? with
 | some v=>(v,hp.set b (.acc fs vs.dropLast))
 | none=>(.tup [.str (nm ""),.str (nm "")],hp))=(v,a)->G),G:=by
 revert G;exists ce5_,G,as,hp,a,v;intro h k;exact bE h λq _ h=>bE h λb _ h=>bE h λo _ h=>ai h λc e=>k _ _ _ (eJ q.2 b.2) o.2 c (zE e)
theorem sp24E:∀{as hp a:_}{v:V}(h:sp24 as hp=some (v,a)) (k:∀b fs vs ps i,as=[.ref b]->hp[b]?=some (.acc fs vs)->pairsOf vs=some ps->fs.lookup (nm "_initial_size")=some (.int i)->aH i=true/\0<=i/\ps.length<=1000/\(∀p∈ps,p.1.length<=1000/\p.2.length<=1000)->
 v=.int (ps.foldl (λn p=>n+((p.1.length:Int)+(p.2.length:Int))) i)->hp=a->G),G:=by
 revert G;exists ce5_,G,as,hp,a,v;intro h k;exact bE h λq _ h=>bE h λb _ h=>bE h λo _ h=>bE h λps c h=>bE h λv d h=>bE h λi _ h=>ai h λf e=>k _ _ _ _ _ (eJ q.2 b.2) o.2 c (d.trans (congrArg some i.2)) f (s1 e) (s3 e)
theorem sp25E:∀{as hp a:_}{v:V}(h:sp25 as hp=some (v,a))(k:∀b fs vs ps,as=[.ref b]->hp[b]?=some (.acc fs vs)->pairsOf vs=some ps->ps.length<=1000/\(∀p∈ps,p.1.length<=1000/\p.2.length<=1000)->v=.str (toS (ps.flatMap λp=>p.1.cps.toList++p.2.cps.toList))->hp=a->G),G:=by
 revert G;exists ce5_,G,as,hp,a,v;intro h k;exact bE h λq _ h=>bE h λb _ h=>bE h λo _ h=>bE h λps c h=>ai h λd e=>k _ _ _ _ (eJ q.2 b.2) o.2 c d (s1 e) (s3 e)
theorem sp28E{v:V}(h:sp28 as hp=some (v,hp'))(k:∀a fs vs,as=[.ref a]->hp[a]?=some (.acc fs vs)->vs.length<=lid->v=.int vs.length->hp=hp'->G):G:=
 bE h λq _ h=>bE h λa _ h=>bE h λo _ h=>ai h λb e=>k _ _ _ (eJ q.2 a.2) o.2 b (s1 e) (s3 e)
theorem rng1E{l:List V}(h:rng1 as=some l):∃b,as=[.int b]/\(aH b=true/\b<=100000)/\l=aX b.toNat 0 1:=bE h λq _ h=>bE h λb _ h=>ai h λa e=>⟨_,eJ q.2 b.2,and2 a,(zE e).symm⟩
theorem rng2E:∀{as l:List V}(h:rng2 as=some l),∃a b,as=[.int a,.int b]/\(aH a=true/\aH b=true/\b-a<=100000)/\l=aX (b-a).toNat a 1:=by
 exists ce2_,as,l;intro h;exact bE h λq _ h=>bE h λa _ h=>bE h λb _ h=>ai h λc e=>⟨_,_,nW q.2 a.2 b.2,and3 c,(zE e).symm⟩
theorem rng3E:∀{as l:List V}(h:rng3 as=some l),∃a b,as=[.int a,.int b,.int (-1)]/\(aH a=true/\aH b=true/\a-b<=100000)/\l=aX (a-b).toNat a (-1):=by
 exists ce2_,as,l;intro h;exact bE h λq _ h=>bE h λa _ h=>bE h λb _ h=>bE h λc _ h=>ai h λd e=>⟨_,_,By q.2 a.2 b.2 (c.2.trans (congrArg V.int d.1)),and3 d.2,(zE e).symm⟩
theorem Gx:∀{s n:Str}{as:List V}(h:Ci s n as st=some (u,st'))(k1:∀l vs a,n=nm "join"->as=[l]->items? st l=some vs->strs? vs=some a->(a.map (·.length)).sum+a.length*s.length<=lid->u=.str (Str.join s a)->st=st'->G)(k2:n=nm "isspace"->as=[]->u=.bool (cH s)->st=st'->G)(k3:∀c,n=nm "lower"->as=[]->s.cps.toList=[c]->rS (toS (jM c))=some u->st=st'->G),G:=by
 revert G st st' u;exists bK,G,st,st',u,s,n,as;intro h k1 k2 k3;exact(dl h (λb h=>bE h λl _ h=>bE h λvs d h=>bE h λa g h=>ai h λi e=>k1 _ _ _ b l.2 d g i (s1 e) (s3 e)) λ_ h=>dl h (λb h=>mE h λf _ e=>k2 b f.1 (p1 e) (p3 e)) λ_ h=>
  ai h λb h=>bE h λf _ h=>bE h λc _ h=>mE h λq d e=>k3 _ b f.1 c.2 (p1 e▸d) (p3 e))
theorem Gj:∀{t:Nat}{n:Str}{as:List V}(h:Bk t n as st=some (u,st'))(k1:∀i,t=1->n=nm "get"->as=[.int i]->u=b3V i->st=st'->G)(k2:∀s,t=2->n=nm "split"->as=[.str s]->s.cps.size<=lid->fj ((dU (s.cps.size+1) s.cps.toList).map λl=>.str (toS l)) st=some (u,st')->G),G:=by
 revert G st st' u;exists bK,G,st,st',u,t,n,as;intro h k1 k2;exact dl h (λb h=>ai h λc h=>bE h λa _ h=>mE h λi _ e=>k1 i.1 b c (eJ a.2 i.2) (p1 e) (p3 e)) λ_ h=>ai h λb h=>ai h λc h=>bE h λa _ h=>bE h λs _ h=>ai h λd h=>k2 s.1 b c (eJ a.2 s.2) d h
theorem popE:∀{k:Nat}{vs:List V}(h:(match vs with|[]=>none|v::r=>if r.length<=lid then some (v,({st with hp:=st.hp.set k (.list r)}:St))else none)=some (u,st'))(k2:∀v r,vs=v::r->r.length<=lid->u=v->st'={st with hp:=st.hp.set k (.list r)}->G),G:=by
 revert G st st' u;exists dI,G,st,st',u,k,vs;intros;cases vs with
 | nil=>exact no h
 | cons v r=>exact ai h λa e=>k2 _ _ rfl a (s1 e) (s2 e)
theorem GK:∀{k:Nat}{vs:List V}{n:Str}{as:List V}(h:AQ k vs n as st=some (u,st'))(k1:∀v,n=nm "append"->as=[v]->vs.length+1<=lid->u=.none->st'={st with hp:=st.hp.set k (.list (vs++[v]))}->G)(k2:∀v r,n=nm "pop"->as=[.int 0]->vs=v::r->r.length<=lid->u=v->st'={st with hp:=st.hp.set k (.list r)}->G),G:=by
 revert G st st' u;exists bZ,G,st,st',u,k,vs,n,as;intro h k1 k2;exact dl h (λb h=>bE h λv _ h=>ai h λc e=>k1 _ b v.2 c (s1 e) (s2 e)) λ_ h=>ai h λb h=>bE h λa _ h=>bE h λi _ h=>ai h λd h=>popE h λv r f c g j=>k2 v r b (eJ a.2 (i.2.trans (congrArg V.int d))) f c g j
theorem mthE:∀{v:V}{n:Str}{m:Mth}(h:aW v n st=some m)(k1:∀s,v=.str s->n=nm "join"->m=.blt "str.join"->G)(k2:∀s,v=.str s->n=nm "isspace"->m=.blt "str.isspace"->G)(k3:∀s,v=.str s->n=nm "lower"->m=.blt "str.lower"->G)(k4:v=.top 1->n=nm "get"->m=.blt "dict.get"->G)(k5:v=.top 2->n=nm "split"->m=.blt "re.Pattern.split"->G)(k6:∀k vs,v=.ref k->st.hp[k]?=some (.list vs)->n=nm "append"->m=.blt "list.append"->G)(k7:∀k vs,v=.ref k->st.hp[k]?=some (.list vs)->n=nm "pop"->m=.blt "list.pop"->G)(f:∀k fs i,v=.ref k->st.hp[k]?=some (.inst fs)->fs.lookup n=none->vfMeth.lookup n=some i->m=.fn i->G)(g:∀k fs vs,v=.ref k->st.hp[k]?=some (.acc fs vs)->fs.lookup n=none->n=nm "append"->m=.blt "list.append"->G)(k10:∀k fs vs i,v=.ref k->st.hp[k]?=some (.acc fs vs)->fs.lookup n=none->n≠nm "append"->acMeth.lookup n=some i->m=.fn i->G),G:=by
 revert G st;exists ce5_,G,st,v,n,m;intro h k1 k2 k3 k4 k5 k6 k7 f g k10;exact(bo h (λh=>bE h λs _ h=>dl h (λa e=>k1 _ s.2 a (zE e).symm) λ_ h=>dl h (λa e=>k2 _ s.2 a (zE e).symm) λ_ h=>ai h λa e=>k3 _ s.2 a (zE e).symm) λh=>
 bo h (λh=>bE h λt _ h=>dl h (λc h=>ai h λa e=>k4 (t.2.trans (congrArg V.top c)) a (zE e).symm) λ_ h=>ai h λc h=>ai h λa e=>k5 (t.2.trans (congrArg V.top c)) a (zE e).symm) λh=>
 bE h λk _ h=>bo h (λh=>bE h λvs _ h=>dl h (λa e=>k6 _ _ k.2 vs.2 a (zE e).symm) λ_ h=>ai h λa e=>k7 _ _ k.2 vs.2 a (zE e).symm) λh=>
 bo h (λh=>bE h λfs _ h=>ai h λb h=>mE h λi d e=>f _ _ _ k.2 fs.2 b d e.symm) λh=>bE h λo _ h=>ai h λb h=>dl h (λa e=>g _ _ _ k.2 o.2 b a (zE e).symm) λa h=>mE h λi d e=>k10 _ _ _ _ k.2 o.2 b a d e.symm)
end
end Mine
namespace Mine.Sm
open PySem
theorem bX{b c:Type}{x:Option b}{f:b->Option c}{a:b}(h:x=some a):x.bind f=f a:=by rw[h];rfl
theorem mX{b c:Type}{x:Option b}{f:b->c}{a:b}(h:x=some a):x.map f=some (f a):=by rw[h];rfl
theorem bS{b c:Type}{x:Option b}{f:b->Option c}{a:b}{r:Option c}(h:x=some a)(k:f a=r):x.bind f=r:=(bX h).trans k
theorem bA{b:Type}{x y:Option b}{a:b}(h:x=some a):alt x y=some a:=by rw[h];rfl
theorem altN{a:Type}{x y:Option a}(h:y=none):alt x y=x:=by rw[h];cases x<;>rfl
theorem altR{a:Type}{x y r:Option a}(h:x=none)(k:y=r):alt x y=r:=by rw[h];exact k
theorem oL{o:Option O}(h:o=some (.list vs)):cI o=some ⟨vs,h⟩:=by subst h;rfl
theorem oI{o:Option O}(h:o=some (.inst fs)):nj o=some ⟨fs,h⟩:=by subst h;rfl
theorem oA{o:Option O}(h:o=some (.acc fs vs)):fu o=some ⟨(fs,vs),h⟩:=by subst h;rfl
theorem oF{o:Option O}{l:List (Int×Nat)}{n:Nat}(h:o=some (.frozen l n)):Em o=some ⟨(l,n),h⟩:=by subst h;rfl
theorem nLA{a:Type}{o:Option O}{f:{vs:List V // o=some (.list vs)}->Option a}(h:o=some (.acc fs vs)):(cI o).bind f=none:=by subst h;rfl
theorem nLI{a:Type}{o:Option O}{f:{vs:List V // o=some (.list vs)}->Option a}(h:o=some (.inst fs)):(cI o).bind f=none:=by subst h;rfl
theorem nIA{a:Type}{o:Option O}{f:{fs:List (Str×V) // o=some (.inst fs)}->Option a}(h:o=some (.acc fs vs)):(nj o).bind f=none:=by subst h;rfl
theorem nAI{a:Type}{o:Option O}{f:{q:List (Str×V)×List V // o=some (.acc q.1 q.2)}->Option a}(h:o=some (.inst fs)):(fu o).bind f=none:=by subst h;rfl
theorem nLF{a:Type}{o:Option O}{l:List (Int×Nat)}{n:Nat}{f:{vs:List V // o=some (.list vs)}->Option a}(h:o=some (.frozen l n)):(cI o).bind f=none:=by subst h;rfl
theorem nAF{a:Type}{o:Option O}{l:List (Int×Nat)}{n:Nat}{f:{q:List (Str×V)×List V // o=some (.acc q.1 q.2)}->Option a}(h:o=some (.frozen l n)):(fu o).bind f=none:=by subst h;rfl
section
variable {F:Fs}{st s1 s2 s3 s4:St}{u v w z:V}
theorem aQ{s:S}{r:List S}(h:ex F s st=some (.next,st')):exs F (s::r) st=exs F r st':=bX h
theorem kO{s:S}{r:List S}{q:R}(h:ex F s st=some (q,st'))(a:q≠.next):exs F (s::r) st=some (q,st'):=
 bS h (by cases q<;>first|exact absurd rfl a|rfl)
theorem am:exs F [] st=some (.next,st):=rfl
theorem ao{i:Int}:ev F (.int i) st=some (.int i,st):=rfl
theorem bL{s:Str}:ev F (.str s) st=some (.str s,st):=rfl
theorem bT:ev F .none st=some (.none,st):=rfl
theorem e_var{x:Str}(h:st.loc.lookup x=some v):ev F (.var x) st=some (v,st):=mX h
theorem aM{a b:X}(c:ev F a st=some (u,s1))(d:ev F b s1=some (v,s2))(e:km op u v s2=some (w,s3)):ev F (.bin op a b) st=some (w,s3):=bS c (bS d e)
theorem bh{a b:X}(c:ev F a st=some (u,s1))(d:ev F b s1=some (v,s2))(e:dp u v s2=some w):ev F (.item a b) st=some (w,s2):=bS c (bS d (mX e))
theorem dX{a b c:X}{l:V}(d:ev F a st=some (u,s1))(e:ev F b s1=some (l,s2))(f:ev F c s2=some (h,s3))(g:fO u l h s3=some (w,s4)):ev F (.slice a b c) st=some (w,s4):=bS d (bS e (bS f g))
theorem nU:evs F [] st=some ([],st):=rfl
theorem evsC{e:X}{r:List X}(h:ev F e st=some (v,s1))(a:evs F r s1=some (vs,s2)):evs F (e::r) st=some (v::vs,s2):=bS h (mX a)
theorem gp{e:X}(h:ev F e st=some (v,s1)):evs F [e] st=some ([v],s1):=evsC h nU
theorem oh{e f:X}(h:ev F e st=some (v,s1))(a:ev F f s1=some (w,s2)):evs F [e,f] st=some ([v,w],s2):=evsC h (gp a)
theorem evs3{e f:X}(h:ev F e st=some (u,s1))(a:ev F f s1=some (v,s2))(b:ev F g s2=some (w,s3)):evs F [e,f,g] st=some ([u,v,w],s3):=evsC h (oh a b)
theorem evs4{e f:X}(a:ev F e st=some (u,s1))(b:ev F f s1=some (v,s2))(c:ev F g s2=some (w,s3))(d:ev F h s3=some (z,s4)):evs F [e,f,g,h] st=some ([u,v,w,z],s4):=evsC a (evs3 b c d)
theorem sT(h:evs F es st=some (vs,s1))(a:vs.length<=lid):ev F (.lst es) st=some (.ref s1.hp.length,⟨s1.loc,s1.hp++[.list vs]⟩):=bS h (if_pos a)
theorem e_tup{l:List bj}(h:evs F es st=some (vs,s1))(a:dA toA vs=some l):ev F (.tup es) st=some (.tup l,s1):=bS h (mX a)
theorem lS{e:X}(h:ev F e st=some (v,s1)):ev F (.lst [e]) st=some (.ref s1.hp.length,⟨s1.loc,s1.hp++[.list [v]]⟩):=sT (gp h) (show 1<=lid by decide)
theorem fL:ev F (.lst []) st=some (.ref st.hp.length,⟨st.loc,st.hp++[.list []]⟩):=sT nU (by decide)
theorem Ab{a b:X}{c:Bool}(d:ev F a st=some (u,s1))(e:ev F b s1=some (v,s2))(f:fP op u v s2=some c):ev F (.cmp op a b) st=some (.bool c,s2):=bS d (bS e (mX f))
theorem t_cmp{a b:X}{c:Bool}(d:ev F a st=some (u,s1))(e:ev F b s1=some (v,s2))(f:fP op u v s2=some c):evT F (.cmp op a b) st=some (c,s2):=bS d (bS e (mX f))
theorem dZ{a b:X}{c:Bool}(d:evT F a st=some (true,s1))(e:evT F b s1=some (c,s2)):evT F (.and a b) st=some (c,s2):=bS d e
theorem iP{a b:X}(c:evT F a st=some (false,s1)):evT F (.and a b) st=some (false,s1):=bS c rfl
theorem t_ort{a b:X}(c:evT F a st=some (true,s1)):evT F (.or a b) st=some (true,s1):=bS c rfl
theorem t_orf{a b:X}{c:Bool}(d:evT F a st=some (false,s1))(e:evT F b s1=some (c,s2)):evT F (.or a b) st=some (c,s2):=bS d e
theorem Ei{a:X}{c:Bool}(b:evT F a st=some (c,s1)):evT F (.not a) st=some (!c,s1):=mX b
theorem Ef{x:Str}{c:Bool}(a:st.loc.lookup x=some v)(b:a7 F v st=some (c,s1)):evT F (.var x) st=some (c,s1):=bS (mX a) b
theorem Bs{a:X}{m:Str}{b:Bool}(h:ev F (.meth a m es) st=some (.bool b,s1)):evT F (.meth a m es) st=some (b,s1):=bS h rfl
theorem Fm{a:X}{m:Str}{b:Bool}(h:ev F (.attr a m) st=some (v,s1))(c:a7 F v s1=some (b,s2)):evT F (.attr a m) st=some (b,s2):=bS h c
theorem Fc{a j:X}{b:Bool}(h:ev F (.item a j) st=some (v,s1))(c:a7 F v s1=some (b,s2)):evT F (.item a j) st=some (b,s2):=bS h c
theorem Fg{f:Nat}{b:Bool}(h:ev F (.call f es) st=some (v,s1))(a:a7 F v s1=some (b,s2)):evT F (.call f es) st=some (b,s2):=bS h a
theorem th{a b:X}{c:V}(d:ev F a st=some (.bool true,s1))(e:ev F b s1=some (c,s2)):ev F (.and a b) st=some (c,s2):=bS d e
theorem CJ{a b:X}(c:ev F a st=some (.bool false,s1)):ev F (.and a b) st=some (.bool false,s1):=bS c rfl
theorem FN{a b:X}(c:ev F a st=some (.bool true,s1)):ev F (.or a b) st=some (.bool true,s1):=bS c rfl
theorem EZ{a b:X}{c:V}(d:ev F a st=some (.bool false,s1))(e:ev F b s1=some (c,s2)):ev F (.or a b) st=some (c,s2):=bS d e
theorem e_not{a:X}{b:Bool}(c:ev F a st=some (u,s1))(d:a7 F u s1=some (b,s2)):ev F (.not a) st=some (.bool (!b),s2):=bS c (mX d)
theorem qu{a b:X}(c:evT F t st=some (true,s1))(d:ev F a s1=some (v,s2)):ev F (.cond t a b) st=some (v,s2):=bS c d
theorem mx{a b:X}(c:evT F t st=some (false,s1))(d:ev F b s1=some (v,s2)):ev F (.cond t a b) st=some (v,s2):=bS c d
theorem bR{n:Str}{e:X}(a:ev F e st=some (u,s1))(b:iE F n [u] s1=some (w,s2)):ev F (.blt n [e]) st=some (w,s2):=bS (gp a) b
theorem gw{e:X}{i:Int}(a:ev F e st=some (.int i,s1)):ev F (.neg e) st=some (.int (-i),s1):=bS a rfl
theorem rj{a:X}{n:Str}(b:ev F a st=some (u,s1))(c:iF u n s1=some w):ev F (.attr a n) st=some (w,s1):=bS b (mX c)
theorem e_meth{a:X}{n:Str}{m:Mth}(d:ev F a st=some (u,s1))(e:evs F es s1=some (vs,s2))(c:aW u n s1=some m)(b:aW u n s2=some m)(f:cU F u n vs s2=some (w,s3)):ev F (.meth a n es) st=some (w,s3):=
 bS d (bS e ((if_pos ⟨by rw[c];rfl,c.trans b.symm⟩).trans f))
theorem oJ{a:X}{n:Str}{m:Mth}(c:ev F a st=some (u,s1))(b:aW u n s1=some m)(d:cU F u n [] s1=some (w,s2)):ev F (.meth a n []) st=some (w,s2):=e_meth c nU b b d
theorem bU{a e:X}{n:Str}{m:Mth}(c:ev F a st=some (u,s1))(d:ev F e s1=some (v,s2))(f:aW u n s1=some m)(b:aW u n s2=some m)(g:cU F u n [v] s2=some (w,s3)):ev F (.meth a n [e]) st=some (w,s3):=e_meth c (gp d) f b g
theorem fK{f:Nat}(h:evs F es st=some (as,s1))(a:F f as s1.hp=some (v,hp')):ev F (.call f es) st=some (v,⟨s1.loc,hp'⟩):=bS h (mX a)
theorem bJ{e:X}{r:List S}(h:ev F e st=some (v,s1)):exs F (.expr e::r) st=exs F r s1:=aQ (mX h)
theorem aD{x:Str}{e:X}{r:List S}(h:ev F e st=some (v,s1)):exs F (.asg x e::r) st=exs F r ⟨(x,v)::s1.loc,s1.hp⟩:=aQ (mX h)
theorem cJ{e:X}{r:List S}(h:ev F e st=some (v,s1)):exs F (.ret e::r) st=some (.ret v,s1):=bS (mX h) rfl
theorem bI{b o r:List S}(h:evT F t st=some (true,s1))(a:exs F b s1=some (.next,s2)):exs F (.ite t b o::r) st=exs F r s2:=aQ (bS h a)
theorem kJ{b o r:List S}(h:evT F t st=some (false,s1))(a:exs F o s1=some (.next,s2)):exs F (.ite t b o::r) st=exs F r s2:=aQ (bS h a)
theorem aR{b r:List S}(h:evT F t st=some (false,s1)):exs F (.ite t b []::r) st=exs F r s1:=kJ h am
theorem dh{b o r:List S}{q:R}(h:evT F t st=some (true,s1))(a:exs F b s1=some (q,s2))(c:q≠.next):exs F (.ite t b o::r) st=some (q,s2):=kO (bS h a) c
theorem ro{r:List S}:exs F (.cont::r) st=some (.cont,st):=rfl
theorem Bz{r:List S}:exs F (.brk::r) st=some (.brk,st):=rfl
end
theorem mo_get:aW (.top 1) (nm "get") st=some (.blt "dict.get"):=altR rfl (bA (bS rfl ((if_pos rfl).trans (if_pos rfl))))
theorem mo_split:aW (.top 2) (nm "split") st=some (.blt "re.Pattern.split"):=altR rfl (bA (bS rfl ((if_neg (by decide)).trans ((if_pos rfl).trans (if_pos rfl)))))
theorem mo_join{s:Str}:aW (.str s) (nm "join") st=some (.blt "str.join"):=bA (bS rfl (if_pos rfl))
theorem mo_lower{s:Str}:aW (.str s) (nm "lower") st=some (.blt "str.lower"):=bA (bS rfl ((if_neg (by decide)).trans ((if_neg (by decide)).trans (if_pos rfl))))
theorem mo_isspace{s:Str}:aW (.str s) (nm "isspace") st=some (.blt "str.isspace"):=bA (bS rfl ((if_neg (by decide)).trans (if_pos rfl)))
theorem mo_app{k:Nat}(h:st.hp[k]?=some (.list vs)):aW (.ref k) (nm "append") st=some (.blt "list.append"):=altR rfl (altR rfl (bS rfl (bA (bS (oL h) (if_pos rfl)))))
theorem mo_pop{k:Nat}(h:st.hp[k]?=some (.list vs)):aW (.ref k) (nm "pop") st=some (.blt "list.pop"):=altR rfl (altR rfl (bS rfl (bA (bS (oL h) ((if_neg (by decide)).trans (if_pos rfl))))))
section
variable {F:Fs}{s1 s2:St}{v:V}
theorem sX{n:Str}{f k:Nat}(a:s1.hp[k]?=some (.inst fs))(b:fs.lookup n=none)(c:vfMeth.lookup n=some f):aW (.ref k) n s1=some (.fn f):=by
 exact altR rfl (altR rfl (bS rfl (altR (nLI a) (bA (bS (oI a) ((if_pos b).trans (mX c)))))))
theorem mo_acc{n:Str}{f k:Nat}(a:s1.hp[k]?=some (.acc fs vs))(b:n≠nm "append")(c:fs.lookup n=none)(d:acMeth.lookup n=some f):aW (.ref k) n s1=some (.fn f):=by
 exact altR rfl (altR rfl (bS rfl (altR (nLA a) (altR (nIA a) (bS (oA a) ((if_pos c).trans ((if_neg b).trans (mX d))))))))
theorem mv_acc{n:Str}{f k:Nat}(a:s2.hp[k]?=some (.acc fs vs))(b:n≠nm "append")(c:acMeth.lookup n=some f)(d:F f (.ref k::as) s2.hp=some (v,hp')):cU F (.ref k) n as s2=some (v,⟨s2.loc,hp'⟩):=by
 exact altR rfl (altR rfl (bS rfl (altR (nLA a) (altR (nIA a) (bS (oA a) ((if_neg b).trans (bS c (mX d))))))))
end
theorem nl{s:Str}:cU F (.str s) (nm "isspace") [] st=some (.bool (cH s),st):=bA (bS rfl ((if_neg (by decide)).trans ((if_pos rfl).trans rfl)))
theorem m_get{i:Int}:cU F (.top 1) (nm "get") [.int i] st=some (b3V i,st):=altR rfl (bA (bS rfl ((if_pos rfl).trans ((if_pos rfl).trans rfl))))
theorem DV{s:Str}{c:Nat}(h:s.cps.toList=[c])(a:(jM c).length<=lid):cU F (.str s) (nm "lower") [] st=some (.str (toS (jM c)),st):=
 bA (bS rfl ((if_neg (by decide)).trans ((if_neg (by decide)).trans ((if_pos rfl).trans (bS rfl (bS (show dm s.cps.toList=some ⟨c,h⟩ by generalize s.cps.toList=l at h;subst h;rfl) (mX (if_pos a))))))))
theorem x_attr{o e:X}{n:Str}{s1 s2 s3:St}{u v:V}(a:ev F e st=some (v,s1))(b:ev F o s1=some (u,s2))(c:et u n v s2=some s3):ex F (.asgAttr o n e) st=some (.next,s3):=bS a (bS b (mX c))
theorem Ff{e:X}{x y:Str}{r:List S}{s1:St}{a b:bj}(h:ev F e st=some (.tup [a,b],s1)):exs F (.asg2 x y e::r) st=exs F r ⟨(y,ofA b)::(x,ofA a)::s1.loc,s1.hp⟩:=aQ (bS h rfl)
theorem fV{k:Nat}(h:st.hp[k]?=some (.list vs)):items? st (.ref k)=some vs:=mX (oL h)
theorem pL{o e:X}{s1 s2 s3:St}{w l:V}{k i j:Nat}{new:List V}(d:ev F e st=some (w,s1))(f:ev F o s1=some (.ref k,s2))(a:ev F lo s2=some (l,s3))(b:ev F hi s3=some (h,s4))(g:items? s4 w=some new)
 (c:s4.hp[k]?=some (.acc fs vs)) (m:gJ vs.length 0 l=some i) (n:gJ vs.length vs.length h=some j) (p:vs.length+new.length<=lid):ex F (.asgSlice o lo hi e) st=some (.next,⟨s4.loc,s4.hp.set k (.acc fs (vs.take i++new++vs.drop (max i j)))⟩):=
 bS d (bS f (bS a (bS b (bS g (altR (nLA c) (bS (oA c) (bS m (bS n (if_pos p)))))))))
theorem BF{o e:X}{s1 s2 s3:St}{w l:V}{k i j:Nat}{new:List V}(c:ev F e st=some (w,s1))(d:ev F o s1=some (.ref k,s2))(a:ev F lo s2=some (l,s3))(b:ev F hi s3=some (h,s4))(f:items? s4 w=some new)
 (g:s4.hp[k]?=some (.list vs)) (m:gJ vs.length 0 l=some i) (n:gJ vs.length vs.length h=some j) (p:vs.length+new.length<=lid):ex F (.asgSlice o lo hi e) st=some (.next,⟨s4.loc,s4.hp.set k (.list (vs.take i++new++vs.drop (max i j)))⟩):=
 bS c (bS d (bS a (bS b (bS f (bA (bS (oL g) (bS m (bS n (if_pos p)))))))))
theorem mv_eqA{n:Str}{k:Nat}(a:st.hp[k]?=some (.acc fs vs)):cU F (.ref k) n as st=EI F k fs vs n as st:=altR rfl (altR rfl (bS rfl (altR (nLA a) (altR (nIA a) (bX (oA a))))))
theorem mv_eqI{n:Str}{k:Nat}(a:st.hp[k]?=some (.inst fs)):cU F (.ref k) n as st=(vfMeth.lookup n).bind λf=>cF F f (.ref k::as) st:=altR rfl (altR rfl (bS rfl (altR (nLI a) ((altN (nAI a)).trans (bX (oI a))))))
theorem qH{f:V->St->Option (R×St)}{rest:St->Option (R×St)}{v:V}{r:List V}{s1:St}(h:f v st=some (.next,s1)\/f v st=some (.cont,s1)):turns f rest (v::r) st=turns f rest r s1:=
 h.elim (λh=>bX h) (λh=>bX h)
theorem g4{g:List O->Bool}{f:V->List V->List O->Option (List V×List O)}{v:V}{r acc:List V}(a:g hp=true)(h:f v acc hp=some (a2,hp2)):dj g f (v::r) acc hp=dj g f r a2 hp2:=
 (if_pos a).trans (bX h)
theorem gh{g:List O->Bool}{f:V->List V->List O->Option (List V×List O)}{acc:List V}(a:g hp=true):dj g f [] acc hp=some (acc,hp):=if_pos a
noncomputable def B0:List S:=[.ret (.cmp .In (.blt (nm "ord") [.var (nm "code")]) (.top 0))]
theorem tab0:tabNow 0=some ⟨[(nm "code")],[],B0⟩:=by kernel_rfl
noncomputable def B1:List S:=[.asg (nm "r") (.meth (.top 1) (nm "get") [.blt (nm "ord") [.var (nm "code")]]),.ite (.cmp .IsNot (.var (nm "r")) (.none)) [.ret (.var (nm "r"))] [],.ret (.meth (.var (nm "code")) (nm "lower") [])]
theorem tab1:tabNow 1=some ⟨[(nm "code")],[],B1⟩:=by kernel_rfl
noncomputable def B2:List S:=[.asg (nm "which") (.bin .fdiv (.var (nm "number")) (.int 8)),.ite (.cmp .Eq (.bin .mod (.var (nm "number")) (.int 8)) (.int 0)) [.ret (.comp (.tup [.var (nm "sign"),.var (nm "sign")]) (nm "sign") (.item (.tup [.str (⟨#[32]⟩:Str),.str (⟨#[9]⟩:Str),.str (⟨#[32,32]⟩:Str),.str (⟨#[160]⟩:Str)]) (.bin .mod (.var (nm "which")) (.int 4))))] [],.ite (.cmp .Eq (.bin .mod (.var (nm "number")) (.int 8)) (.int 1)) [.ret (.lst [.tup [.blt (nm "chr") [.bin .add (.int 97) (.bin .mod (.var (nm "which")) (.int 26))],.blt (nm "chr") [.bin .add (.int 97) (.bin .mod (.var (nm "which")) (.int 26))]]])] [],.ite (.cmp .Eq (.bin .mod (.var (nm "number")) (.int 8)) (.int 2)) [.asg (nm "great") (.bin .add (.item (.tup [.int 65,.int 913,.int 1040]) (.bin .mod (.var (nm "which")) (.int 3))) (.bin .mod (.bin .fdiv (.var (nm "which")) (.int 3)) (.int 17))),.ret (.lst [.tup [.blt (nm "chr") [.var (nm "great")],.blt (nm "chr") [.bin .add (.var (nm "great")) (.int 32)]]])] [],.ite (.cmp .Eq (.bin .mod (.var (nm "number")) (.int 8)) (.int 3)) [.asg (nm "begins") (.tup [.int 119808,.int 119860,.int 119912,.int 120016,.int 120172,.int 120224,.int 120276,.int 120328,.int 120380,.int 120432]),.ret (.lst [.tup [.blt (nm "chr") [.bin .add (.item (.var (nm "begins")) (.bin .mod (.bin .fdiv (.var (nm "which")) (.int 26)) (.int 10))) (.bin .mod (.var (nm "which")) (.int 26))],.blt (nm "chr") [.bin .add (.int 97) (.bin .mod (.var (nm "which")) (.int 26))]]])] [],.ite (.cmp .Eq (.bin .mod (.var (nm "number")) (.int 8)) (.int 4)) [.asg (nm "signs") (.tup [.str (⟨#[64259]⟩:Str),.str (⟨#[890]⟩:Str),.str (⟨#[223]⟩:Str),.str (⟨#[13255]⟩:Str),.str (⟨#[64262]⟩:Str),.str (⟨#[8481]⟩:Str),.str (⟨#[8119]⟩:Str),.str (⟨#[8360]⟩:Str)]),.asg (nm "stood_for") (.tup [.str (⟨#[102,102,105]⟩:Str),.str (⟨#[32,953]⟩:Str),.str (⟨#[115,115]⟩:Str),.str (⟨#[99,111,46]⟩:Str),.str (⟨#[115,116]⟩:Str),.str (⟨#[116,101,108]⟩:Str),.str (⟨#[945,834,953]⟩:Str),.str (⟨#[114,115]⟩:Str)]),.ret (.lst [.tup [.item (.var (nm "signs")) (.bin .mod (.var (nm "which")) (.int 8)),.item (.var (nm "stood_for")) (.bin .mod (.var (nm "which")) (.int 8))]])] [],.ite (.cmp .Eq (.bin .mod (.var (nm "number")) (.int 8)) (.int 5)) [.asg (nm "lone") (.tup [.int 173,.int 847,.int 6150,.int 6155,.int 6156,.int 6157,.int 8203,.int 8204,.int 8205,.int 8288,.int 65279]),.ite (.cmp .Lt (.bin .mod (.var (nm "which")) (.int 27)) (.int 11)) [.ret (.lst [.tup [.blt (nm "chr") [.item (.var (nm "lone")) (.bin .mod (.var (nm "which")) (.int 27))],.str (⟨#[]⟩:Str)]])] [],.ret (.lst [.tup [.blt (nm "chr") [.bin .add (.int 65013) (.bin .mod (.var (nm "which")) (.int 27))],.str (⟨#[]⟩:Str)]])] [],.ite (.cmp .Eq (.bin .mod (.var (nm "number")) (.int 8)) (.int 6)) [.ret (.lst [.tup [.item (.str (⟨#[59,44,46]⟩:Str)) (.bin .mod (.var (nm "which")) (.int 3)),.item (.str (⟨#[59,44,46]⟩:Str)) (.bin .mod (.var (nm "which")) (.int 3))]])] [],.ret (.lst [.tup [.str (⟨#[32]⟩:Str),.str (⟨#[32]⟩:Str)],.tup [.blt (nm "chr") [.bin .add (.int 65) (.bin .mod (.var (nm "which")) (.int 26))],.blt (nm "chr") [.bin .add (.int 97) (.bin .mod (.var (nm "which")) (.int 26))]]])]
theorem tab2:tabNow 2=some ⟨[(nm "number")],[],B2⟩:=by kernel_rfl
noncomputable def B3:List S:=[.asg (nm "begins") (.lst []),.forR (nm "k") [.blt (nm "len") [.var (nm "pairs")]] [.ite (.or (.cmp .Eq (.var (nm "k")) (.int 0)) (.and (.cmp .In (.item (.item (.var (nm "pairs")) (.var (nm "k"))) (.int 0)) (.str (⟨#[32,9]⟩:Str))) (.cmp .NotIn (.item (.item (.var (nm "pairs")) (.bin .sub (.var (nm "k")) (.int 1))) (.int 0)) (.str (⟨#[32,9]⟩:Str))))) [.expr (.meth (.var (nm "begins")) (nm "append") [.var (nm "k")])] []] [],.asg (nm "rows") (.lst []),.asg (nm "lead") (.str (⟨#[]⟩:Str)),.asg (nm "first") (.int 0),.forR (nm "new") [.blt (nm "len") [.var (nm "begins")]] [.asg (nm "behind") (.item (.bin .add (.var (nm "begins")) (.lst [.blt (nm "len") [.var (nm "pairs")]])) (.bin .add (.var (nm "new")) (.int 1))),.ite (.cmp .LtE (.bin .sub (.bin .add (.bin .add (.var (nm "room")) (.blt (nm "len") [.var (nm "lead")])) (.var (nm "behind"))) (.item (.var (nm "begins")) (.var (nm "first")))) (.var (nm "width"))) [.cont] [],.asg (nm "ranks") (.lst []),.forR (nm "k") [.bin .add (.var (nm "first")) (.int 1),.bin .add (.var (nm "new")) (.int 1)] [.forR (nm "rank") [.blt (nm "len") [.var (nm "splitters")]] [.ite (.cmp .In (.item (.var (nm "splitters")) (.var (nm "rank"))) (.tup [.item (.item (.var (nm "pairs")) (.bin .sub (.item (.var (nm "begins")) (.var (nm "k"))) (.int 1))) (.int 0),.item (.item (.var (nm "pairs")) (.item (.var (nm "begins")) (.var (nm "k")))) (.int 0)])) [.expr (.meth (.var (nm "ranks")) (nm "append") [.tup [.var (nm "rank"),.neg (.var (nm "k"))]])] []] []] [],.ite (.and (.cmp .Eq (.var (nm "ranks")) (.lst [])) (.cmp .Eq (.var (nm "room")) (.int 0))) [.cont] [],.asg (nm "cut") (.cond (.cmp .Eq (.var (nm "ranks")) (.lst [])) (.var (nm "new")) (.neg (.item (.blt (nm "min") [.var (nm "ranks")]) (.int 1)))),.expr (.meth (.var (nm "rows")) (nm "append") [.bin .add (.var (nm "lead")) (.meth (.str (⟨#[]⟩:Str)) (nm "join") [.comp (.item (.var (nm "pair")) (.int 1)) (nm "pair") (.slice (.var (nm "pairs")) (.item (.var (nm "begins")) (.var (nm "first"))) (.item (.var (nm "begins")) (.var (nm "cut"))))])]),.asg (nm "lead") (.cond (.and (.cmp .Eq (.var (nm "ranks")) (.lst [])) (.cmp .NotIn (.item (.item (.var (nm "pairs")) (.item (.var (nm "begins")) (.var (nm "new")))) (.int 0)) (.str (⟨#[32,9]⟩:Str)))) (.str (⟨#[32]⟩:Str)) (.str (⟨#[]⟩:Str))),.asg (nm "first") (.var (nm "cut")),.asg (nm "room") (.int 0)] [],.asg (nm "rest") (.slice (.var (nm "pairs")) (.item (.var (nm "begins")) (.var (nm "first"))) (.none)),.ite (.and (.cmp .Eq (.item (.item (.var (nm "pairs")) (.neg (.int 1))) (.int 0)) (.str (⟨#[32]⟩:Str))) (.cmp .Eq (.item (.var (nm "begins")) (.neg (.int 1))) (.bin .sub (.blt (nm "len") [.var (nm "pairs")]) (.int 1)))) [.asg (nm "rest") (.slice (.var (nm "rest")) (.none) (.neg (.int 1)))] [],.asg (nm "line") (.bin .add (.var (nm "lead")) (.meth (.str (⟨#[]⟩:Str)) (nm "join") [.comp (.item (.var (nm "pair")) (.int 1)) (nm "pair") (.var (nm "rest"))])),.ite (.cmp .Eq (.compIf (.var (nm "pair")) (nm "pair") (.var (nm "rest")) (.cmp .NotIn (.item (.var (nm "pair")) (.int 0)) (.str (⟨#[32,9,160]⟩:Str)))) (.lst [])) [.ret (.bin .add (.slice (.var (nm "rows")) (.none) (.neg (.int 1))) (.lst [.bin .add (.item (.var (nm "rows")) (.neg (.int 1))) (.var (nm "line"))]))] [],.ret (.bin .add (.var (nm "rows")) (.lst [.var (nm "line")]))]
theorem tab3:tabNow 3=some ⟨[(nm "pairs"),(nm "room"),(nm "width"),(nm "splitters")],[],B3⟩:=by kernel_rfl
noncomputable def B4:List S:=[.ret (.meth (.str (⟨#[]⟩:Str)) (nm "join") [.compIf (.call 1 [.var (nm "sign")]) (nm "sign") (.var (nm "text")) (.not (.call 0 [.var (nm "sign")]))])]
theorem tab4:tabNow 4=some ⟨[(nm "text")],[],B4⟩:=by kernel_rfl
noncomputable def B5:List S:=[.asg (nm "maker") (.new 0 [.var (nm "room"),.var (nm "width"),.str (⟨#[32]⟩:Str),.var (nm "splitters")]),.expr (.meth (.var (nm "maker")) (nm "_ascii_split") [.str (⟨#[]⟩:Str),.var (nm "text"),.var (nm "splitters")]),.ret (.meth (.var (nm "maker")) (nm "_str") [.str (⟨#[10]⟩:Str)])]
theorem tab5:tabNow 5=some ⟨[(nm "text"),(nm "room"),(nm "width"),(nm "splitters")],[],B5⟩:=by kernel_rfl
noncomputable def B6:List S:=[.asg (nm "taken") (.comp (.bin .mod (.var (nm "x")) (.int 1000000)) (nm "x") (.slice (.var (nm "script")) (.none) (.int 10))),.asg (nm "half") (.bin .fdiv (.blt (nm "len") [.var (nm "taken")]) (.int 2)),.asg (nm "numbers") (.bin .add (.bin .add (.slice (.var (nm "taken")) (.none) (.var (nm "half"))) (.lst [.int 2,.int 4,.int 6,.int 53,.int 7,.int 12,.int 8,.int 33])) (.slice (.var (nm "taken")) (.var (nm "half")) (.none))),.asg (nm "total") (.blt (nm "sum") [.var (nm "numbers")]),.asg (nm "width") (.bin .mod (.var (nm "total")) (.int 11)),.asg (nm "room") (.item (.tup [.int 0,.int 2,.int 4]) (.bin .mod (.bin .fdiv (.var (nm "total")) (.int 11)) (.int 3))),.asg (nm "splitters") (.item (.tup [.str (⟨#[32]⟩:Str),.str (⟨#[46,59,32]⟩:Str),.str (⟨#[]⟩:Str),.str (⟨#[59,44,32,9]⟩:Str),.str (⟨#[9]⟩:Str),.str (⟨#[44,46]⟩:Str)]) (.bin .mod (.bin .fdiv (.var (nm "total")) (.int 33)) (.int 6))),.asg (nm "pairs") (.comp2 (.var (nm "pair")) (nm "number") (.var (nm "numbers")) (nm "pair") (.call 2 [.var (nm "number")])),.asg (nm "spelled") (.meth (.str (⟨#[]⟩:Str)) (nm "join") [.comp (.item (.var (nm "pair")) (.int 0)) (nm "pair") (.var (nm "pairs"))]),.asg (nm "meant") (.comp2 (.tup [.var (nm "sign"),.var (nm "sign")]) (nm "pair") (.var (nm "pairs")) (nm "sign") (.item (.var (nm "pair")) (.int 1))),.asg (nm "behind") (.call 4 [.call 5 [.var (nm "spelled"),.var (nm "room"),.var (nm "width"),.var (nm "splitters")]]),.asg (nm "ahead") (.call 5 [.call 4 [.var (nm "spelled")],.var (nm "room"),.var (nm "width"),.var (nm "splitters")]),.ite (.cmp .NotEq (.var (nm "behind")) (.meth (.str (⟨#[10]⟩:Str)) (nm "join") [.call 3 [.var (nm "pairs"),.var (nm "room"),.var (nm "width"),.var (nm "splitters")]])) [.ret (.bool false)] [],.ret (.cmp .Eq (.var (nm "ahead")) (.meth (.str (⟨#[10]⟩:Str)) (nm "join") [.call 3 [.var (nm "meant"),.var (nm "room"),.var (nm "width"),.var (nm "splitters")]]))]
theorem tab6:tabNow 6=some ⟨[(nm "script")],[],B6⟩:=by kernel_rfl
noncomputable def B10:List S:=[.asgAttr (.var (nm "self")) (nm "_maxlen") (.var (nm "maxlen")),.asgAttr (.var (nm "self")) (nm "_continuation_ws") (.var (nm "continuation_ws")),.asgAttr (.var (nm "self")) (nm "_continuation_ws_len") (.blt (nm "len") [.var (nm "continuation_ws")]),.asgAttr (.var (nm "self")) (nm "_splitchars") (.var (nm "splitchars")),.asgAttr (.var (nm "self")) (nm "_lines") (.lst []),.asgAttr (.var (nm "self")) (nm "_current_line") (.new 1 [.var (nm "headerlen")])]
theorem Aj:tabNow 10=some ⟨[(nm "self"),(nm "headerlen"),(nm "maxlen"),(nm "continuation_ws"),(nm "splitchars")],[],B10⟩:=by kernel_rfl
noncomputable def B11:List S:=[.expr (.meth (.var (nm "self")) (nm "newline") []),.ret (.meth (.var (nm "linesep")) (nm "join") [.attr (.var (nm "self")) (nm "_lines")])]
theorem tab11:tabNow 11=some ⟨[(nm "self"),(nm "linesep")],[],B11⟩:=by kernel_rfl
noncomputable def B12:List S:=[.asg (nm "end_of_line") (.meth (.attr (.var (nm "self")) (nm "_current_line")) (nm "pop") []),.ite (.cmp .NotEq (.var (nm "end_of_line")) (.tup [.str (⟨#[32]⟩:Str),.str (⟨#[]⟩:Str)])) [.expr (.methStar (.attr (.var (nm "self")) (nm "_current_line")) (nm "push") (.var (nm "end_of_line")))] [],.ite (.cmp .Gt (.blt (nm "len") [.attr (.var (nm "self")) (nm "_current_line")]) (.int 0)) [.ite (.and (.meth (.attr (.var (nm "self")) (nm "_current_line")) (nm "is_onlyws") []) (.attr (.var (nm "self")) (nm "_lines"))) [.augItem (.attr (.var (nm "self")) (nm "_lines")) (.neg (.int 1)) (.blt (nm "str") [.attr (.var (nm "self")) (nm "_current_line")])] [.expr (.meth (.attr (.var (nm "self")) (nm "_lines")) (nm "append") [.blt (nm "str") [.attr (.var (nm "self")) (nm "_current_line")]])]] [],.expr (.meth (.attr (.var (nm "self")) (nm "_current_line")) (nm "reset") [])]
theorem tab12:tabNow 12=some ⟨[(nm "self")],[],B12⟩:=by kernel_rfl
noncomputable def B13:List S:=[.asg (nm "parts") (.meth (.top 2) (nm "split") [.bin .add (.var (nm "fws")) (.var (nm "string"))]),.ite (.item (.var (nm "parts")) (.int 0)) [.asgSlice (.var (nm "parts")) (.none) (.int 0) (.lst [.str (⟨#[]⟩:Str)])] [.expr (.meth (.var (nm "parts")) (nm "pop") [.int 0])],.forPair (nm "fws") (nm "part") (.var (nm "parts")) [.expr (.meth (.var (nm "self")) (nm "_append_chunk") [.var (nm "fws"),.var (nm "part")])]]
theorem tab13:tabNow 13=some ⟨[(nm "self"),(nm "fws"),(nm "string"),(nm "splitchars")],[],B13⟩:=by kernel_rfl
noncomputable def B14:List S:=[.expr (.meth (.attr (.var (nm "self")) (nm "_current_line")) (nm "push") [.var (nm "fws"),.var (nm "string")]),.ite (.cmp .Gt (.blt (nm "len") [.attr (.var (nm "self")) (nm "_current_line")]) (.attr (.var (nm "self")) (nm "_maxlen"))) [.forV (nm "ch") (.attr (.var (nm "self")) (nm "_splitchars")) [.forR (nm "i") [.bin .sub (.meth (.attr (.var (nm "self")) (nm "_current_line")) (nm "part_count") []) (.int 1),.int 0,.neg (.int 1)] [.ite (.meth (.var (nm "ch")) (nm "isspace") []) [.asg (nm "fws") (.item (.item (.attr (.var (nm "self")) (nm "_current_line")) (.var (nm "i"))) (.int 0)),.ite (.and (.var (nm "fws")) (.cmp .Eq (.item (.var (nm "fws")) (.int 0)) (.var (nm "ch")))) [.brk] []] [],.asg (nm "prevpart") (.item (.item (.attr (.var (nm "self")) (nm "_current_line")) (.bin .sub (.var (nm "i")) (.int 1))) (.int 1)),.ite (.and (.var (nm "prevpart")) (.cmp .Eq (.item (.var (nm "prevpart")) (.neg (.int 1))) (.var (nm "ch")))) [.brk] []] [.cont],.brk] [.asg2 (nm "fws") (nm "part") (.meth (.attr (.var (nm "self")) (nm "_current_line")) (nm "pop") []),.ite (.cmp .Gt (.attr (.attr (.var (nm "self")) (nm "_current_line")) (nm "_initial_size")) (.int 0)) [.expr (.meth (.var (nm "self")) (nm "newline") []),.ite (.not (.var (nm "fws"))) [.asg (nm "fws") (.str (⟨#[32]⟩:Str))] []] [],.expr (.meth (.attr (.var (nm "self")) (nm "_current_line")) (nm "push") [.var (nm "fws"),.var (nm "part")]),.ret (.none)],.asg (nm "remainder") (.meth (.attr (.var (nm "self")) (nm "_current_line")) (nm "pop_from") [.var (nm "i")]),.expr (.meth (.attr (.var (nm "self")) (nm "_lines")) (nm "append") [.blt (nm "str") [.attr (.var (nm "self")) (nm "_current_line")]]),.expr (.meth (.attr (.var (nm "self")) (nm "_current_line")) (nm "reset") [.var (nm "remainder")])] []]
theorem tab14:tabNow 14=some ⟨[(nm "self"),(nm "fws"),(nm "string")],[],B14⟩:=by kernel_rfl
noncomputable def B21:List S:=[.expr (.meth (.var (nm "self")) (nm "append") [.tup [.var (nm "fws"),.var (nm "string")]])]
theorem tab21:tabNow 21=some ⟨[(nm "self"),(nm "fws"),(nm "string")],[],B21⟩:=by kernel_rfl
noncomputable def B22:List S:=[.asg (nm "popped") (.slice (.var (nm "self")) (.var (nm "i")) (.none)),.asgSlice (.var (nm "self")) (.var (nm "i")) (.none) (.lst []),.ret (.var (nm "popped"))]
theorem tab22:tabNow 22=some ⟨[(nm "self"),(nm "i")],[.int 0],B22⟩:=by kernel_rfl
noncomputable def B26:List S:=[.ite (.cmp .Is (.var (nm "startval")) (.none)) [.asg (nm "startval") (.lst [])] [],.asgSlice (.var (nm "self")) (.none) (.none) (.var (nm "startval")),.asgAttr (.var (nm "self")) (nm "_initial_size") (.int 0)]
theorem Ej:tabNow 26=some ⟨[(nm "self"),(nm "startval")],[.none],B26⟩:=by kernel_rfl
noncomputable def B27:List S:=[.ret (.and (.cmp .Eq (.attr (.var (nm "self")) (nm "_initial_size")) (.int 0)) (.or (.not (.var (nm "self"))) (.meth (.blt (nm "str") [.var (nm "self")]) (nm "isspace") [])))]
theorem tab27:tabNow 27=some ⟨[(nm "self")],[],B27⟩:=by kernel_rfl
theorem rB{a b:String}(h:nm a=nm b):a=b:=by
 unfold nm at h;rw[Str.ofString_eq_toList,Str.ofString_eq_toList]at h;injection h with h
 have h:=congrArg Array.toList h;simp only at h;have c:a.toList=b.toList:=(List.map_inj_right (λx y e=>Char.ext (UInt32.toNat_inj.mp e))).mp h;exact String.toList_inj.mp c
theorem fm(a b:String):(nm a=nm b)=(a=b):=propext ⟨rB,λh=>by rw[h]⟩
theorem b2(a b:String):(nm a==nm b)=(a==b):=by
 by_cases h:a=b
 ·subst h;simp
 ·rw[beq_false_of_ne h,beq_false_of_ne (λe=>h (rB e))]
theorem aa{x:Str}{v:V}{l:List (Str×V)}:yY x ((x,v)::l)=some v:=by simp
theorem ab{a b:String}{v u:V}{l:List (Str×V)}(c:(a==b)=false)(h:yY (nm a) l=some v):yY (nm a) ((nm b,u)::l)=some v:=by
 rw[zZ,b2,c];exact h
section
variable {F:Fs}
theorem dr{n f:Nat}{fn:Fn}{loc:List (Str×V)}(a:gV f as hp=none)(b:tabNow f=some fn)(c:iU fn.params as fn.dflts=some loc):
 run tabNow (n+1) f as hp=(exs (run tabNow n) fn.body ⟨loc,hp⟩).map λr=>(match r.1 with|.ret v=>v|_=>.none,r.2.hp):=by
 rw[BI,a];exact bS b (bS c rfl)
theorem hO{n f:Nat}{ps:List Str}{b:List S}{loc:List (Str×V)}{v:V}(a:gV f as hp=none)(c:tabNow f=some ⟨ps,ds,b⟩)(d:iU ps as ds=some loc)(h:exs (run tabNow n) b ⟨loc,hp⟩=some (.ret v,⟨loc',hp'⟩)):
 run tabNow (n+1) f as hp=some (v,hp'):=(dr a c d).trans (mX h)
theorem lp{n f:Nat}{ps:List Str}{b:List S}{loc:List (Str×V)}(a:gV f as hp=none)(c:tabNow f=some ⟨ps,ds,b⟩)(d:iU ps as ds=some loc)(h:exs (run tabNow n) b ⟨loc,hp⟩=some (.next,⟨loc',hp'⟩)):
 run tabNow (n+1) f as hp=some (.none,hp'):=(dr a c d).trans (mX h)
theorem turns_inv{f:V->St->Option (R×St)}{rest:St->Option (R×St)}(P:Nat->St->Prop):∀(l:List V)(a:Nat),
 (∀i (d:i<l.length) st,P (a+i) st->∃b,(f (l[i]) st=some (.next,b)\/f (l[i]) st=some (.cont,b))/\P (a+i+1) b)->
 ∀st,P a st->∃b,P (a+l.length) b/\turns f rest l st=rest b
 | [],a,_,st,h=>⟨st,h,rfl⟩
 | v::r,a,hf,st,h=>by
  refine el12 (hf 0 (by simp) st h) λs1 c e=>?_;have c:f v st=some (.next,s1)\/f v st=some (.cont,s1):=c;obtain⟨s2,g,j⟩:=turns_inv P r (a+1) (λi d s k=>by
   have:=hf (i+1) (by simp;exact d) s (by rw[show a+(i+1)=a+1+i by simp +arith];exact k);rw[show a+(i+1)=a+1+i by simp +arith]at this;exact this) s1 e
  refine⟨s2,by rw[zL,show a+(r.length+1)=a+1+r.length by simp +arith];exact g,?_⟩;exact(qH c).trans j
theorem gL:∀(n:Nat)(a d:Int),(aX n a d).length=n
 | 0,_,_=>rfl
 | n+1,a,d=>by rw[aX,zL,gL]
theorem nw:∀(n:Nat)(a d:Int)(i:Nat)(h:i<(aX n a d).length),(aX n a d)[i]=.int (a+i*d)
 | 0,_,_,i,h=>by simp[aX]at h
 | n+1,a,d,0,h=>by simp[aX]
 | n+1,a,d,i+1,h=>by
  simp only[aX,List.getElem_cons_succ];rw[nw n (a+d) d i];congr 1;rw[ue,Int.add_mul];simp
  simp +arith
theorem im{x:Str}{b o:List S}{n:Nat}{a:Int}(g:evs F args st=some (vs,st1))(h:iM vs=some (aX n a 1))(P:Nat->St->Prop)(j:P 0 st1)
 (k:∀i,i<n->∀s,P i s->∃s',(exs F b (s.set x (.int (a+i)))=some (.next,s')\/exs F b (s.set x (.int (a+i)))=some (.cont,s'))/\P (i+1) s'):
 ∃c,P n c/\ex F (.forR x args b o) st=exs F o c:=by
 obtain⟨c,d,l⟩:=turns_inv (f:=λv s=>exs F b (s.set x v)) (rest:=λs=>exs F o s) P (aX n a 1) 0 (λi e s m=>by
  rw[nw];rw[gL]at e;have:=k i e s (by simpa using m);simpa using this) st1 j
 rw[gL,ym]at d;refine⟨c,d,?_⟩;exact bS g (bS h l)
theorem rI{g:List O->Bool}{f:V->List V->List O->Option (List V×List O)}{step:V->List V}(a:g hp=true):∀(vs acc:List V),acc.length+(vs.flatMap step).length<=lid->
 (∀v∈vs,∀acc:List V,acc.length+(step v).length<=lid->f v acc hp=some (acc++step v,hp))->dj g f vs acc hp=some (acc++vs.flatMap step,hp)
 | [],acc,_,_=>(gh a).trans (by rw[List.flatMap_nil,zo])
 | v::r,acc,hl,hf=>by
  rw[zm,zF]at hl;exact(g4 a (hf v (zj ..) acc (fk1 hl))).trans ((rI a r (acc++step v) (by rw[zF];exact fk1 hl) (λv b=>hf v (zy _ b))).trans (by rw[zm,yG]))
theorem xx{g:List O->Bool}{f:V->List V->List O->Option (List V×List O)}(P:Nat->List V->List O->Prop)(k:∀i acc hp,P i acc hp->g hp=true):∀(vs:List V)(a:Nat),
 (∀i (n:i<vs.length) acc hp,P (a+i) acc hp->∃b c,f (vs[i]) acc hp=some (b,c)/\P (a+i+1) b c)->∀acc hp,P a acc hp->∃b c,P (a+vs.length) b c/\dj g f vs acc hp=some (b,c)
 | [],a,_,acc,hp,h=>⟨acc,hp,h,gh (k _ _ _ h)⟩
 | v::r,a,hf,acc,hp,h=>by
  refine fw (hf 0 (by simp) acc hp h) λd e l o=>?_;have l:f v acc hp=some (d,e):=l;obtain⟨j,m,p,q⟩:=xx P k r (a+1) (λi n acc hp s=>by
   have:=hf (i+1) (by simp;exact n) acc hp (by rw[show a+(i+1)=a+1+i by simp +arith];exact s);rw[show a+(i+1)=a+1+i by simp +arith]at this;exact this) d e o
  refine⟨j,m,by rw[zL,show a+(r.length+1)=a+1+r.length by simp +arith];exact p,?_⟩;exact(g4 (k _ _ _ h) l).trans q
theorem iI{f:V->List V->List O->Option (List V×List O)}{l:List Nat}{acc:List V}:dv f (.str ⟨l.toArray⟩) acc hp=dj (λ_=>true) f (l.map λc=>.str (one c)) acc hp:=altN rfl
open Classical in
theorem eH{f:V->List V->List O->Option (List V×List O)}{k:Nat}{acc:List V}(h:hp[k]?=some (.list vs)):dv f (.ref k) acc hp=dj (λhp=>decide (hp[k]?=some (.list vs))) f vs acc hp:=
 altR rfl (bX (oL h))
theorem BW{x:Str}{s1:St}{v:V}(h:ev F it st=some (v,s1))(a:dv (λv acc hp=>(ev F elt ⟨[(x,v)],hp⟩).bind λq=>push acc q.1 q.2.hp) v [] s1.hp=some (vs,hp'))(b:vs.length<=lid):
 ev F (.comp elt x it) st=some (.ref hp'.length,⟨s1.loc,hp'++[.list vs]⟩):=bS h (bS a (if_pos b))
theorem oZ{c:X}{x:Str}{s1:St}{v:V}(h:ev F it st=some (v,s1)) (a:dv (λv acc hp=>(evT F c ⟨[(x,v)],hp⟩).bind λt=>match t.1 with
 | true=>(ev F elt ⟨[(x,v)],t.2.hp⟩).bind λq=>push acc q.1 q.2.hp
 | false=>some (acc,t.2.hp)) v [] s1.hp=some (vs,hp')) (b:vs.length<=lid):
 ev F (.compIf elt x it c) st=some (.ref hp'.length,⟨s1.loc,hp'++[.list vs]⟩):=bS h (bS a (if_pos b))
theorem tz{x y:Str}{s1:St}{v:V}(h:ev F it st=some (v,s1)) (a:dv (λv acc hp=>(ev F it2 ⟨[(x,v)],hp⟩).bind λp=>
 dv (λu acc hp=>(ev F elt ⟨[(y,u),(x,v)],hp⟩).bind λq=>push acc q.1 q.2.hp) p.1 acc p.2.hp) v [] s1.hp=some (vs,hp')) (b:vs.length<=lid):
 ev F (.comp2 elt x it y it2) st=some (.ref hp'.length,⟨s1.loc,hp'++[.list vs]⟩):=bS h (bS a (if_pos b))
end
theorem gZ(a b:List Nat):toS a++toS b=toS (a++b):=by
 show(⟨a.toArray++b.toArray⟩:Str)=⟨(a++b).toArray⟩
 congr 1;simp
theorem dz(a:List Nat):(toS a).length=a.length:=by simp[toS,Str.length]
theorem fy(a:List Nat):(toS a).cps.toList=a:=by simp[toS]
theorem dJ(a:List Nat):(toS a).cps.size=a.length:=by simp[toS]
theorem tW(a:List Nat)(i:Nat):(toS a).cps[i]?=a[i]?:=by simp[toS]
theorem n7{a b:List Nat}:toS a=toS b↔a=b:=by
 constructor
 ·intro h;have:=congrArg (λs:Str=>s.cps.toList) h;simpa[toS] using this
 ·intro h;rw[h]
theorem Fu(s:Str):toS s.cps.toList=s:=by obtain⟨⟨l⟩⟩:=s;rfl
theorem DB(c:Nat):one c=toS [c]:=rfl
noncomputable def aJ(s:List Nat):List (List Nat)->List Nat
 | []=>[]
 | [x]=>x
 | x::r=>x++s++aJ s r
theorem rb(s:List Nat):∀ls:List (List Nat),Str.join (toS s) (ls.map toS)=toS (aJ s ls)
 | []=>rfl
 | [x]=>rfl
 | x::y::r=>by
  have a:=rb s (y::r);show toS x++toS s++Str.join (toS s) ((y::r).map toS)=toS (x++s++aJ s (y::r))
  rw[a,gZ,gZ]
theorem gj:∀ls:List (List Nat),aJ [] ls=ls.flatten
 | []=>rfl
 | [x]=>by simp[aJ]
 | x::y::r=>by
  show x++[]++aJ [] (y::r)=_
  rw[gj (y::r)];simp
theorem strs_map(ls:List (List Nat)):strs? (ls.map λl=>V.str (toS l))=some (ls.map toS):=by
 induction ls with
 | nil=>rfl
 | cons a r b=>exact mX b
noncomputable abbrev P:=Nat×List Nat
noncomputable def pv(p:P):V:=.tup [.str (toS [p.1]),.str (toS p.2)]
theorem bf{i:Int}(a : -1000000000000<=i)(b:i<=1000000000000):aH i=true:=by
 unfold aH bk;simp[a,b]
theorem nO{i j:Int}(a : -1000000000000<=i+j)(b:i+j<=1000000000000):km .add (.int i) (.int j) st=some (.int (i+j),st):=
 (show wt (.int i) (.int j) st=_ from bA (bS rfl (bS rfl (mX (if_pos (bf a b))))))
theorem mW{i j:Int}(a : -1000000000000<=i-j)(b:i-j<=1000000000000):km .sub (.int i) (.int j) st=some (.int (i-j),st):=
 mX (if_pos (bf a b))
theorem EY{i j:Int}(h:0<=i)(b:i<=1000000000000)(a:0<j)(c:j<1000000000):km .fdiv (.int i) (.int j) st=some (.int (i/j),st):=by
 have e:Int.fdiv i j=i/j:=Int.fdiv_eq_ediv_of_nonneg i (Int.le_of_lt a);have d:0<=i/j:=Int.ediv_nonneg h (Int.le_of_lt a);have l2:i/j<=i:=Int.ediv_le_self j h;exact(if_pos ⟨a,c⟩).trans (mX (by rw[e];exact if_pos (bf (jg (by decide) d) (jg l2 b))))
theorem EE{i j:Int}(a:0<j)(b:j<1000000000):km .mod (.int i) (.int j) st=some (.int (i%j),st):=by
 have e:Int.fmod i j=i%j:=Int.fmod_eq_emod_of_nonneg i (Int.le_of_lt a);have c:0<=i%j:=Int.emod_nonneg i (Int.ne_of_gt a);have l2:i%j<j:=Int.emod_lt_of_pos i a;exact(if_pos a).trans (mX (by rw[e];exact if_pos (bf (jg (by decide) c) (ik2 b l2))))
theorem fY{k n:Nat}(h:k<n)(a:n<=1000000000):bl (k:Int) n=some k:=by
 unfold bl;rw[bf (zX _) (uZ.mpr (fk2 h a))];simp[h]
theorem BH:∀{l:List bj}{k:Nat}{st:St}(h:k<l.length)(a:l.length<=1000000000),dp (.tup l) (.int (k:Int)) st=some (ofA l[k]):=by
 exists ce3_,l,k,st;intro h a;exact bS rfl (altR rfl (bA (bS rfl (bS (fY h a) (mX (zP h))))))
theorem AL:∀{l:List Nat}{k:Nat}{st:St}(h:k<l.length)(a:l.length<=1000000000),dp (.str (toS l)) (.int (k:Int)) st=some (.str (toS [l[k]])):=by
 exists ce3_,l,k,st;intro h a;exact bS rfl (altR rfl (altR rfl (bS rfl (bS ((congrArg (bl _) (dJ l)).trans (fY h a)) (mX ((tW l k).trans (zP h)))))))
theorem v_chr{i:Int}{k:Nat}(e:i=(k:Int))(h:k<1114112):iE F (nm "chr") [.int i] st=some (.str (toS [k]),st):=by
 subst e;exact bS rfl ((if_neg (by decide)).trans ((if_neg (by decide)).trans ((if_pos rfl).trans (bS rfl (if_pos ⟨zX _,jh.mpr h⟩)))))
theorem ED{c:Nat}:iE F (nm "ord") [.str (toS [c])] st=some (.int c,st):=bS rfl ((if_neg (by decide)).trans ((if_pos rfl).trans rfl))
noncomputable def gq(c:Nat):Bool:=gR.contains (c:Int)
theorem run0{n c:Nat}:run tabNow (n+1) 0 [.str (toS [c])] hp=some (.bool (gq c),hp):=by
 exact hO rfl tab0 rfl (cJ (Ab (bR (e_var aa) ED) rfl rfl))
noncomputable def b3(c:Nat):List Nat:=match b3Tab.lookup (c:Int)with
 | some s=>s.cps.toList
 | none=>jM c
theorem run1:∀{n c:Nat}{hp:List O}(b:(b3 c).length<=1000),run tabNow (n+1) 1 [.str (toS [c])] hp=some (.str (toS (b3 c)),hp):=by
 exists ce3_,n,c,hp;intro b;have a:exs (run tabNow n) B1 ⟨[(nm "code",.str (toS [c]))],hp⟩=exs (run tabNow n) (B1.drop 1) ⟨[(nm "r",b3V c),(nm "code",.str (toS [c]))],hp⟩:=aD (s1:=⟨[(nm "code",.str (toS [c]))],hp⟩) (bU rfl (bR (e_var aa) ED) mo_get mo_get m_get);unfold b3V at a;unfold b3 at b⊢;cases e:b3Tab.lookup (c:Int)with
 | some s=>
  rw[e]at a;exact(hO rfl tab1 rfl (a.trans (dh (t_cmp (e_var aa) bT rfl) (cJ (e_var aa)) (by simp)))).trans (by rw[Fu])
 | none=>
  rw[e]at b a;exact hO rfl tab1 rfl (a.trans ((aR (t_cmp (e_var aa) bT rfl)).trans (cJ (oJ (e_var (ab (by decide) aa)) mo_lower (DV (fy _) (zB b (by decide)))))))
theorem en{b:Type}{g:List O->Bool}{f:V->List V->List O->Option (List V×List O)}{step:b->List V}{h:b->V}(c:g hp=true):∀(l:List b)(acc:List V),acc.length+(l.flatMap step).length<=lid->
 (∀a∈l,∀acc:List V,acc.length+(step a).length<=lid->f (h a) acc hp=some (acc++step a,hp))->dj g f (l.map h) acc hp=some (acc++l.flatMap step,hp)
 | [],acc,_,_=>(gh c).trans (by rw[List.flatMap_nil,zo])
 | v::r,acc,hl,hf=>by
  rw[zm,zF]at hl;exact(g4 c (hf v (zj ..) acc (fk1 hl))).trans ((en c r (acc++step v) (by rw[zF];exact fk1 hl) (λv d=>hf v (zy _ d))).trans (by rw[zm,yG]))
theorem gT{b c:Type}(f:b->c):∀l:List b,(l.flatMap λa=>[f a])=l.map f
 | []=>rfl
 | a::r=>by rw[zm,gT f r];rfl
theorem fW{b:Type}{g:List O->Bool}{f:V->List V->List O->Option (List V×List O)}{h t:b->V}(c:g hp=true)(l:List b)(acc:List V)(d:acc.length+l.length<=lid)
 (e:∀a∈l,∀acc:List V,acc.length+1<=lid->f (h a) acc hp=some (acc++[t a],hp)):dj g f (l.map h) acc hp=some (acc++l.map t,hp):=
 gT t l▸en (step:=λa=>[t a]) c l acc (by rw[gT,zC];exact d) e
theorem oG{c:Type}{x:Str}{s1:St}{k:Nat}{l:List c}{h g:c->V}(e:ev F it st=some (.ref k,s1))(d:s1.hp[k]?=some (.list (l.map h)))(b:l.length<=1000000)(f:∀a∈l,ev F elt ⟨[(x,h a)],s1.hp⟩=some (g a,⟨[(x,h a)],s1.hp⟩)):
 ev F (.comp elt x it) st=some (.ref s1.hp.length,⟨s1.loc,s1.hp++[.list (l.map g)]⟩):=by
 exact BW e ((eH d).trans (fW (@decide_eq_true _ (_) d) l [] (zB (zS (ym _)) b) λa i acc b=>bS (f a i) (if_pos b))) (zB (zS (zC _)) b)
noncomputable def iJ(l:List Nat):List Nat:=(l.filter λc => !gq c).flatMap b3
theorem cX{c d:Type}{f:c->List d}:∀(l:List c),(∀a∈l,(f a).length<=B)->(l.flatMap f).length<=B*l.length
 | [],_=>by simp
 | a::r,h=>by
  rw[zm,zF,zL,Nat.mul_add];have:=cX r λb e=>h b (zy _ e);have:=h a (zj ..);exact fk2 ‹(List.flatMap f r).length<=B*r.length› this
theorem Bj:∀(l:List (List Nat)),(∀a∈l,a.length<=B)->((l.map toS).map (·.length)).sum<=B*l.length
 | [],_=>by simp
 | a::r,h=>by
  rw[zV,zV,ji,zL,Nat.mul_add,dz];have:=Bj r λb c=>h b (zy _ c);have:=h a (zj ..);exact fk2 ‹(List.map (λx=>x.length) (List.map toS r)).sum<=B*r.length› this
theorem lL:∀{F:Fs}{s:List Nat}{ls:List (List Nat)}{k:Nat}{st:St}(c:st.hp[k]?=some (.list (ls.map λl=>.str (toS l))))(d:s.length<=1)(b:ls.length<=1000)(e:∀a∈ls,a.length<=900),
 cU F (.str (toS s)) (nm "join") [.ref k] st=some (.str (toS (aJ s ls)),st):=by
 exists ce5_,F,s,ls,k,st;intros;have f:=Bj ls e;have g:(ls.map toS).length*s.length<=1000:=by
  rw[zC]
  calc ls.length*s.length<=ls.length*1:=vC _ d
   _<=1000:=Nat.add_le_add_left b _
 refine bA (bS rfl ((if_pos rfl).trans (bS rfl (bS (fV c) (bS (strs_map ls) ((if_pos ?_).trans (by rw[rb])))))));rw[dz];exact zB (jY f g) (zB (Nat.add_le_add_right (vC _ b) _) (by decide))
theorem run4:∀{n:Nat}{l:List Nat}{hp:List O}(j:l.length<=1000)(g:∀c∈l,(b3 c).length<=100),∃vs,run tabNow (n+2) 4 [.str (toS l)] hp=some (.str (toS (iJ l)),hp++[.list vs]):=by
 exists ce3_,n,l,hp;intros;have o:(l.flatMap λc=>if gq c then[]else[b3 c])=(l.filter λc => !gq c).map b3:=by
  clear j g
  induction l with
  | nil=>rfl
  | cons a r p=>cases e:gq a<;>simp[e,p]
 have k:(l.flatMap λc=>if gq c then[]else[V.str (toS (b3 c))])=((l.filter λc => !gq c).map b3).map λs=>.str (toS s):=by
  rw[<-o,List.map_flatMap];congr 1;funext c
  split<;>rfl
 have b:(l.filter λc => !gq c).length<=1000:=zB (List.length_filter_le _ _) j;have m:(l.flatMap λc=>if gq c then[]else[V.str (toS (b3 c))]).length<=1000:=by rw[k];simpa using b
 refine⟨l.flatMap λc=>if gq c then[]else[V.str (toS (b3 c))],hO (loc':=[(nm "text",.str (toS l))]) rfl tab4 rfl (cJ (bU bL (oZ (e_var aa) (iI.trans (en (step:=λc=>if gq c then[]else[V.str (toS (b3 c))]) rfl l [] ?_ λc h acc d=>?_)) ?_) mo_join mo_join ?_))⟩
 ·exact zB (zS (ym _)) (zB m (by decide))
 ·have f:evT (run tabNow (n+1)) (.not (.call 0 [.var (nm "sign")])) ⟨[(nm "sign",.str (one c))],hp⟩=some (!gq c,⟨[(nm "sign",.str (one c))],hp⟩):=Ei (Fg (fK (gp (e_var aa)) run0) rfl);cases e:gq c with
  | true=>
   rw[e]at f;rw[if_pos rfl,zo];exact bS f rfl
  | false=>
   rw[e]at d f;exact bS f (bS (fK (gp (e_var aa)) (run1 (zB (g c h) (by decide)))) (if_pos d))
 ·exact zB m (by decide)
 ·rw[jN,k];refine(lL (s:=[]) List.getElem?_concat_length (by decide) (by rw[zC];exact b) λa d=>?_).trans ?_
  ·refine el12 (zv.mp d) λc h i=>?_;subst i;exact zB (g c (List.mem_filter.mp h).1) (by decide)
  ·rw[gj];rfl
theorem nv{n j:Nat}(a:J=(j:Int))(b:n<=1000000000000)(c:0<j)(d:j<1000000000):km .fdiv (.int (n:Int)) (.int J) st=some (.int ((n/j:Nat):Int),st):=by
 subst a;rw[EY (zX _) (uZ.mpr b) (jh.mpr c) (jh.mpr d)];simp
theorem gx{n j:Nat}(a:J=(j:Int))(b:0<j)(c:j<1000000000):km .mod (.int (n:Int)) (.int J) st=some (.int ((n%j:Nat):Int),st):=by
 subst a;rw[EE (jh.mpr b) (jh.mpr c)];simp
theorem EL{n j:Nat}(a:J=(j:Int))(h:j+n<=1000000000):km .add (.int J) (.int (n:Int)) st=some (.int ((j+n:Nat):Int),st):=by
 subst a;rw[nO (zX _) (by lia)];simp
theorem c_nat{n:Nat}(h:n<1114112):iE F (nm "chr") [.int (n:Int)] st=some (.str (toS [n]),st):=v_chr rfl h
noncomputable def lD(w:Nat):Nat->List P
 | 0=>([[32],[9],[32,32],[160]].getD (w%4) []).map λc=>(c,[c])
 | 1=>[(97+w%26,[97+w%26])]
 | 2=>[([65,913,1040].getD (w%3) 0+w/3%17,[[65,913,1040].getD (w%3) 0+w/3%17+32])]
 | 3=>[([119808,119860,119912,120016,120172,120224,120276,120328,120380,120432].getD (w/26%10) 0+w%26,[97+w%26])]
 | 4=>[([64259,890,223,13255,64262,8481,8119,8360].getD (w%8) 0,[[102,102,105],[32,953],[115,115],[99,111,46],[115,116],[116,101,108],[945,834,953],[114,115]].getD (w%8) [])]
 | 5=>[(if w%27<11 then[173,847,6150,6155,6156,6157,8203,8204,8205,8288,65279].getD (w%27) 0 else 65013+w%27,[])]
 | 6=>[([59,44,46].getD (w%3) 0,[[59,44,46].getD (w%3) 0])]
 | _=>[(32,[32]),(65+w%26,[97+w%26])]
noncomputable def ch(n:Nat):List P:=lD (n/8) (n%8)
theorem pe{P:Nat->Prop}{n k:Nat}(h:n<k+1)(a:P k)(r:n<k->P n):P n:=(Nat.lt_succ_iff_lt_or_eq.mp h).elim r λe=>e▸a
@[elab_as_elim] theorem lt8{P:Nat->Prop}{n:Nat}(h:n<8)(a:P 0)(b:P 1)(c:P 2)(d:P 3)(e:P 4)(f:P 5)(g:P 6)(i:P 7):P n:=
 pe h i λh=>pe h g λh=>pe h f λh=>pe h e λh=>pe h d λh=>pe h c λh=>pe h b λh=>pe h a λh=>absurd h (Nat.not_lt_zero _)
section
variable {F:Fs}
noncomputable abbrev sN(n:Nat)(hp:List O):St:=⟨[(nm "which",.int ((n/8:Nat):Int)),(nm "number",.int (n:Int))],hp⟩
theorem xX{n q:Nat}(h:n%8=q):evT F (.cmp .Eq (.bin .mod (.var (nm "number")) (.int 8)) (.int I)) (sN n hp)=some ((q:Int)==I,sN n hp):=by
 subst h;exact t_cmp (aM (e_var (ab (by decide) aa)) ao (gx (j:=8) rfl (by decide) (by decide))) ao rfl
theorem ite8f{n q:Nat}(h:n%8=q)(a:((q:Int)==I)=false){b r:List S}:exs F (.ite (.cmp .Eq (.bin .mod (.var (nm "number")) (.int 8)) (.int I)) b []::r) (sN n hp)=exs F r (sN n hp):=aR (a▸xX h)
theorem ite8t{n q:Nat}(h:n%8=q)(a:((q:Int)==I)=true){b r:List S}{v:V}(c:exs F b (sN n hp)=some (.ret v,st')):exs F (.ite (.cmp .Eq (.bin .mod (.var (nm "number")) (.int 8)) (.int I)) b []::r) (sN n hp)=some (.ret v,st'):=dh (a▸xX h) c (by simp)
theorem Ep{n:Nat}:ev F (.var (nm "which")) (sN n hp)=some (.int ((n/8:Nat):Int),sN n hp):=e_var aa
theorem wmod{n j:Nat}(a:J=(j:Int))(b:0<j)(c:j<1000000000):ev F (.bin .mod (.var (nm "which")) (.int J)) (sN n hp)=some (.int ((n/8%j:Nat):Int),sN n hp):=aM Ep ao (gx a b c)
theorem wmod2{n i j:Nat}(b:I=(i:Int))(c:0<i)(a:i<1000000000)(d:n<=1000000000000)(e:J=(j:Int))(f:0<j)(g:j<1000000000):ev F (.bin .mod (.bin .fdiv (.var (nm "which")) (.int I)) (.int J)) (sN n hp)=some (.int ((n/8/i%j:Nat):Int),sN n hp):=
 aM (aM Ep ao (nv b (zB (Nat.div_le_self _ _) d) c a)) ao (gx e f g)
theorem co{e f:X}{a b:List Nat}(c:ev F e st=some (.str (toS a),st))(d:ev F f st=some (.str (toS b),st)):ev F (.tup [e,f]) st=some (.tup [.str (toS a),.str (toS b)],st):=e_tup (oh c d) rfl
theorem mA{e:X}{n:Nat}(h:ev F e st=some (.int (n:Int),st))(a:n<1114112):ev F (.blt (nm "chr") [e]) st=some (.str (toS [n]),st):=bR h (c_nat a)
theorem rW{e:X}{n j:Nat}(a:J=(j:Int))(h:ev F e st=some (.int (n:Int),st))(b:j+n<=1000000000):ev F (.bin .add (.int J) e) st=some (.int ((j+n:Nat):Int),st):=aM ao h (EL a b)
theorem BY{e f:X}{n j:Nat}(h:ev F e st=some (.int (n:Int),st))(a:ev F f st=some (.int (j:Int),st))(b:n+j<=1000000000):ev F (.bin .add e f) st=some (.int ((n+j:Nat):Int),st):=aM h a (EL (n:=j) (j:=n) rfl b)
theorem sR{n j m:Nat}{M:Int}(b:J=(j:Int))(c:M=(m:Int))(a:0<m)(h:j+m<=1000000):ev F (.blt (nm "chr") [.bin .add (.int J) (.bin .mod (.var (nm "which")) (.int M))]) (sN n hp)=some (.str (toS [j+n/8%m]),sN n hp):=
 have:n/8%m<m:=zt _ a
 mA (rW b (wmod c a (fk1 h)) (fk2 h this)) (fk2 h this)
end
section
variable {F:Fs}
theorem As{x:Str}{l:List Nat}(h:ev F it st=some (.str (toS l),st))(d:l.length<=1000):
 ev F (.comp (.tup [.var x,.var x]) x it) st=some (.ref st.hp.length,{st with hp:=st.hp++[.list ((l.map λc=>(c,[c])).map pv)]}):=by
 rw[List.map_map];exact BW h (iI.trans (fW (t:=λc=>pv (c,[c])) rfl l [] (zB (zS (ym _)) (zB d (by decide))) λc f acc e=>bS (co (a:=[c]) (b:=[c]) (e_var aa) (e_var aa)) (if_pos e))) (zB (zS (zC _)) (zB d (by decide)))
theorem getD_at{a:Type}{l:List a}{k:Nat}{d:a}(h:k<l.length):l.getD k d=l[k]:=by simp[uj,h]
theorem dP{e f:X}{a:Type}{l:List a}{k:Nat}{v:V}(g:a->bj)(d:a)(b:ev F e st=some (.tup (l.map g),st))(c:ev F f st=some (.int (k:Int),st))(h:k<l.length)(i:l.length<=1000000000)(j:ofA (g (l.getD k d))=v):ev F (.item e f) st=some (v,st):=by
 refine bh b c ((BH (by rw[zC];exact h) (by rw[zC];exact i)).trans ?_);rw[List.getElem_map,<-getD_at (d:=d) h,j]
theorem CM{e f:X}{l:List Nat}{k:Nat}(a:ev F e st=some (.str (toS l),st))(b:ev F f st=some (.int (k:Int),st))(h:k<l.length)(c:l.length<=1000000000):ev F (.item e f) st=some (.str (toS [l.getD k 0]),st):=by
 rw[getD_at h];exact bh a b (AL h c)
theorem rR{e:X}{a b:bj}{r:List S}(h:ev F e st=some (.tup [a,b],st)):exs F (.ret (.lst [e])::r) st=some (.ret (.ref st.hp.length),⟨st.loc,st.hp++[.list [.tup [a,b]]]⟩):=cJ (lS h)
noncomputable def At(F:Fs)(b:List S)(n:Nat)(hp:List O)(q:Nat):Prop:=n%8=q->∃loc,exs F b (sN n hp)=some (.ret (.ref hp.length),⟨loc,hp++[.list ((lD (n/8) q).map pv)]⟩)
theorem At.hit{n q:Nat}{b r:List S}{loc:List (Str×V)}(a:((q:Int)==I)=true)(c:exs F b (sN n hp)=some (.ret (.ref hp.length),⟨loc,hp++[.list ((lD (n/8) q).map pv)]⟩)):At F (.ite (.cmp .Eq (.bin .mod (.var (nm "number")) (.int 8)) (.int I)) b []::r) n hp q:=λh=>⟨loc,ite8t h a c⟩
theorem At.miss{n q:Nat}{b r:List S}(a:((q:Int)==I)=false)(k:At F r n hp q):At F (.ite (.cmp .Eq (.bin .mod (.var (nm "number")) (.int 8)) (.int I)) b []::r) n hp q:=λh=>(k h).imp λ_ e=>(ite8f h a).trans e
section
variable {n:Nat}{hp:List O}
theorem bd3:∀k,k<3->[65,913,1040].getD k 0<=1040:=by decide +kernel
theorem bd10:∀k,k<10->[119808,119860,119912,120016,120172,120224,120276,120328,120380,120432].getD k 0<=120432:=by decide +kernel
theorem bd11:∀k,k<11->[173,847,6150,6155,6156,6157,8203,8204,8205,8288,65279].getD k 0<=65279:=by decide +kernel
theorem kb0:At F (B2.drop 1) n hp 0:=.hit rfl (cJ (As (dP (l:=[[32],[9],[32,32],[160]]) (λs:List Nat=>.str (toS s)) [] rfl (wmod (j:=4) rfl (by decide) (by decide)) (zt _ (by decide)) (by decide) rfl)
 ((by decide +kernel:∀k,k<4->([[32],[9],[32,32],[160]].getD k []).length<=1000) _ (zt _ (by decide)))))
theorem kb1:At F (B2.drop 1) n hp 1:=.miss rfl (.hit rfl (rR (co (sR (j:=97) (m:=26) rfl rfl (by decide) (by decide)) (sR (j:=97) (m:=26) rfl rfl (by decide) (by decide)))))
theorem kb2(b:n<=1000000):At F (B2.drop 1) n hp 2:=by
 have a:=bd3 _ (zt (n/8) (by decide));have d:n/8/3%17<17:=zt _ (by decide);have e:ev F (.item (.tup [.int 65,.int 913,.int 1040]) (.bin .mod (.var (nm "which")) (.int 3))) (sN n hp)=some (.int (([65,913,1040].getD (n/8%3) 0:Nat):Int),sN n hp):=dP (l:=[65,913,1040]) (λc:Nat=>.int (c:Int)) 0 rfl (wmod (j:=3) rfl (by decide) (by decide)) (zt _ (by decide)) (by decide) rfl;have f:=BY e (wmod2 (F:=F) (hp:=hp) (I:=3) (J:=17) (i:=3) (j:=17) rfl (by decide) (by decide) (zB b (by decide)) rfl (by decide) (by decide)) (fk2 a (zt (n/8/3) (by decide:0<17)));exact .miss rfl (.miss rfl (.hit rfl ((aD f).trans (rR (co (mA (e_var aa) (by lia)) (mA (BY (j:=32) (e_var aa) ao (fk2 a (zt (n/8/3) (by decide:0<17)))) (fk2 a (zt (n/8/3) (by decide:0<17)))))))))
theorem kb3(d:n<=1000000):At F (B2.drop 1) n hp 3:=by
 have a:=bd10 _ (zt (n/8/26) (by decide));have e:n/8%26<26:=zt _ (by decide);have b:∀{v:V},ev F (.bin .mod (.var (nm "which")) (.int 26)) ⟨(nm "begins",v)::(sN n hp).loc,hp⟩=some (.int ((n/8%26:Nat):Int),⟨(nm "begins",v)::(sN n hp).loc,hp⟩):=aM (e_var (ab (by decide) aa)) ao (gx (j:=26) rfl (by decide) (by decide));have f:ev F (.item (.var (nm "begins")) (.bin .mod (.bin .fdiv (.var (nm "which")) (.int 26)) (.int 10))) ⟨(nm "begins",.tup ([119808,119860,119912,120016,120172,120224,120276,120328,120380,120432].map λc:Nat=>.int (c:Int)))::(sN n hp).loc,hp⟩=some (.int (([119808,119860,119912,120016,120172,120224,120276,120328,120380,120432].getD (n/8/26%10) 0:Nat):Int),⟨(nm "begins",.tup ([119808,119860,119912,120016,120172,120224,120276,120328,120380,120432].map λc:Nat=>.int (c:Int)))::(sN n hp).loc,hp⟩):=dP (λc:Nat=>.int (c:Int)) 0 (e_var aa) (aM (aM (e_var (ab (by decide) aa)) ao (nv (j:=26) rfl (zB (Nat.div_le_self ..) (zB d (by decide))) (by decide) (by decide))) ao (gx (j:=10) rfl (by decide) (by decide))) (zt _ (by decide)) (by decide) rfl;exact .miss rfl (.miss rfl (.miss rfl (.hit rfl ((aD (v:=.tup ([119808,119860,119912,120016,120172,120224,120276,120328,120380,120432].map λc:Nat=>.int (c:Int))) rfl).trans (rR (co (mA (BY f b (fk2 a (zt (n/8) (by decide:0<26)))) (fk2 a (zt (n/8) (by decide:0<26)))) (mA (rW (j:=97) rfl b (fk1 (zt (n/8) (by decide:0<26)))) (fk1 (zt (n/8) (by decide:0<26))))))))))
theorem kb4:At F (B2.drop 1) n hp 4:=by
 have a:∀{u v:V},ev F (.bin .mod (.var (nm "which")) (.int 8)) ⟨(nm "stood_for",u)::(nm "signs",v)::(sN n hp).loc,hp⟩=some (.int ((n/8%8:Nat):Int),⟨(nm "stood_for",u)::(nm "signs",v)::(sN n hp).loc,hp⟩):=aM (e_var (ab (by decide) (ab (by decide) aa))) ao (gx (j:=8) rfl (by decide) (by decide));exact .miss rfl (.miss rfl (.miss rfl (.miss rfl (.hit rfl ((aD (v:=.tup ([64259,890,223,13255,64262,8481,8119,8360].map λc:Nat=>.str (toS [c]))) rfl).trans ((aD (v:=.tup ([[102,102,105],[32,953],[115,115],[99,111,46],[115,116],[116,101,108],[945,834,953],[114,115]].map λs:List Nat=>.str (toS s))) rfl).trans (rR (co
  (dP (λc:Nat=>.str (toS [c])) 0 (e_var (ab (by decide) aa)) a (zt _ (by decide)) (by decide) rfl) (dP (λs:List Nat=>.str (toS s)) [] (e_var aa) a (zt _ (by decide)) (by decide) rfl)))))))))
theorem kb5:At F (B2.drop 1) n hp 5:=by
 have e:n/8%27<27:=zt _ (by decide);have f:∀{v:V},ev F (.bin .mod (.var (nm "which")) (.int 27)) ⟨(nm "lone",v)::(sN n hp).loc,hp⟩=some (.int ((n/8%27:Nat):Int),⟨(nm "lone",v)::(sN n hp).loc,hp⟩):=aM (e_var (ab (by decide) aa)) ao (gx (j:=27) rfl (by decide) (by decide));have d:∀{v:V},evT F (.cmp .Lt (.bin .mod (.var (nm "which")) (.int 27)) (.int 11)) ⟨(nm "lone",v)::(sN n hp).loc,hp⟩=some (decide (n/8%27<11),⟨(nm "lone",v)::(sN n hp).loc,hp⟩):=t_cmp f ao (congrArg some (decide_eq_decide.mpr jh));refine .miss rfl (.miss rfl (.miss rfl (.miss rfl (.miss rfl (.hit (loc:=(nm "lone",.tup ([173,847,6150,6155,6156,6157,8203,8204,8205,8288,65279].map λc:Nat=>.int (c:Int)))::(sN n hp).loc) rfl ((aD (v:=.tup ([173,847,6150,6155,6156,6157,8203,8204,8205,8288,65279].map λc:Nat=>.int (c:Int))) rfl).trans ?_))))));by_cases a:n/8%27<11
 ·have g:=bd11 _ a;unfold lD;rw[if_pos a];rw[decide_eq_true a]at d;exact dh d (rR (co (mA (dP (λc:Nat=>.int (c:Int)) 0 (e_var aa) f a (by decide) rfl) (zu g (by decide))) (b:=[]) bL)) (by simp)
 ·unfold lD;rw[if_neg a];rw[decide_eq_false a]at d;exact(aR d).trans (rR (co (mA (rW (j:=65013) rfl f (fk1 e)) (by lia)) (b:=[]) bL))
theorem kb6:At F (B2.drop 1) n hp 6:=by
 have a:ev F (.item (.str (⟨#[59,44,46]⟩:Str)) (.bin .mod (.var (nm "which")) (.int 3))) (sN n hp)=some (.str (toS [[59,44,46].getD (n/8%3) 0]),sN n hp):=CM (l:=[59,44,46]) bL (wmod (j:=3) rfl (by decide) (by decide)) (zt _ (by decide)) (by decide);exact .miss rfl (.miss rfl (.miss rfl (.miss rfl (.miss rfl (.miss rfl (.hit rfl (rR (co a a))))))))
theorem kb7:At F (B2.drop 1) n hp 7:=.miss rfl (.miss rfl (.miss rfl (.miss rfl (.miss rfl (.miss rfl (.miss rfl λ_=>⟨_,cJ (sT (oh (co (a:=[32]) (b:=[32]) bL bL) (co (sR (j:=65) (m:=26) rfl rfl (by decide) (by decide)) (sR (j:=97) (m:=26) rfl rfl (by decide) (by decide)))) (show 2<=lid by decide))⟩))))))
end
end
theorem run2{k n:Nat}(a:n<=1000000):run tabNow (k+1) 2 [.int (n:Int)] hp=some (.ref hp.length,hp++[.list ((ch n).map pv)]):=by
 have h:At (run tabNow k) (B2.drop 1) n hp (n%8):=lt8 (P:=λq=>At (run tabNow k) (B2.drop 1) n hp q) (zt _ (by decide)) kb0 kb1 (kb2 a) (kb3 a) kb4 kb5 kb6 kb7;exact(h rfl).elim λloc e=>hO rfl tab2 rfl ((aD (aM (e_var aa) ao (nv (j:=8) rfl (zB a (by decide)) (by decide) (by decide)))).trans e)
section
variable {F:Fs}{st s1 s2 s3 s4:St}{u v w:V}
theorem got{hp:List O}{k:Nat}{o:O}(h:hp[k]?=some o):k<hp.length:=(zh.mp h).1
theorem old{hp:List O}{k:Nat}{o:O}(x:List O)(h:hp[k]?=some o):(hp++x)[k]?=some o:=by
 rw[zU (got h)];exact h
theorem bQ{o:O}:(hp++[o])[hp.length]?=some o:=by simp
theorem on:∀{k:Nat}{vs:List V}{i:Nat}{I:Int}(b:I=(i:Int))(h:st.hp[k]?=some (.list vs))(a:i<vs.length)(c:vs.length<=1000000),dp (.ref k) (.int I) st=some vs[i]:=by
 revert st;exists ce5_,st,k,vs,i,I;intros;subst b;exact bS rfl (bA (bS rfl (bA (bS (oL h) (bS (fY a (zB c (by decide))) (zP a))))))
theorem Bn:∀{k:Nat}{fs:List (Str×V)}{vs:List V}{i:Nat}{I:Int}(b:I=(i:Int))(h:st.hp[k]?=some (.acc fs vs))(a:i<vs.length)(c:vs.length<=1000000),dp (.ref k) (.int I) st=some vs[i]:=by
 revert st;exists dI,st,k,fs,vs,i,I;intros;subst b;exact bS rfl (bA (bS rfl (altR (nLA h) (bS (oA h) (bS (fY a (zB c (by decide))) (zP a))))))
theorem gO{n:Nat}(h:0<n)(a:n<=1000000):bl (-1) n=some (n-1):=by
 unfold bl;rw[bf (by exact zX _) (by exact zX _)];simp
 exact⟨uZ.mpr h,tnp _⟩
theorem kI:∀{k:Nat}{vs:List V}{v:V}(h:st.hp[k]?=some (.list vs))(a:vs.getLast?=some v)(b:vs.length<=1000000),dp (.ref k) (.int (-1)) st=some v:=by
 revert st;exists ce4_,st,k,vs,v;intros;have hp:0<vs.length:=by cases vs with|nil=>cases a|cons _ _=>simp
 exact bS rfl (bA (bS rfl (bA (bS (oL h) (bS (gO hp b) (by rw[<-yi];exact a))))))
theorem AW:∀{l:List Nat}{c:Nat}(a:l.getLast?=some c)(b:l.length<=1000000),dp (.str (toS l)) (.int (-1)) st=some (.str (toS [c])):=by
 revert st;exists ce3_,st,l,c;intros;have hp:0<l.length:=by cases l with|nil=>cases a|cons _ _=>simp
 exact bS rfl (altR rfl (altR rfl (bS rfl (bS ((congrArg (bl _) (dJ l)).trans (gO hp b)) (mX ((tW l _).trans (by rw[<-yi];exact a)))))))
theorem xg{l:List Nat}{c:Nat}(b:l.head?=some c)(d:l.length<=1000000):dp (.str (toS l)) (.int 0) st=some (.str (toS [c])):=by
 cases l with
 | nil=>contradiction
 | cons a r=>
  cases b;have:=AL (l:=c::r) (k:=0) (st:=st) (by simp) (zB d (zH ..));exact this
theorem qD{a b:bj}:dp (.tup [a,b]) (.int 0) st=some (ofA a):=BH (l:=[a,b]) (k:=0) (by simp) (by simp)
theorem tB{a b:bj}:dp (.tup [a,b]) (.int 1) st=some (ofA b):=BH (l:=[a,b]) (k:=1) (by simp) (by simp)
theorem rt{l:List Nat}(a:l.length<=1000000):iE F (nm "len") [.str (toS l)] st=some (.int (l.length:Int),st):=by
 exact bS rfl ((if_pos rfl).trans (bA (bS rfl ((if_pos (by rw[dz];exact a)).trans (by rw[dJ])))))
theorem ms{k:Nat}(h:st.hp[k]?=some (.list vs))(a:vs.length<=1000000):iE F (nm "len") [.ref k] st=some (.int (vs.length:Int),st):=by
 exact bS rfl ((if_pos rfl).trans (altR rfl (bS rfl (bA (bS (oL h) (if_pos a))))))
theorem tL{i j:Int}:fP .Eq (.int i) (.int j) st=some (i==j):=rfl
theorem c_le{i j:Int}:fP .LtE (.int i) (.int j) st=some (decide (i<=j)):=rfl
theorem c_gt{i j:Int}:fP .Gt (.int i) (.int j) st=some (decide (j<i)):=rfl
theorem FO{b:Type}{l:List b}{a:b}(h:l=[a]):dm l=some ⟨a,h⟩:=by subst h;rfl
theorem i_in{c:Nat}{l:List Nat}:inV (.str (toS [c])) (.str (toS l))=some (l.contains c):=bA (bS rfl (bA (bS rfl (mX (FO (fy [c]))))))
theorem c_in{c:Nat}{l:List Nat}:fP .In (.str (toS [c])) (.str (toS l)) st=some (l.contains c):=i_in
theorem oM{c:Nat}{l:List Nat}:fP .NotIn (.str (toS [c])) (.str (toS l)) st=some (!l.contains c):=(show ninV (.str (toS [c])) (.str (toS l))=_ from(if_neg uG).trans (mX i_in))
theorem Ez{a b:List Nat}:eqV (.str (toS a)) (.str (toS b)) st=some (a==b):=by
 refine altR rfl (bA (bS rfl (congrArg some ?_)));by_cases h:a=b
 ·subst h;simp
 ·rw[beq_false_of_ne h];exact beq_false_of_ne (λe=>h (n7.mp e))
theorem xH{a b:List Nat}:fP .Eq (.str (toS a)) (.str (toS b)) st=some (a==b):=Ez
theorem q_eqe:∀{k l:Nat}{vs:List V}(h:st.hp[k]?=some (.list vs))(a:st.hp[l]?=some (.list [])),eqV (.ref k) (.ref l) st=some vs.isEmpty:=by
 revert st;exists ce4_,st,k,l,vs;intro h a;exact altR rfl (altR rfl (altR rfl (bS rfl (bS rfl (bS (oL h) (bS (oL a) rfl))))))
theorem Eg{k l:Nat}(h:st.hp[k]?=some (.list vs))(a:st.hp[l]?=some (.list [])):fP .Eq (.ref k) (.ref l) st=some vs.isEmpty:=q_eqe h a
theorem a_cat{a b:List Nat}(h:a.length+b.length<=1000000):wt (.str (toS a)) (.str (toS b)) st=some (.str (toS (a++b)),st):=by
 rw[<-gZ];exact altR rfl (bA (bS rfl (bS rfl (mX (if_pos (by rw[gZ,dz,zF];exact h))))))
theorem s6{a b:List Nat}(h:a.length+b.length<=1000000):km .add (.str (toS a)) (.str (toS b)) st=some (.str (toS (a++b)),st):=a_cat h
theorem Dl{k l:Nat}{a b:List V}(h:st.hp[k]?=some (.list a))(c:st.hp[l]?=some (.list b))(d:a.length+b.length<=1000000):wt (.ref k) (.ref l) st=some (.ref st.hp.length,⟨st.loc,st.hp++[.list (a++b)]⟩):=altR rfl (altR rfl (bS rfl (bS rfl (bS (oL h) (bS (oL c) (if_pos (by rw[zF];exact d)))))))
theorem ir{k l:Nat}{a b:List V}(h:st.hp[k]?=some (.list a))(c:st.hp[l]?=some (.list b))(d:a.length+b.length<=1000000):km .add (.ref k) (.ref l) st=some (.ref st.hp.length,⟨st.loc,st.hp++[.list (a++b)]⟩):=Dl h c d
theorem qw{k:Nat}(h:st.hp[k]?=some (.list vs))(a:vs.length<1000000):cU F (.ref k) (nm "append") [v] st=some (.none,⟨st.loc,st.hp.set k (.list (vs++[v]))⟩):=by
 exact altR rfl (altR rfl (bS rfl (bA (bS (oL h) ((if_pos rfl).trans (bS rfl (if_pos a)))))))
theorem aG{hp:List O}{k:Nat}{o o':O}(h:hp[k]?=some o):(hp.set k o')[k]?=some o':=List.getElem?_set_self (got h)
theorem aq{hp:List O}{k j:Nat}{o':O}(h:k≠j):(hp.set k o')[j]?=hp[j]?:=List.getElem?_set_ne h
theorem hG(h:vs.length<=1000000):fj vs st=some (.ref st.hp.length,⟨st.loc,st.hp++[.list vs]⟩):=by
 unfold fj;rw[if_pos (show vs.length<=lid from h)];rfl
theorem kT{i j:Nat}:(part vs i j).length<=vs.length:=by
 unfold part;rw[yP,yC];exact zB (jT ..) (yj ..)
theorem vn{k i j:Nat}{r:List V}(h:st.hp[k]?=some (.list vs))(a:vs.length<=1000000)(b:gJ vs.length 0 lo=some i)(c:gJ vs.length vs.length hi=some j)(d:part vs i j=r):fO (.ref k) lo hi st=some (.ref st.hp.length,⟨st.loc,st.hp++[.list r]⟩):=by
 subst d;exact bS rfl (bA (bS (oL h) ((if_pos a).trans (bS b (bS c (hG (zB kT a)))))))
theorem kq{n i:Nat}(h:i<=n):cut n (i:Int)=i:=by unfold cut;rw[if_neg (ua.mpr (zX _))];exact jv h
theorem GI{k:Nat}{i j:Nat}(a:I=(i:Int))(b:J=(j:Int))(h:st.hp[k]?=some (.list vs))(c:i<=vs.length)(d:j<=vs.length)(e:vs.length<=1000000):
 fO (.ref k) (.int I) (.int J) st=some (.ref st.hp.length,⟨st.loc,st.hp++[.list ((vs.drop i).take (j-i))]⟩):=by
 subst a b;exact vn h e (congrArg some (kq c)) (congrArg some (kq d)) rfl
theorem vk{k:Nat}{i:Nat}(a:I=(i:Int))(h:st.hp[k]?=some (.list vs))(b:i<=vs.length)(c:vs.length<=1000000):
 fO (.ref k) (.int I) .none st=some (.ref st.hp.length,⟨st.loc,st.hp++[.list (vs.drop i)]⟩):=by
 subst a;exact vn h c (congrArg some (kq b)) rfl (yX (by rw[yC];exact zY _))
theorem Cr{k:Nat}{j:Nat}(a:J=(j:Int))(h:st.hp[k]?=some (.list vs))(b:vs.length<=1000000):
 fO (.ref k) .none (.int J) st=some (.ref st.hp.length,⟨st.loc,st.hp++[.list (vs.take j)]⟩):=by
 subst a;have c2:cut vs.length (j:Int)=min j vs.length:=by unfold cut;rw[if_neg (ua.mpr (zX _))];rfl
 exact vn h b rfl (congrArg some c2) ((List.take_eq_take_iff).mpr (by rw[Nat.sub_zero,List.drop_zero,Nat.min_assoc,Nat.min_self]))
theorem xQ{k:Nat}(h:st.hp[k]?=some (.list vs))(a:vs.length<=1000000):
 fO (.ref k) .none (.int (-1)) st=some (.ref st.hp.length,⟨st.loc,st.hp++[.list vs.dropLast]⟩):=by
 have c2:cut vs.length (-1)=vs.length-1:=by unfold cut;rw[if_pos (by exact zX _)];exact tnp _
 exact vn h a rfl (congrArg some c2) (List.dropLast_eq_take.symm)
end
noncomputable def ag:List P->List (List P)
 | []=>[]
 | [p]=>[[p]]
 | p::q::r=>if isW q.1 && !isW p.1 then[p]::ag (q::r)else match ag (q::r)with
  | c::cs=>(p::c)::cs
  | []=>[[p]]
noncomputable def off(C:List (List P))(i:Nat):Nat:=((C.take i).flatten).length
noncomputable def seg(C:List (List P))(a b:Nat):List P:=((C.take b).drop a).flatten
noncomputable def sg(ps:List P)(i:Nat):Nat:=(ps.getD i (0,[])).1
noncomputable def mng(l:List P):List Nat:=l.flatMap (·.2)
noncomputable def hit(C:List (List P))(c k:Nat):Bool:=c==sg C.flatten (off C k-1)||c==sg C.flatten (off C k)
noncomputable def ei(C:List (List P))(spl:List Nat)(a j:Nat):Option Nat:=spl.findSome? λc=>((yy (a+1) (j-a)).reverse).find? (hit C c)
structure RS where
 rows:List (List Nat)
 lead:List Nat
 first:Nat
 room:Nat
noncomputable def eu(C:List (List P))(spl:List Nat)(a:Nat)(s:RS)(j:Nat):RS:=
 if s.room+s.lead.length+off C (j+1)<=a+off C s.first then s else
 match ei C spl s.first j with
 | some k=>⟨s.rows++[s.lead++mng (seg C s.first k)],[],k,0⟩
 | none=>if s.room=0 then s else⟨s.rows++[s.lead++mng (seg C s.first j)],if isW (sg C.flatten (off C j))then[]else[32],j,0⟩
noncomputable def stC(C:List (List P))(spl:List Nat)(room a j:Nat):RS:=(yS j).foldl (eu C spl a) ⟨[],[],0,room⟩
noncomputable def bz(c:Nat):Bool:=c==32||c==9||c==160
noncomputable def ay(C:List (List P))(s:RS):List P:=
 let rest:=C.flatten.drop (off C s.first)
 if sg C.flatten (C.flatten.length-1)=32/\off C (C.length-1)=C.flatten.length-1 then rest.dropLast else rest
noncomputable def sx(C:List (List P))(s:RS):List (List Nat):=
 if(ay C s).all λp=>bz p.1 then s.rows.dropLast++[s.rows.getLast?.getD []++(s.lead++mng (ay C s))]else s.rows++[s.lead++mng (ay C s)]
noncomputable def rowsOf(C:List (List P))(spl:List Nat)(room a:Nat):List (List Nat):=sx C (stC C spl room a C.length)
set_option tactic.hygienic true in
theorem cD:∀ps:List P,(ag ps).flatten=ps
 | []=>rfl
 | [p]=>rfl
 | p::q::r=>by
  have ih:=cD (q::r);rw[ag];split
  ·refine yd.trans ?_;rw[ih];rfl
  ·split
   ·rename_i c cs e;rw[e]at ih;rw[yd]at ih⊢;refine je.trans ?_;rw[ih]
   ·rename_i e;rw[e]at ih;cases ih
theorem fM:∀(p:P)(r:List P),∃c cs,ag (p::r)=(p::c)::cs:=by
 exists ce2_,p,r
 match r with
 | []=>exact⟨[],[],rfl⟩
 | q::r=>
  rw[ag];split
  ·exact⟨[],_,rfl⟩
  ·split
   ·exact⟨_,_,rfl⟩
   ·exact⟨[],[],rfl⟩
set_option tactic.hygienic true in
theorem dD:∀(ps:List P),∀c∈ag ps,c≠[]
 | [],c,h=>by cases h
 | [p],c,h=>by simp[ag]at h;simp[h]
 | p::q::r,c,h=>by
  have ih:=dD (q::r);rw[ag]at h;split at h
  ·rcases zM.mp h with rfl|h
   ·simp
   ·exact ih c h
  ·split at h
   ·rename_i d cs e;rcases zM.mp h with rfl|h
    ·simp
    ·exact ih c (by rw[e];exact zy _ h)
   ·simp at h;simp[h]
noncomputable def nK(a:Option Nat)(p:Nat):Bool:=match a with
 | none=>true
 | some q=>isW p && !isW q
noncomputable def bg:Option Nat->Nat->List P->List Nat
 | _,_,[]=>[]
 | prev,a,p::r=>(if nK prev p.1 then[a]else[])++bg (some p.1) (a+1) r
noncomputable def iD:Nat->List (List P)->List Nat
 | _,[]=>[]
 | a,c::cs=>a::iD (a+c.length) cs
theorem m5:∀(r:List P)(p:P)(a:Nat),iD a (ag (p::r))=a::bg (some p.1) (a+1) r
 | [],p,a=>rfl
 | q::r,p,a=>by
  have b:=m5 r q (a+1);rw[ag,bg];unfold nK;split
  ·rw[iD,yV,b];rfl
  ·refine dk (fM q r) λc cs e=>?_;rw[e]at b⊢;dsimp only;rw[iD]at b⊢;rw[jN];injection b with _ b
   rw[zL (as:=q::c),<-b];congr 2;simp +arith
theorem lj:∀(C:List (List P))(a:Nat),iD a C=(yS C.length).map λi=>a+off C i
 | [],_=>rfl
 | c::cs,a=>by
  rw[iD,lj cs,zL,List.range_succ_eq_map,zV,List.map_map];congr 1;apply List.map_congr_left;intro i _;simp[off]
  exact jk ..
theorem GO(ps:List P):bg none 0 ps=(yS (ag ps).length).map (off (ag ps)):=by
 cases ps with
 | nil=>rfl
 | cons p r=>
  have h:=m5 r p 0;rw[lj,ym]at h;rw[bg,if_pos (show nK none p.1=true from rfl),ym];refine(show([0]:List Nat)++bg (some p.1) 1 r=0::bg (some p.1) 1 r from rfl).trans ?_;refine(h).symm.trans ?_;apply List.map_congr_left;intro i _;exact ym _
theorem Cg:∀(l:List P)(b:Option Nat)(a:Nat)(x:P),bg b a (l++[x])=bg b a l++(if nK (match l.getLast? with|some q=>some q.1|none=>b) x.1 then[a+l.length]else[])
 | [],b,a,x=>by simp[bg];rfl
 | p::r,b,a,x=>by
  rw[je,bg,Cg r (some p.1) (a+1) x,bg,yG];congr 2;have e:(match r.getLast? with|some q=>some q.1|none=>some p.1)=(match(p::r).getLast? with|some q=>some q.1|none=>b):=by
   cases h:r.getLast? with
   | none=>
    rw[yH]at h;subst h;rfl
   | some q=>rw[List.getLast?_cons,h];rfl
  rw[e,zL,show a+1+r.length=a+(r.length+1) by exact Nat.add_right_comm ..]
theorem sO{ps:List P}{i:Nat}(h:i<ps.length):sg ps i=ps[i].1:=by simp[sg,uj,h]
theorem oe:∀{ps:List P}{i:Nat}(h:i<ps.length),bg none 0 (ps.take (i+1))=bg none 0 (ps.take i)++(if i=0\/(isW (sg ps i)=true/\isW (sg ps (i-1))=false)then[i]else[]):=by
 exists ce2_,ps,i;intro h;rw[yn h,Cg,yP,jv (zg h),ym];congr 1;by_cases a:i=0
 ·subst a;simp[nK]
 ·have d:(ps.take i).getLast?=some ps[i-1]:=by
   rw[yi,yP,jv (by exact zg h),vE (by exact Nat.sub_one_lt a),zP]
  rw[d,sO h,sO (show i-1<ps.length by exact Nat.sub_lt_of_lt h)];simp only[nK,a,false_or];rcases Bool.eq_false_or_eq_true (isW ps[i].1)with b|b<;>rcases Bool.eq_false_or_eq_true (isW ps[i-1].1)with c|c<;>simp[b,c]
theorem BN(C:List (List P)):off C 0=0:=by simp[off]
theorem gX(C:List (List P)):off C C.length=C.flatten.length:=by simp[off]
theorem kZ{i:Nat}(h:i<C.length):off C (i+1)=off C i+C[i].length:=by
 unfold off;rw[yn h,jx,zF];simp
theorem fv{a:Nat}:∀{b:Nat},a<=b->off C a<=off C b
 | 0,h=>by rw[Nat.le_zero.mp h];exact zY _
 | b+1,h=>by
  rcases Nat.lt_or_ge b a with q|q
  ·rw[show a=b+1 by exact yE h q];exact zY _
  ·refine zB (fv q) ?_;unfold off;rcases Nat.lt_or_ge b C.length with k|k
   ·rw[yn k,jx,zF];exact zW _ _
   ·rw[yX k,yX (yo k)];exact zY _
theorem eK(C:List (List P))(i:Nat):off C i<=C.flatten.length:=by
 rcases Nat.lt_or_ge i C.length with h|h
 ·rw[<-gX];exact fv (zg h)
 ·unfold off;rw[yX h];exact zY _
theorem mo(C:List (List P))(a:Nat):C.flatten.drop (off C a)=(C.drop a).flatten:=by
 have e:C.flatten=(C.take a).flatten++(C.drop a).flatten:=by rw[<-jx,jc]
 have:=congrArg (List.drop (off C a)) e;rw[this];unfold off;rw[List.drop_left]
theorem pS(C:List (List P))(b:Nat):C.flatten.take (off C b)=(C.take b).flatten:=by
 have e:C.flatten=(C.take b).flatten++(C.drop b).flatten:=by rw[<-jx,jc]
 have:=congrArg (List.take (off C b)) e;rw[this];unfold off;rw[List.take_left]
theorem gf{a b:Nat}(h:a<=b):(C.flatten.drop (off C a)).take (off C b-off C a)=seg C a b:=by
 rw[<-List.drop_take,pS];unfold seg;have e:=mo (C.take b) a;have:off (C.take b) a=off C a:=by unfold off;rw[List.take_take,jv h]
 rw[this]at e;exact e
theorem om(a:∀c∈C,c≠[]){i:Nat}(h:i<C.length):off C i<C.flatten.length:=by
 have b:=kZ h;have d:=jE.mpr (a C[i] (yZ h));have e:=eK C (i+1);exact fk3 (eqg b) d e
theorem tX(d:∀c∈C,c≠[]){i:Nat}(h:i<=C.length)(e:0<i):0<off C i:=by
 have f:=kZ (C:=C) (i:=0) (zR e h);have g:=jE.mpr (d C[0] (yZ (zR e h)));have j:=fv (C:=C) (a:=1) (b:=i) (e);rw[ym]at f;exact fk3 (eqg f) g j
theorem oz(c:Nat):([32,9]:List Nat).contains c=isW c:=by
 simp only[ub,List.contains_nil,vF];rfl
noncomputable def iV(n:Nat):V:=.int (n:Int)
theorem iG{n:Nat}(a:I=(n:Int))(h:n<=100000):iM [.int I]=some (aX n 0 1):=by
 subst a;exact bA (bS rfl (bS rfl (if_pos (by rw[bf (zX _) (by lia)];exact decide_eq_true (uZ.mpr h)))))
theorem wA{a n:Nat}(b:I=(a:Int))(c:J=((a+n:Nat):Int))(h:a+n<=100000):iM [.int I,.int J]=some (aX n (a:Int) 1):=by
 subst b c;refine altR rfl (bA (bS rfl (bS rfl (bS rfl ((if_pos (by rw[bf (zX _) (by lia),bf (zX _) (by lia)];exact decide_eq_true (by lia))).trans ?_)))));congr 2;simp +arith
structure lF (s:St) (hp0:List O) (p:Nat) (ps:List P) (spl:List Nat) (width:Nat):Prop where
 pairs:s.loc.lookup (nm "pairs")=some (.ref p)
 width:s.loc.lookup (nm "width")=some (iV width)
 spl:s.loc.lookup (nm "splitters")=some (.str (toS spl))
 lt:p<hp0.length
 obj:s.hp[p]?=some (.list (ps.map pv))
 frame:∀k,k<hp0.length->s.hp[k]?=hp0[k]?
 len:hp0.length<=s.hp.length
namespace lF
variable {s:St}{hp0:List O}{p:Nat}{ps:List P}{spl:List Nat}{wd:Nat}
theorem put(e:lF s hp0 p ps spl wd){a:String}{v:V}(b:("pairs"==a)=false)(c:("width"==a)=false)(d:("splitters"==a)=false):lF ⟨(nm a,v)::s.loc,s.hp⟩ hp0 p ps spl wd:=
 ⟨ab b e.pairs,ab c e.width,ab d e.spl,e.lt,e.obj,e.frame,e.len⟩
theorem app(e:lF s hp0 p ps spl wd)(x:List O):lF ⟨s.loc,s.hp++x⟩ hp0 p ps spl wd:=
 ⟨e.pairs,e.width,e.spl,e.lt,old x e.obj,λk h=>by show(s.hp++x)[k]?=_;rw[zU (zR h e.len)];exact e.frame k h,by show _<=(s.hp++x).length;rw[zF];exact zB e.len (zW _ _)⟩
theorem set(e:lF s hp0 p ps spl wd){k:Nat}{o:O}(a:hp0.length<=k):lF ⟨s.loc,s.hp.set k o⟩ hp0 p ps spl wd:=
 ⟨e.pairs,e.width,e.spl,e.lt,by show(s.hp.set k o)[p]?=_;rw[aq (by have:=e.lt;exact yF (zR this a))];exact e.obj,λj h=>by show(s.hp.set k o)[j]?=_;rw[aq (yF (zR h a))];exact e.frame j h,by show _<=(s.hp.set k o).length;rw[List.length_set];exact e.len⟩
end lF
section
variable {F:Fs}{st s1:St}{p:Nat}{ps:List P}{i:Nat}
theorem lH(b:ev F ke st=some (.int (i:Int),s1))(hp:st.loc.lookup (nm "pairs")=some (.ref p))(c:s1.hp[p]?=some (.list (ps.map pv)))(a:i<ps.length)(d:ps.length<=1000000):
 ev F (.item (.item (.var (nm "pairs")) ke) (.int 0)) st=some (.str (toS [sg ps i]),s1):=by
 refine bh (bh (e_var hp) b (on rfl c (by rw[zC];exact a) (by rw[zC];exact d))) ao ?_;rw[List.getElem_map,sO a];exact qD
theorem sH:∀{hp0:List O}{spl:List Nat}{wd b:Nat}{r:List S}(g:ps.length<=1000)(z:lF st hp0 p ps spl wd)(A:hp0.length<=b)(I:st.loc.lookup (nm "begins")=some (.ref b))(hB:st.hp[b]?=some (.list [])),
 ∃s',lF s' hp0 p ps spl wd/\s'.loc.lookup (nm "begins")=some (.ref b)/\s'.loc.lookup (nm "room")=st.loc.lookup (nm "room")/\s'.hp[b]?=some (.list ((bg none 0 ps).map iV))/\
  exs F (.forR (nm "k") [.blt (nm "len") [.var (nm "pairs")]] [.ite (.or (.cmp .Eq (.var (nm "k")) (.int 0)) (.and (.cmp .In (.item (.item (.var (nm "pairs")) (.var (nm "k"))) (.int 0)) (.str (⟨#[32,9]⟩:Str))) (.cmp .NotIn (.item (.item (.var (nm "pairs")) (.bin .sub (.var (nm "k")) (.int 1))) (.int 0)) (.str (⟨#[32,9]⟩:Str))))) [.expr (.meth (.var (nm "begins")) (nm "append") [.var (nm "k")])] []] []::r) st=exs F r s':=by
 revert F st p ps;exists cc,F,st,p,ps,hp0,spl,wd,b,r;intros;have B:∀i,(bg none 0 (ps.take i)).length<=i:=λi=>by
  induction i with
  | zero=>simp[bg]
  | succ i D=>
   rcases Nat.lt_or_ge i ps.length with h|h
   ·rw[oe h,zF];split<;>simp<;>lia
   ·rw[yX (by lia)]at D⊢;exact yo D
 obtain⟨s',⟨m,E,J,G⟩,K⟩:=im (F:=F) (x:=nm "k") (o:=[]) (b:=[.ite (.or (.cmp .Eq (.var (nm "k")) (.int 0)) (.and (.cmp .In (.item (.item (.var (nm "pairs")) (.var (nm "k"))) (.int 0)) (.str (⟨#[32,9]⟩:Str))) (.cmp .NotIn (.item (.item (.var (nm "pairs")) (.bin .sub (.var (nm "k")) (.int 1))) (.int 0)) (.str (⟨#[32,9]⟩:Str))))) [.expr (.meth (.var (nm "begins")) (nm "append") [.var (nm "k")])] []])
  (args:=[.blt (nm "len") [.var (nm "pairs")]]) (st:=st) (st1:=st) (vs:=[.int (ps.length:Int)]) (n:=ps.length) (a:=0)
  (gp (bR (e_var z.pairs) ((ms z.obj (by rw[zC];exact zB g (zH ..))).trans (by rw[zC])))) (iG rfl (zB g (zH ..)))
  (λi s=>lF s hp0 p ps spl wd/\s.loc.lookup (nm "begins")=some (.ref b)/\s.loc.lookup (nm "room")=st.loc.lookup (nm "room")/\s.hp[b]?=some (.list ((bg none 0 (ps.take i)).map iV)))
  ⟨z,I,rfl,hB⟩ (λi j s e=>wZ e λL C H k=>by
   have M:(⟨(nm "k",.int (0+(i:Int)))::s.loc,s.hp⟩:St)=⟨(nm "k",.int (i:Int))::s.loc,s.hp⟩:=by rw[Int.zero_add]
   show ∃s',(exs F _ ⟨(nm "k",.int (0+(i:Int)))::s.loc,s.hp⟩=_\/exs F _ ⟨(nm "k",.int (0+(i:Int)))::s.loc,s.hp⟩=_)/\_
   rw[M];have q:ev F (.var (nm "k")) ⟨(nm "k",.int (i:Int))::s.loc,s.hp⟩=some (.int (i:Int),_):=e_var aa;have f:=L.put (a:="k") (v:=.int (i:Int)) (by decide) (by decide) (by decide);have t:evT F (.cmp .Eq (.var (nm "k")) (.int 0)) ⟨(nm "k",.int (i:Int))::s.loc,s.hp⟩=some (decide (i=0),⟨(nm "k",.int (i:Int))::s.loc,s.hp⟩):=by
    refine t_cmp q ao ?_;refine tL.trans ?_;congr 1;by_cases d:i=0
    ·subst d;rfl
    ·rw[decide_eq_false d];exact beq_false_of_ne (Int.ne_of_gt (jh.mpr (jQ d)))
   have u:evT F (.or (.cmp .Eq (.var (nm "k")) (.int 0)) (.and (.cmp .In (.item (.item (.var (nm "pairs")) (.var (nm "k"))) (.int 0)) (.str (⟨#[32,9]⟩:Str))) (.cmp .NotIn (.item (.item (.var (nm "pairs")) (.bin .sub (.var (nm "k")) (.int 1))) (.int 0)) (.str (⟨#[32,9]⟩:Str))))) ⟨(nm "k",.int (i:Int))::s.loc,s.hp⟩=
    some (decide (i=0\/(isW (sg ps i)=true/\isW (sg ps (i-1))=false)),⟨(nm "k",.int (i:Int))::s.loc,s.hp⟩):=by
    by_cases d:i=0
    ·rw[decide_eq_true (.inl d)];rw[decide_eq_true d]at t;exact t_ort t
    ·rw[decide_eq_false d]at t;have w:evT F (.cmp .In (.item (.item (.var (nm "pairs")) (.var (nm "k"))) (.int 0)) (.str (⟨#[32,9]⟩:Str))) ⟨(nm "k",.int (i:Int))::s.loc,s.hp⟩=some (isW (sg ps i),⟨(nm "k",.int (i:Int))::s.loc,s.hp⟩):=by
      refine t_cmp (lH q f.pairs f.obj j (zB g (zH ..))) bL ?_;have:=c_in (st:=⟨(nm "k",.int (i:Int))::s.loc,s.hp⟩) (c:=sg ps i) (l:=[32,9]);rw[oz]at this;exact this
     have N:evT F (.cmp .NotIn (.item (.item (.var (nm "pairs")) (.bin .sub (.var (nm "k")) (.int 1))) (.int 0)) (.str (⟨#[32,9]⟩:Str))) ⟨(nm "k",.int (i:Int))::s.loc,s.hp⟩=some (!isW (sg ps (i-1)),⟨(nm "k",.int (i:Int))::s.loc,s.hp⟩):=by
      refine t_cmp (lH (i:=i-1) (aM q ao (by rw[mW (by lia) (by lia),show((i:Int)-1)=((i-1:Nat):Int) by exact(Int.ofNat_sub (jQ d)).symm])) f.pairs f.obj (Nat.sub_lt_of_lt j) (zB g (zH ..))) bL ?_;have:=oM (st:=⟨(nm "k",.int (i:Int))::s.loc,s.hp⟩) (c:=sg ps (i-1)) (l:=[32,9]);rw[oz]at this;exact this
     refine t_orf t ?_;cases m:isW (sg ps i)with
     | false=>
      rw[m]at w;rw[decide_eq_false (by simp[d])];exact iP w
     | true=>
      rw[m]at w;have:=dZ w N;refine this.trans ?_;cases E:isW (sg ps (i-1))with
      | true=>rw[decide_eq_false (by simp[d])];rfl
      | false=>rw[decide_eq_true (by simp)];rfl
   by_cases y:i=0\/(isW (sg ps i)=true/\isW (sg ps (i-1))=false)
   ·rw[decide_eq_true y]at u;refine⟨⟨(nm "k",.int (i:Int))::s.loc,s.hp.set b (.list ((bg none 0 (ps.take i)).map iV++[.int (i:Int)]))⟩,.inl ?_,f.set A,ab (by decide) C,by rw[<-H];rfl,?_⟩
    ·rw[bI u (s2:=⟨(nm "k",.int (i:Int))::s.loc,s.hp.set b (.list ((bg none 0 (ps.take i)).map iV++[.int (i:Int)]))⟩) ?_,am];refine(bJ (bU (e_var (ab (by decide) C)) q (mo_app k) (mo_app k) (qw k (by rw[zC];have:=B i;exact fk3 g j this)))).trans ?_;exact am
    ·show(s.hp.set b _)[b]?=_
     refine(aG k).trans ?_;rw[oe j,if_pos y,zx];rfl
   ·rw[decide_eq_false y]at u;refine⟨⟨(nm "k",.int (i:Int))::s.loc,s.hp⟩,.inl ?_,f,ab (by decide) C,by rw[<-H];rfl,?_⟩
    ·refine(aR u).trans ?_;exact am
    ·rw[oe j,if_neg y,zo];exact k)
 rw[uw]at G;exact⟨s',m,E,J,G,aQ (K.trans am)⟩
end
noncomputable def Kept(xs:List Str)(a b:List (Str×V)):Prop:=∀x,x∉xs->b.lookup x=a.lookup x
theorem Kept.refl{xs:List Str}{a:List (Str×V)}:Kept xs a a:=λ_ _=>rfl
theorem Kept.trans{xs:List Str}{a b c:List (Str×V)}(h:Kept xs a b)(e:Kept xs b c):Kept xs a c:=λx d=>(e x d).trans (h x d)
theorem Kept.put{xs:List Str}{a b:List (Str×V)}(h:Kept xs a b){x:Str}{v:V}(d:x∈xs):Kept xs a ((x,v)::b):=λy c=>by
 rw[zZ,beq_false_of_ne (λe=>c (by rw[e];exact d))];exact h y c
theorem Kept.mono{xs ys:List Str}{a b:List (Str×V)}(h:Kept xs a b)(c:∀x∈xs,x∈ys):Kept ys a b:=λx d=>h x (λm=>d (c x m))
theorem AX{x:String}{xs:List String}(h:xs.contains x=false):nm x∉xs.map nm:=by
 intro m;obtain⟨y,a,e⟩:=zv.mp m;have e:=rB e;subst e;rw[un.mpr a]at h;exact Bool.noConfusion h
theorem Kept.at{xs:List String}{a b:List (Str×V)}(h:Kept (xs.map nm) a b)(x:String)(c:xs.contains x=false):b.lookup (nm x)=a.lookup (nm x):=h _ (AX c)
noncomputable def rk(C:List (List P))(spl:List Nat)(k r:Nat):List (Nat×Nat):=((yS r).filter λi=>hit C (spl.getD i 0) k).map λi=>(i,k)
noncomputable def rks(C:List (List P))(spl:List Nat)(a m:Nat):List (Nat×Nat):=(yy (a+1) m).flatMap λk=>rk C spl k spl.length
noncomputable def rv(p:Nat×Nat):V:=.tup [.int (p.1:Int),.int (-(p.2:Int))]
theorem sW(C:List (List P))(spl:List Nat)(k r:Nat):rk C spl k (r+1)=rk C spl k r++(if hit C (spl.getD r 0) k=true then[(r,k)]else[]):=by
 unfold rk;rw[List.range_succ,List.filter_append,zx];congr 1;by_cases h:hit C (spl.getD r 0) k=true
 ·rw[if_pos h];simp only[List.filter,h,List.map]
 ·rw[if_neg h];simp only[List.filter,Bool.not_eq_true _▸h,List.map]
theorem Ch(C:List (List P))(spl:List Nat)(k r:Nat):(rk C spl k r).length<=r:=by
 unfold rk;rw[zC];exact zB (List.length_filter_le ..) (by simp)
theorem ql(C:List (List P))(spl:List Nat)(a m:Nat):rks C spl a (m+1)=rks C spl a m++rk C spl (a+1+m) spl.length:=by
 unfold rks;rw[List.range'_concat,jF];simp
theorem DX(C:List (List P))(spl:List Nat)(a m:Nat):(rks C spl a m).length<=m*spl.length:=by
 induction m with
 | zero=>simp[rks]
 | succ m b=>
  rw[ql,zF,Nat.succ_mul];have:=Ch C spl (a+1+m) spl.length;exact jY b this
structure Cx (loc:List (Str×V)) (hp:List O) (p b:Nat) (C:List (List P)) (spl:List Nat):Prop where
 pairs:loc.lookup (nm "pairs")=some (.ref p)
 begins:loc.lookup (nm "begins")=some (.ref b)
 spl:loc.lookup (nm "splitters")=some (.str (toS spl))
 objp:hp[p]?=some (.list (C.flatten.map pv))
 objb:hp[b]?=some (.list ((yS C.length).map λi=>iV (off C i)))
theorem Cx.kept{loc loc':List (Str×V)}{hp a:List O}{p b:Nat}{C:List (List P)}{spl:List Nat}(c:Cx loc hp p b C spl){xs:List String}(h:Kept (xs.map nm) loc loc')(f:xs.contains "pairs"=false)(g:xs.contains "begins"=false)(i:xs.contains "splitters"=false)
 (d:a[p]?=hp[p]?) (e:a[b]?=hp[b]?):Cx loc' a p b C spl:=
 ⟨(h.at _ f).trans c.pairs,(h.at _ g).trans c.begins,(h.at _ i).trans c.spl,d.trans c.objp,e.trans c.objb⟩
section
variable {F:Fs}{st s1 s2:St}{p b q:Nat}{C:List (List P)}{spl:List Nat}{i k:Nat}
theorem nG(a:ev F ke st=some (.int (i:Int),s1))(hp:st.loc.lookup (nm "begins")=some (.ref b))(c:s1.hp[b]?=some (.list ((yS C.length).map λi=>iV (off C i))))(d:i<C.length)(e:C.length<=1000000):
 ev F (.item (.var (nm "begins")) ke) st=some (.int (off C i:Int),s1):=by
 refine bh (e_var hp) a ?_;refine(on rfl c (by simpa using d) (by simpa using e)).trans ?_;simp[iV]
theorem Fo{a c:X}{x y:Str}(d:ev F a st=some (.str x,s1))(e:ev F c s1=some (.str y,s2)):ev F (.tup [a,c]) st=some (.tup [.str x,.str y],s2):=by
 exact e_tup (oh d e) rfl
theorem xd{c x y:Nat}:fP .In (.str (toS [c])) (.tup [.str (toS [x]),.str (toS [y])]) st=some (c==x||c==y):=by
 have e:∀a b:Nat,((bj.str (toS [a]):bj)==.str (toS [b]))=(a==b):=λa b=>by
  by_cases h:a=b
  ·subst h;simp
  ·rw[beq_false_of_ne h,beq_false_of_ne (λe=>h (by injection e with e;have:=n7.mp e;simpa using this))]
 show inV (.str (toS [c])) (.tup [.str (toS [x]),.str (toS [y])])=_
 refine bA (bS rfl (altR rfl (congrArg some ?_)));simp only[ub,List.contains_nil,vF,e]
theorem kK{hp:List O}{k:Nat}{o:O}(h:hp[k]?=some o):hp.set k o=hp:=by
 apply uq;intro j;by_cases e:k=j
 ·subst e;rw[aG h,h]
 ·rw[aq e]
noncomputable def qQ:List S:=[.ite (.cmp .In (.item (.var (nm "splitters")) (.var (nm "rank"))) (.tup [.item (.item (.var (nm "pairs")) (.bin .sub (.item (.var (nm "begins")) (.var (nm "k"))) (.int 1))) (.int 0),.item (.item (.var (nm "pairs")) (.item (.var (nm "begins")) (.var (nm "k")))) (.int 0)])) [.expr (.meth (.var (nm "ranks")) (nm "append") [.tup [.var (nm "rank"),.neg (.var (nm "k"))]])] []]
theorem wS:∀{acc:List (Nat×Nat)}{r:List S}(g:∀c∈C,c≠[])(G:C.flatten.length<=1000)(y:C.length<=1000)(d:spl.length<=100)(j:acc.length<=500000)(c0:Cx st.loc st.hp p b C spl)(O:st.loc.lookup (nm "k")=some (.int (k:Int)))(e:k<C.length)(hk0:0<k)(Q:st.loc.lookup (nm "ranks")=some (.ref q))(H:st.hp[q]?=some (.list (acc.map rv)))(z:q≠p)(A:q≠b),
 ∃s',s'.hp=st.hp.set q (.list ((acc++rk C spl k spl.length).map rv))/\Kept (["rank"].map nm) st.loc s'.loc/\
  exs F (.forR (nm "rank") [.blt (nm "len") [.var (nm "splitters")]] qQ []::r) st=exs F r s':=by
 revert F st p b q C spl k;exists ce10_,F,st,p,b,q,C,spl,k,acc,r;intros;obtain⟨s',⟨R,T⟩,U⟩:=im (F:=F) (x:=nm "rank") (o:=[]) (b:=qQ)
  (args:=[.blt (nm "len") [.var (nm "splitters")]]) (st:=st) (st1:=st) (vs:=[.int (spl.length:Int)]) (n:=spl.length) (a:=0)
  (gp (bR (e_var c0.spl) (rt (zB d (zH ..))))) (iG rfl (zB d (zH ..)))
  (λi s=>s.hp=st.hp.set q (.list ((acc++rk C spl k i).map rv))/\Kept (["rank"].map nm) st.loc s.loc)
  ⟨by rw[show rk C spl k 0=[]from rfl,zo,kK H],Kept.refl⟩ (λi B s f=>aA f λl W=>by
   have D:(⟨(nm "rank",.int (0+(i:Int)))::s.loc,s.hp⟩:St)=⟨(nm "rank",.int (i:Int))::s.loc,s.hp⟩:=by rw[Int.zero_add]
   show ∃s',(exs F _ ⟨(nm "rank",.int (0+(i:Int)))::s.loc,s.hp⟩=_\/exs F _ ⟨(nm "rank",.int (0+(i:Int)))::s.loc,s.hp⟩=_)/\_
   rw[D];have K:=W.put (x:=nm "rank") (v:=.int (i:Int)) (by simp);have c1:Cx ((nm "rank",V.int (i:Int))::s.loc) s.hp p b C spl:=c0.kept K rfl rfl rfl (by rw[l,aq z]) (by rw[l,aq A]);have h:s.hp[q]?=some (.list ((acc++rk C spl k i).map rv)):=by rw[l,aG H]
   have I:ev F (.var (nm "rank")) ⟨(nm "rank",.int (i:Int))::s.loc,s.hp⟩=some (.int (i:Int),_):=e_var aa;have J:ev F (.var (nm "k")) ⟨(nm "rank",.int (i:Int))::s.loc,s.hp⟩=some (.int (k:Int),_):=e_var ((K.at "k" rfl).trans O);have L:ev F (.item (.var (nm "begins")) (.var (nm "k"))) ⟨(nm "rank",.int (i:Int))::s.loc,s.hp⟩=some (.int (off C k:Int),_):=nG J c1.begins c1.objb e (zB y (zH ..));have E:ev F (.bin .sub (.item (.var (nm "begins")) (.var (nm "k"))) (.int 1)) ⟨(nm "rank",.int (i:Int))::s.loc,s.hp⟩=some (.int ((off C k-1:Nat):Int),⟨(nm "rank",.int (i:Int))::s.loc,s.hp⟩):=by
    have M:=tX g (zg e) hk0;have X:=eK C k;refine aM L ao ?_;refine(mW (by lia) (by lia)).trans ?_;rw[show((off C k:Int)-1)=((off C k-1:Nat):Int) by exact(Int.ofNat_sub M).symm]
   have N:=om g e;have M:=tX g (zg e) hk0;have t:evT F (.cmp .In (.item (.var (nm "splitters")) (.var (nm "rank"))) (.tup [.item (.item (.var (nm "pairs")) (.bin .sub (.item (.var (nm "begins")) (.var (nm "k"))) (.int 1))) (.int 0),.item (.item (.var (nm "pairs")) (.item (.var (nm "begins")) (.var (nm "k")))) (.int 0)])) ⟨(nm "rank",.int (i:Int))::s.loc,s.hp⟩=
    some (hit C (spl.getD i 0) k,⟨(nm "rank",.int (i:Int))::s.loc,s.hp⟩):=by
    refine t_cmp (u:=.str (toS [spl.getD i 0])) (bh (e_var c1.spl) I ?_) (Fo (lH (i:=off C k-1) E c1.pairs c1.objp (Nat.sub_lt_of_lt N) (zB G (zH ..))) (lH L c1.pairs c1.objp N (zB G (zH ..)))) xd
    ·refine(AL B (zB d (zH ..))).trans ?_;simp[uj,B,DB]
   have m:=Ch C spl k i;cases w:hit C (spl.getD i 0) k with
   | true=>
    rw[w]at t;refine⟨⟨(nm "rank",.int (i:Int))::s.loc,s.hp.set q (.list ((acc++rk C spl k i).map rv++[rv (i,k)]))⟩,.inl ?_,?_,K⟩
    ·unfold qQ;rw[bI t (s2:=⟨(nm "rank",.int (i:Int))::s.loc,s.hp.set q (.list ((acc++rk C spl k i).map rv++[rv (i,k)]))⟩) ?_,am];rw[bJ (bU (st:=⟨(nm "rank",.int (i:Int))::s.loc,s.hp⟩) (s1:=⟨(nm "rank",.int (i:Int))::s.loc,s.hp⟩) (u:=.ref q) (e_var ((K.at "ranks" rfl).trans Q)) (v:=rv (i,k)) (s2:=⟨(nm "rank",.int (i:Int))::s.loc,s.hp⟩) ?_ (mo_app h) (mo_app h) (qw h (by rw[zC,zF];exact fk4 d j B m))),am];exact e_tup (oh I (gw J)) rfl
    ·show s.hp.set q _=_
     rw[l,List.set_set,sW,if_pos w,<-yG,zx (l₁:=acc++rk C spl k i)];rfl
   | false=>
    rw[w]at t;refine⟨⟨(nm "rank",.int (i:Int))::s.loc,s.hp⟩,.inl ?_,?_,K⟩
    ·unfold qQ;refine(aR t).trans ?_;exact am
    ·show s.hp=_
     rw[l,sW,if_neg (by rw[w];simp),zo])
 exact⟨s',R,T,aQ (U.trans am)⟩
noncomputable def KB:List S:=[.forR (nm "rank") [.blt (nm "len") [.var (nm "splitters")]] qQ []]
theorem ss:∀{a j:Nat}{r:List S}(l:∀c∈C,c≠[])(z:C.flatten.length<=1000)(m:C.length<=1000)(e:spl.length<=100)(c0:Cx st.loc st.hp p b C spl)(A:st.loc.lookup (nm "first")=some (.int (a:Int)))(B:st.loc.lookup (nm "new")=some (.int (j:Int)))(D:a<=j)(E:j<C.length)(G:st.loc.lookup (nm "ranks")=some (.ref q))(w:st.hp[q]?=some (.list []))(f:q≠p)(g:q≠b),
 ∃s',s'.hp=st.hp.set q (.list ((rks C spl a (j-a)).map rv))/\Kept (["k","rank"].map nm) st.loc s'.loc/\
  exs F (.forR (nm "k") [.bin .add (.var (nm "first")) (.int 1),.bin .add (.var (nm "new")) (.int 1)] KB []::r) st=exs F r s':=by
 revert F st p b q C spl;exists ce10_,F,st,p,b,q,C,spl,a,j,r;intros;obtain⟨s',⟨H,I⟩,J⟩:=im (F:=F) (x:=nm "k") (o:=[]) (b:=KB)
  (args:=[.bin .add (.var (nm "first")) (.int 1),.bin .add (.var (nm "new")) (.int 1)]) (st:=st) (st1:=st) (vs:=[.int ((a+1:Nat):Int),.int ((a+1+(j-a):Nat):Int)]) (n:=j-a) (a:=((a+1:Nat):Int))
  (by rw[show((a+1+(j-a):Nat):Int)=(j:Int)+1 by lia];exact oh (aM (e_var A) ao (nO (by lia) (by lia))) (aM (e_var B) ao (nO (by lia) (by lia)))) (wA rfl rfl (by lia))
  (λi s=>s.hp=st.hp.set q (.list ((rks C spl a i).map rv))/\Kept (["k","rank"].map nm) st.loc s.loc)
  ⟨by rw[show rks C spl a 0=[]from rfl,ux,kK w],Kept.refl⟩ (λi Q s d=>aA d λh L=>by
   have t:(⟨(nm "k",.int (((a+1:Nat):Int)+(i:Int)))::s.loc,s.hp⟩:St)=⟨(nm "k",.int ((a+1+i:Nat):Int))::s.loc,s.hp⟩:=by rw[<-ue]
   show ∃s',(exs F _ ⟨(nm "k",.int (((a+1:Nat):Int)+(i:Int)))::s.loc,s.hp⟩=_\/exs F _ ⟨(nm "k",.int (((a+1:Nat):Int)+(i:Int)))::s.loc,s.hp⟩=_)/\_
   rw[t];have K:=L.put (x:=nm "k") (v:=.int ((a+1+i:Nat):Int)) (by simp);have c1:Cx ((nm "k",V.int ((a+1+i:Nat):Int))::s.loc) s.hp p b C spl:=c0.kept K rfl rfl rfl (by rw[h,aq f]) (by rw[h,aq g]);have u:s.hp[q]?=some (.list ((rks C spl a i).map rv)):=by rw[h,aG w]
   have y:=DX C spl a i;have R:i*spl.length<=1000*100:=Nat.mul_le_mul (by lia) e;refine cu (wS (F:=F) (st:=⟨(nm "k",.int ((a+1+i:Nat):Int))::s.loc,s.hp⟩) (k:=a+1+i) (r:=[]) l z m e (by lia) c1 aa (by lia) (by lia) ((K.at "ranks" rfl).trans G) u f g) λs' M N O=>?_;refine⟨s',.inl (O.trans am),?_,K.trans (N.mono (by simp))⟩;rw[M];show s.hp.set q _=_
   rw[h,List.set_set,ql])
 exact⟨s',H,I,aQ (J.trans am)⟩
end
theorem lG{p:Nat->Bool}{a:Nat}:∀m,(∀k,a<k->k<=a+m->p k=false)->((yy (a+1) m).reverse).find? p=none
 | 0,_=>rfl
 | m+1,h=>by
  rw[List.range'_concat,List.reverse_append,List.reverse_singleton,List.singleton_append,uf,Nat.one_mul,h _ (zW ..) (by simp +arith)];exact lG m λk b c=>h k b (yo c)
theorem pN{p:Nat->Bool}{a k:Nat}(b:a<k)(hp:p k=true):∀m,k<=a+m->(∀i,k<i->i<=a+m->p i=false)->((yy (a+1) m).reverse).find? p=some k
 | 0,h,_=>absurd h (Nat.not_le_of_lt b)
 | m+1,h,hn=>by
  rw[List.range'_concat,List.reverse_append,List.reverse_singleton,List.singleton_append,uf,Nat.one_mul];by_cases e:k=a+1+m
  ·rw[<-e,hp]
  ·rw[hn _ (by lia) (by simp +arith)];exact pN b hp m (by lia) λi c d=>hn i c (yo d)
theorem mh{f:Nat->Option Nat}{k:Nat}:∀{l:List Nat}{r:Nat},r<l.length->f (l.getD r 0)=some k->(∀i<r,f (l.getD i 0)=none)->l.findSome? f=some k
 | [],r,h,_,_=>by simp at h
 | a::l,0,_,h,_=>by
  refine jy.trans ?_;rw[show f a=some k from h]
 | a::l,r+1,h,h1,h2=>by
  refine jy.trans ?_;rw[show f a=none from h2 0 (uc _)];exact mh (l:=l) (r:=r) (by simpa using h) h1 λi b=>h2 (i+1) (uD b)
theorem EQ{k n:Nat}{x:Nat×Nat}:x∈rk C spl k n↔x.2=k/\x.1<n/\hit C (spl.getD x.1 0) k=true:=by
 unfold rk;obtain⟨r,m⟩:=x;simp only[zv,List.mem_filter,jn,Prod.mk.injEq];constructor
 ·rintro⟨i,⟨a,b⟩,rfl,rfl⟩;exact⟨rfl,a,b⟩
 ·rintro⟨rfl,a,b⟩;exact⟨r,⟨a,b⟩,rfl,rfl⟩
theorem kH:∀{C:List (List P)}{spl:List Nat}{a m:Nat}{x:Nat×Nat},x∈rks C spl a m↔a<x.2/\x.2<=a+m/\x.1<spl.length/\hit C (spl.getD x.1 0) x.2=true:=by
 exists ce5_,C,spl,a,m,x;unfold rks;simp only[ya,List.mem_range'_1,EQ];constructor
 ·rintro⟨k,b,rfl,c,d⟩;exact⟨b.1,fk1 b.2,c,d⟩
 ·rintro⟨b,c,d,e⟩;exact⟨x.2,⟨b,fk1 c⟩,rfl,d,e⟩
theorem gk:∀{C:List (List P)}{spl:List Nat}{a j:Nat}(d:a<=j)(h:rks C spl a (j-a)=[]),ei C spl a j=none:=by
 exists ce4_,C,spl,a,j;intros;unfold ei;rw[List.findSome?_eq_none_iff];intro c f;obtain⟨r,b,rfl⟩:=List.mem_iff_getElem.mp f;apply lG;intro k g i;cases e:hit C spl[r] k with
 | false=>rfl
 | true=>
  have:(r,k)∈rks C spl a (j-a):=kH.mpr ⟨g,i,b,by simpa[uj,b] using e⟩;rw[h]at this;cases this
theorem AY(l:List (Nat×Nat)):gE (l.map rv)=some (l.map λx=>((x.1:Int),-(x.2:Int))):=by
 induction l with
 | nil=>rfl
 | cons a r b=>exact mX b
noncomputable def lexLt(q m:Int×Int):Prop:=q.1<m.1\/(q.1=m.1/\q.2<m.2)
theorem pd:∀(l:List (Int×Int))(p:Int×Int),let m:=l.foldl (λm q=>if q.1<m.1\/(q.1=m.1/\q.2<m.2)then q else m) p
 m∈p::l/\∀q∈p::l,¬lexLt q m
 | [],p=>⟨by simp,λq b=>by simp at b;subst b;unfold lexLt;simp only[List.foldl_nil];simp +arith⟩
 | a::l,p=>by
  have f:=pd l (if a.1<p.1\/(a.1=p.1/\a.2<p.2)then a else p);simp only[uL]at f⊢;generalize l.foldl (λm q=>if q.1<m.1\/(q.1=m.1/\q.2<m.2)then q else m) (if a.1<p.1\/(a.1=p.1/\a.2<p.2)then a else p)=m at f⊢;obtain⟨d,c⟩:=f;by_cases e:a.1<p.1\/(a.1=p.1/\a.2<p.2)
  ·rw[if_pos e]at d c;refine⟨by rcases zM.mp d with h|h<;>simp[h],λq b=>?_⟩;have g:=c a (by simp);rcases zM.mp b with rfl|b
   ·unfold lexLt at g ⊢;lia
   ·exact c q b
  ·rw[if_neg e]at d c;refine⟨by rcases zM.mp d with h|h<;>simp[h],λq b=>?_⟩;have hp:=c p (by simp);rcases zM.mp b with rfl|b
   ·exact hp
   ·rcases zM.mp b with rfl|b
    ·unfold lexLt at hp ⊢;lia
    ·exact c q (by simp[b])
theorem fU:∀{C:List (List P)}{spl:List Nat}{a j:Nat}(v:a<=j)(h:rks C spl a (j-a)≠[]),
 ∃r k:Nat,ei C spl a j=some k/\a<k/\k<=j/\mD ((rks C spl a (j-a)).map λx=>((x.1:Int),-(x.2:Int)))=some ((r:Int),-(k:Int)):=by
 exists ce4_,C,spl,a,j;intros;refine dk (List.exists_cons_of_ne_nil h) λp l e=>?_;have o:=pd (l.map λx=>((x.1:Int),-(x.2:Int))) ((p.1:Int),-(p.2:Int));have hp:mD ((rks C spl a (j-a)).map λx=>((x.1:Int),-(x.2:Int)))=some ((l.map λx=>((x.1:Int),-(x.2:Int))).foldl (λm q=>if q.1<m.1\/(q.1=m.1/\q.2<m.2)then q else m) ((p.1:Int),-(p.2:Int))):=by rw[e];rfl
 rw[hp];generalize (l.map λx=>((x.1:Int),-(x.2:Int))).foldl (λm q=>if q.1<m.1\/(q.1=m.1/\q.2<m.2)then q else m) ((p.1:Int),-(p.2:Int))=m at o;obtain⟨s,t⟩:=o;rw[show((p.1:Int),-(p.2:Int))::(l.map λx=>((x.1:Int),-(x.2:Int)))=(rks C spl a (j-a)).map λx=>((x.1:Int),-(x.2:Int)) by rw[e];rfl]at s t;obtain⟨⟨r,k⟩,w,rfl⟩:=zv.mp s;have b:=kH.mp w;simp only at b;have d:∀y∈rks C spl a (j-a),¬(y.1<r\/(y.1=r/\k<y.2)):=λy z=>by
  have:=t _ (List.mem_map_of_mem z);unfold lexLt at this;simp only at this;lia
 refine⟨r,k,?_,b.1,fk2 b.2.1 (@sb j a (zg (Nat.lt_of_sub_pos (fk2 b.1 b.2.1)))),rfl⟩;unfold ei;apply mh (r:=r) b.2.2.1
 ·apply pN b.1 b.2.2.2 _ b.2.1;intro i f g;cases n:hit C (spl.getD r 0) i with
  | false=>rfl
  | true=>exact absurd (.inr ⟨rfl,f⟩) (d (r,i) (kH.mpr ⟨Nat.lt_trans b.1 f,g,b.2.2.1,n⟩))
 ·intro i u;apply lG;intro c f g;cases n:hit C (spl.getD i 0) c with
  | false=>rfl
  | true=>exact absurd (.inl u) (d (i,c) (kH.mpr ⟨f,g,Nat.lt_trans u b.2.2.1,n⟩))
section
variable {F:Fs}{st s1 s2 s3:St}{p b q w:Nat}{C:List (List P)}{spl:List Nat}{i k:Nat}
theorem v_min{l:List (Nat×Nat)}{r k:Nat}(a:st.hp[q]?=some (.list (l.map rv)))(h:mD (l.map λx=>((x.1:Int),-(x.2:Int)))=some ((r:Int),-(k:Int))):
 iE F (nm "min") [.ref q] st=some (.tup [.int (r:Int),.int (-(k:Int))],st):=by
 exact bS rfl ((if_neg (by decide)).trans ((if_neg (by decide)).trans ((if_neg (by decide)).trans ((if_neg (by decide)).trans ((if_pos rfl).trans (bS (fV a) (bS (AY l) (mX h))))))))
theorem kr{x:Str}(h:st.loc.lookup x=some (.ref q))(a:st.hp[q]?=some (.list vs)):evT F (.cmp .Eq (.var x) (.lst [])) st=some (vs.isEmpty,⟨st.loc,st.hp++[.list []]⟩):=
 t_cmp (e_var h) fL (Eg (old _ a) bQ)
noncomputable def Ext(a b:List O):Prop:=a.length<=b.length/\∀k,k<a.length->b[k]?=a[k]?
theorem Ext.refl{a:List O}:Ext a a:=⟨zY _,λ_ _=>rfl⟩
theorem Ext.trans{a b c:List O}(h:Ext a b)(d:Ext b c):Ext a c:=⟨zB h.1 d.1,λk e=>(d.2 k (zR e h.1)).trans (h.2 k e)⟩
theorem Ext.app{a b:List O}(h:Ext a b)(x:List O):Ext a (b++x):=⟨by rw[zF];exact zB h.1 (zW _ _),λk c=>by rw[zU (zR c h.1)];exact h.2 k c⟩
theorem Ext.set{a b:List O}(h:Ext a b){k:Nat}{o:O}(d:a.length<=k):Ext a (b.set k o):=⟨by rw[List.length_set];exact h.1,λj c=>by rw[aq (yF (zR c d))];exact h.2 j c⟩
theorem Ext.get{a b:List O}(h:Ext a b){k:Nat}{o:O}(c:a[k]?=some o):b[k]?=some o:=(h.2 k (got c)).trans c
noncomputable def Cc(a:X):X:=.meth (.str (⟨#[]⟩:Str)) (nm "join") [.comp (.item (.var (nm "pair")) (.int 1)) (nm "pair") a]
theorem xT{l:List P}(h:ev F it st=some (.ref k,s1))(f:s1.hp[k]?=some (.list (l.map pv)))(d:l.length<=1000)(g:∀x∈l,x.2.length<=100):
 ev F (Cc it) st=some (.str (toS (mng l)),⟨s1.loc,s1.hp++[.list ((l.map (·.2)).map λl=>.str (toS l))]⟩):=by
 have j:ev F (.comp (.item (.var (nm "pair")) (.int 1)) (nm "pair") it) st=some (.ref s1.hp.length,⟨s1.loc,s1.hp++[.list ((l.map (·.2)).map λl=>.str (toS l))]⟩):=by
  rw[List.map_map];exact oG h f (zB d (by decide)) λx _=>bh (e_var aa) ao tB
 have e:=lL (F:=F) (s:=[]) (ls:=l.map (·.2)) (k:=s1.hp.length) (st:=⟨s1.loc,s1.hp++[.list ((l.map (·.2)).map λl=>.str (toS l))]⟩) bQ (by simp) (by simpa using d) (λa m=>by
  refine el12 (zv.mp m) λx n c=>?_;subst c;have:=g x n;exact zB this (zH ..))
 rw[gj,show(l.map (·.2)).flatten=mng l by rw[mng,List.flatMap_def]]at e;exact bU bL j mo_join mo_join e
theorem oN{l:List P}(c:l.length<=1000)(a:∀x∈l,x.2.length<=100):(mng l).length<=100000:=by
 have:=cX (f:=λx:P=>x.2) (B:=100) l a;unfold mng;lia
end
structure M (s:St) (hp0:List O) (p b w:Nat) (C:List (List P)) (spl:List Nat) (wd:Nat) (r:RS):Prop where
 cx:Cx s.loc s.hp p b C spl
 width:s.loc.lookup (nm "width")=some (.int (wd:Int))
 rows:s.loc.lookup (nm "rows")=some (.ref w)
 lead:s.loc.lookup (nm "lead")=some (.str (toS r.lead))
 first:s.loc.lookup (nm "first")=some (.int (r.first:Int))
 room:s.loc.lookup (nm "room")=some (.int (r.room:Int))
 objw:s.hp[w]?=some (.list (r.rows.map λl=>.str (toS l)))
 ext:Ext hp0 s.hp
 hb:hp0.length<=b
 hw:hp0.length<=w
 hbw:b≠w
 hpl:p<hp0.length
theorem M.keep:∀{s:St}{hp0:List O}{p b w:Nat}{C:List (List P)}{spl:List Nat}{wd:Nat}{r:RS}{loc':List (Str×V)}{a:List O}{xs:List String}(m:M s hp0 p b w C spl wd r)(h:Kept (xs.map nm) s.loc loc')(e:Ext s.hp a)(c:(["pairs","begins","splitters","width","rows","lead","first","room"].any λx=>xs.contains x)=false),M ⟨loc',a⟩ hp0 p b w C spl wd r:=by
 exists b5,s,hp0,p,b,w,C,spl,wd,r,loc',a,xs;intros;simp only[List.any_cons,List.any_nil,vF,Bool.or_eq_false_iff]at c;obtain⟨d,f,g,i,j,k,l,n⟩:=c;exact⟨m.cx.kept h d f g (e.2 _ (got m.cx.objp)) (e.2 _ (got m.cx.objb)),(h.at _ i).trans m.width,(h.at _ j).trans m.rows,(h.at _ k).trans m.lead,(h.at _ l).trans m.first,(h.at _ n).trans m.room,e.get m.objw,m.ext.trans e,m.hb,m.hw,m.hbw,m.hpl⟩
theorem M.keep1{s:St}{hp0:List O}{p b w:Nat}{r:RS}(m:M s hp0 p b w C spl wd r){x:String}{v:V}(e:Ext s.hp hp')
 (a:(["pairs","begins","splitters","width","rows","lead","first","room"].any λy=>[x].contains y)=false):M ⟨(nm x,v)::s.loc,hp'⟩ hp0 p b w C spl wd r:=
 m.keep (xs:=[x]) (Kept.refl.put (by simp)) e a
structure qg (C:List (List P)) (j:Nat) (r:RS):Prop where
 first:r.first=0\/r.first<j
 lead:r.lead.length<=1
 rows:r.rows.length<=j
 len:∀l∈r.rows,l.length<=200000
 room:r.room<=1000000
 nil:r.rows=[]->r.first=0
noncomputable def tS:X:=.item (.bin .add (.var (nm "begins")) (.lst [.blt (nm "len") [.var (nm "pairs")]])) (.bin .add (.var (nm "new")) (.int 1))
noncomputable def FitX:X:=.cmp .LtE (.bin .sub (.bin .add (.bin .add (.var (nm "room")) (.blt (nm "len") [.var (nm "lead")])) (.var (nm "behind"))) (.item (.var (nm "begins")) (.var (nm "first")))) (.var (nm "width"))
noncomputable def il:X:=.cmp .Eq (.var (nm "ranks")) (.lst [])
noncomputable def CutX:X:=.cond il (.var (nm "new")) (.neg (.item (.blt (nm "min") [.var (nm "ranks")]) (.int 1)))
noncomputable def RowX:X:=.bin .add (.var (nm "lead")) (Cc (.slice (.var (nm "pairs")) (.item (.var (nm "begins")) (.var (nm "first"))) (.item (.var (nm "begins")) (.var (nm "cut")))))
noncomputable def Ew:X:=.cond (.and il (.cmp .NotIn (.item (.item (.var (nm "pairs")) (.item (.var (nm "begins")) (.var (nm "new")))) (.int 0)) (.str (⟨#[32,9]⟩:Str)))) (.str (⟨#[32]⟩:Str)) (.str (⟨#[]⟩:Str))
noncomputable def qa:List S:=[.asg (nm "cut") CutX,.expr (.meth (.var (nm "rows")) (nm "append") [RowX]),.asg (nm "lead") Ew,.asg (nm "first") (.var (nm "cut")),.asg (nm "room") (.int 0)]
noncomputable def lu:List S:=.asg (nm "behind") tS::.ite FitX [.cont] []::.asg (nm "ranks") (.lst [])::
 .forR (nm "k") [.bin .add (.var (nm "first")) (.int 1),.bin .add (.var (nm "new")) (.int 1)] KB []::
 .ite (.and il (.cmp .Eq (.var (nm "room")) (.int 0))) [.cont] []::qa
section
variable {F:Fs}{st s1 s2 s3:St}{hp0:List O}{p b q w:Nat}{C:List (List P)}{spl:List Nat}{i j k wd:Nat}{r:RS}
theorem An:∀(m:M st hp0 p b w C spl wd r)(g:C.flatten.length<=1000)(a:C.length<=1000)(h:j<C.length)(c:st.loc.lookup (nm "new")=some (.int (j:Int))),
 ∃x,ev F tS st=some (.int (off C (j+1):Int),⟨st.loc,st.hp++x⟩):=by
 revert F st hp0 p b w C spl j wd r;exists ck,F,st,hp0,p,b,w,C,spl,j,wd,r;intros;have d:ev F (.blt (nm "len") [.var (nm "pairs")]) st=some (.int (C.flatten.length:Int),st):=by
  have:=bR (F:=F) (e_var m.cx.pairs) (ms m.cx.objp (by rw[zC];lia));rwa[zC]at this
 have e:ev F (.bin .add (.var (nm "begins")) (.lst [.blt (nm "len") [.var (nm "pairs")]])) st=some (.ref (st.hp++[O.list [.int (C.flatten.length:Int)]]).length,⟨st.loc,st.hp++[O.list [.int (C.flatten.length:Int)]]++[O.list (((yS C.length).map λi=>iV (off C i))++[.int (C.flatten.length:Int)])]⟩):=
  aM (e_var m.cx.begins) (lS d) (ir (old _ m.cx.objb) bQ (by simp;lia))
 refine⟨[O.list [.int (C.flatten.length:Int)]]++[O.list (((yS C.length).map λi=>iV (off C i))++[.int (C.flatten.length:Int)])],?_⟩;rw[<-yG];have f:((yS C.length).map λi=>iV (off C i))++[.int (C.flatten.length:Int)]=(yS (C.length+1)).map λi=>iV (off C i):=by
  rw[List.range_succ,zx];simp[iV,gX]
 refine bh e (aM (e_var c) ao (nO (by lia) (by lia))) ?_;rw[f];refine(on (i:=j+1) (by lia) bQ (by simp;lia) (by simp;lia)).trans ?_;simp[iV]
theorem t_fit(m:M st hp0 p b w C spl wd r)(l:C.flatten.length<=1000)(a:C.length<=1000)(c:r.first<C.length)(d:r.lead.length<=1)(n:r.room<=1000000){o:Nat}(s:o<=1000)(e:st.loc.lookup (nm "behind")=some (.int (o:Int))):
 evT F FitX st=some (decide (r.room+r.lead.length+o<=wd+off C r.first),st):=by
 have:=eK C r.first;have f:ev F (.bin .add (.var (nm "room")) (.blt (nm "len") [.var (nm "lead")])) st=some (.int ((r.room+r.lead.length:Nat):Int),st):=by
  have:=aM (op:=.add) (F:=F) (e_var m.room) (bR (e_var m.lead) (rt (zB d (zH ..)))) (nO (zX _) (by lia));rwa[<-ue]at this
 have g:ev F (.bin .add (.bin .add (.var (nm "room")) (.blt (nm "len") [.var (nm "lead")])) (.var (nm "behind"))) st=some (.int ((r.room+r.lead.length+o:Nat):Int),st):=by
  have:=aM (op:=.add) (F:=F) f (e_var e) (nO (by lia) (by lia));rwa[<-ue]at this
 have h:=aM (op:=.sub) (F:=F) g (nG (e_var m.first) m.cx.begins m.cx.objb c (zB a (zH ..))) (mW (by lia) (by lia));refine t_cmp h (e_var m.width) ?_;refine c_le.trans ?_;congr 1;apply decide_eq_decide.mpr;lia
theorem Dt:∀(N:∀c∈C,c≠[])(m:M st hp0 p b w C spl wd r)(Q:C.flatten.length<=1000)(h:C.length<=1000)(hm:∀x∈C.flatten,x.2.length<=100)(v:j<C.length)(f:qg C j r)(Y:st.loc.lookup (nm "new")=some (.int (j:Int)))(I:st.loc.lookup (nm "ranks")=some (.ref q))(J:st.hp[q]?=some (.list ((rks C spl r.first (j-r.first)).map rv)))(R:q≠w),
 ∃s',exs F qa st=some (.next,s')/\M s' hp0 p b w C spl wd (match ei C spl r.first j with
  | some k=>⟨r.rows++[r.lead++mng (seg C r.first k)],[],k,0⟩
  | none=>⟨r.rows++[r.lead++mng (seg C r.first j)],if isW (sg C.flatten (off C j))then[]else[32],j,0⟩):=by
 revert F st hp0 p b q w C spl j wd r;exists b5,F,st,hp0,p,b,q,w,C,spl,j,wd,r;intros;have d:r.first<=j:=by have:=f.first;lia
 obtain⟨cut,x,u,S,n,ec⟩:∃cut x,(ei C spl r.first j).getD j=cut/\cut<=j/\r.first<=cut/\ev F CutX st=some (.int (cut:Int),⟨st.loc,st.hp++x⟩):=by
  by_cases e:rks C spl r.first (j-r.first)=[]
  ·refine⟨j,[.list []],by rw[gk d e];rfl,zY _,d,qu ?_ (e_var Y)⟩;have:=kr (F:=F) I J;rwa[e]at this
  ·refine kX (fU d e) λrr k T Z h3 h4=>?_;refine⟨k,[.list []],by rw[T];rfl,h3,zg Z,mx (s1:=⟨st.loc,st.hp++[.list []]⟩) ?_ ?_⟩
   ·have:=kr (F:=F) I J;rwa[show((rks C spl r.first (j-r.first)).map rv).isEmpty=false by simp[e]]at this
   ·have:=gw (bh (F:=F) (st:=⟨st.loc,st.hp++[.list []]⟩) (bR (e_var I) (v_min (old _ J) h4)) ao (tB (a:=.int (rr:Int)) (b:=.int (-(k:Int)))));simpa using this
 have U:=om N v;have z:∀x∈seg C r.first cut,x.2.length<=100:=λx hx=>hm x (by
  rw[<-gf n]at hx;exact uN (ut hx))
 have A:(seg C r.first cut).length<=1000:=by
  rw[<-gf n,yP,yC];exact fk3 Q (jT (off C cut-off C r.first) (C.flatten.length-off C r.first)) (yj C.flatten.length (off C r.first))
 have hg:=oN A z;have g:M ⟨(nm "cut",.int (cut:Int))::st.loc,st.hp++x⟩ hp0 p b w C spl wd r:=m.keep1 (Ext.refl.app x) rfl;obtain⟨y,er⟩:∃y,ev F RowX ⟨(nm "cut",.int (cut:Int))::st.loc,st.hp++x⟩=some (.str (toS (r.lead++mng (seg C r.first cut))),⟨(nm "cut",.int (cut:Int))::st.loc,st.hp++x++y⟩):=by
  have o1:=eK C r.first;have o2:=eK C cut;have o3:=fv (C:=C) n;have e1:=GI (st:=⟨(nm "cut",.int (cut:Int))::st.loc,st.hp++x⟩) (i:=off C r.first) (j:=off C cut) rfl rfl g.cx.objp (by rw[zC];exact o1) (by rw[zC];exact o2) (by rw[zC];exact zB Q (zH ..));rw[<-uP,<-uk,gf n]at e1;have K:=dX (F:=F) (e_var g.cx.pairs) (nG (e_var g.first) g.cx.begins g.cx.objb (zu d v) (zB h (zH ..))) (nG (e_var aa) g.cx.begins g.cx.objb (zu S v) (zB h (zH ..))) e1;have e3:=aM (op:=.add) (F:=F) (e_var g.lead) (xT K bQ A z) (s6 (by have:=f.lead;exact fk2 hg this));exact⟨_,by rw[<-yG];exact e3⟩
 have o:=g.keep (xs:=[]) Kept.refl (Ext.refl.app y) rfl;have hw:=got o.objw;have B:(((st.hp++x)++y).set w (.list ((r.rows.map λl=>V.str (toS l))++[.str (toS (r.lead++mng (seg C r.first cut)))])))[q]?=some (.list ((rks C spl r.first (j-r.first)).map rv)):=by
  refine(aq (λe=>R e.symm)).trans ?_;exact old _ (old _ J)
 have s:(((st.hp++x)++y).set w (.list ((r.rows.map λl=>V.str (toS l))++[.str (toS (r.lead++mng (seg C r.first cut)))])))[p]?=some (.list (C.flatten.map pv)):=by
  refine(aq (by have:=m.hw;have:=m.hpl;exact yF (zR this ‹hp0.length<=w›))).trans ?_;exact o.cx.objp
 have t:(((st.hp++x)++y).set w (.list ((r.rows.map λl=>V.str (toS l))++[.str (toS (r.lead++mng (seg C r.first cut)))])))[b]?=some (.list ((yS C.length).map λi=>iV (off C i))):=by
  refine(aq (λe=>m.hbw e.symm)).trans ?_;exact o.cx.objb
 generalize W:((st.hp++x)++y).set w (.list ((r.rows.map λl=>V.str (toS l))++[.str (toS (r.lead++mng (seg C r.first cut)))]))=H at B s t;have el:ev F Ew ⟨(nm "cut",.int (cut:Int))::st.loc,H⟩=some (.str (toS (match ei C spl r.first j with|some _=>[]|none=>if isW (sg C.flatten (off C j))then[]else[32])),⟨(nm "cut",.int (cut:Int))::st.loc,H++[.list []]⟩):=by
  have D:=kr (F:=F) (st:=⟨(nm "cut",.int (cut:Int))::st.loc,H⟩) (ab (b:="cut") (by decide) I) B;by_cases e:rks C spl r.first (j-r.first)=[]
  ·rw[gk d e];rw[e]at D;have L:evT F (.cmp .NotIn (.item (.item (.var (nm "pairs")) (.item (.var (nm "begins")) (.var (nm "new")))) (.int 0)) (.str (⟨#[32,9]⟩:Str))) ⟨(nm "cut",.int (cut:Int))::st.loc,H++[.list []]⟩=some (!isW (sg C.flatten (off C j)),⟨(nm "cut",.int (cut:Int))::st.loc,H++[.list []]⟩):=by
    refine t_cmp (lH (nG (e_var (ab (b:="cut") (by decide) Y)) g.cx.begins (old _ t) v (zB h (zH ..))) g.cx.pairs (old _ s) U (zB Q (zH ..))) bL ?_;have:=oM (st:=⟨(nm "cut",.int (cut:Int))::st.loc,H++[.list []]⟩) (c:=sg C.flatten (off C j)) (l:=[32,9]);rw[oz]at this;exact this
   cases K:isW (sg C.flatten (off C j))with
   | true=>rw[K]at L;exact mx (dZ D L) bL
   | false=>rw[K]at L;exact qu (dZ D L) bL
  ·refine kX (fU d e) λrr k T Z h3 h4=>?_;rw[T];rw[show((rks C spl r.first (j-r.first)).map rv).isEmpty=false by simp[e]]at D;exact mx (iP D) bL
 have X:exs F qa st=some (.next,⟨(nm "room",.int 0)::(nm "first",.int (cut:Int))::(nm "lead",.str (toS (match ei C spl r.first j with|some _=>[]|none=>if isW (sg C.flatten (off C j))then[]else[32])))::(nm "cut",.int (cut:Int))::st.loc,H++[.list []]⟩):=by
  unfold qa;rw[aD ec,bJ (bU (e_var g.rows) er (mo_app g.objw) (mo_app o.objw) (qw o.objw (by rw[zC];have:=f.rows;exact fk3 h v this))),W,aD el,aD (e_var (ab (b:="lead") (by decide) aa)),aD ao,am]
 refine⟨_,X,?_⟩;have E:(match ei C spl r.first j with
  | some k=>(⟨r.rows++[r.lead++mng (seg C r.first k)],[],k,0⟩:RS)
  | none=>⟨r.rows++[r.lead++mng (seg C r.first j)],if isW (sg C.flatten (off C j))then[]else[32],j,0⟩)=⟨r.rows++[r.lead++mng (seg C r.first cut)],match ei C spl r.first j with|some _=>[]|none=>if isW (sg C.flatten (off C j))then[]else[32],cut,0⟩:=by
  cases e:ei C spl r.first j with
  | some k=>rw[e]at u;simp at u;subst u;rfl
  | none=>rw[e]at u;simp at u;subst u;rfl
 rw[E];have G:Kept (["room","first","lead","cut"].map nm) st.loc ((nm "room",.int 0)::(nm "first",.int (cut:Int))::(nm "lead",.str (toS (match ei C spl r.first j with|some _=>[]|none=>if isW (sg C.flatten (off C j))then[]else[32])))::(nm "cut",.int (cut:Int))::st.loc):=
  (((Kept.refl.put (by simp)).put (by simp)).put (by simp)).put (by simp)
 refine⟨⟨(G.at _ rfl).trans m.cx.pairs,(G.at _ rfl).trans m.cx.begins,(G.at _ rfl).trans m.cx.spl,old _ s,old _ t⟩,(G.at _ rfl).trans m.width,(G.at _ rfl).trans m.rows,ab (b:="room") (by decide) (ab (b:="first") (by decide) aa),ab (b:="room") (by decide) aa,aa,old _ ?_,?_,m.hb,m.hw,m.hbw,m.hpl⟩
 ·rw[<-W,aG o.objw,zx];rfl
 ·rw[<-W];exact((o.ext).set m.hw).app _
end
section
variable {F:Fs}{st s1 s2 s3:St}{hp0:List O}{p b q w:Nat}{C:List (List P)}{spl:List Nat}{i j k wd:Nat}{r:RS}
theorem tF{a b:Nat}(h:a<=b){x:P}(c:x∈seg C a b):x∈C.flatten:=by
 rw[<-gf h]at c;exact uN (ut c)
theorem DP{a b:Nat}(h:a<=b):(seg C a b).length<=C.flatten.length:=by
 rw[<-gf h,yP,yC];exact fk2 (jT (off C b-off C a) (C.flatten.length-off C a)) (yj C.flatten.length (off C a))
theorem rf{a:Nat}(c:a<=j)(h:ei C spl a j=some k):a<k/\k<=j:=by
 by_cases e:rks C spl a (j-a)=[]
 ·rw[gk c e]at h;exact no h
 ·refine kX (fU c e) λ_ l d f g _=>?_;rw[h]at d;injection d with d
  subst d;exact⟨f,g⟩
set_option tactic.hygienic true in
theorem wm:∀(hC:C.flatten.length<=1000)(hm:∀x∈C.flatten,x.2.length<=100)(f:qg C j r),qg C (j+1) (eu C spl wd r j):=by
 revert C spl j wd r;exists ce5_,C,spl,j,wd,r;intro hC hm f;have hfj:r.first<=j:=by have:=f.first;lia
 have hr:∀k,r.first<=k->∀l∈r.rows++[r.lead++mng (seg C r.first k)],l.length<=200000:=λk hk l hl=>by
  rcases zb.mp hl with hl|hl
  ·exact f.len l hl
  ·rw[zG]at hl;subst hl;have:=oN (zB (DP (C:=C) hk) hC) λx hx=>hm x (tF hk hx);have:=f.lead;rw[zF];exact fk2 ‹(mng (seg C r.first k)).length<=100000› this
 have hsame:qg C (j+1) r:=⟨by have:=f.first;lia,f.lead,by have:=f.rows;exact yo this,f.len,f.room,f.nil⟩;unfold eu;split
 ·exact hsame
 ·split
  ·rename_i k e;have:=rf hfj e;exact⟨.inr (by show k<j+1;exact uD this.2),by simp,by have:=f.rows;simp;exact this,hr k (zg this.1),by simp,by simp⟩
  ·split
   ·exact hsame
   ·exact⟨.inr (by show j<j+1;exact zq _),by show(if _ then _ else _:List Nat).length<=1;split<;>simp,by have:=f.rows;simp;exact this,hr j hfj,by simp,by simp⟩
theorem x8:∀(s:∀c∈C,c≠[])(m:M st hp0 p b w C spl wd r)(t:C.flatten.length<=1000)(g:C.length<=1000)(I:spl.length<=100)(V:∀x∈C.flatten,x.2.length<=100)(B:j<C.length)(f:qg C j r),
 ∃s',(exs F lu ⟨(nm "new",.int (j:Int))::st.loc,st.hp⟩=some (.next,s')\/exs F lu ⟨(nm "new",.int (j:Int))::st.loc,st.hp⟩=some (.cont,s'))/\M s' hp0 p b w C spl wd (eu C spl wd r j):=by
 revert F st hp0 p b w C spl j wd r;exists ck,F,st,hp0,p,b,w,C,spl,j,wd,r;intros;have h:r.first<=j:=by have:=f.first;lia
 have Q:M ⟨(nm "new",.int (j:Int))::st.loc,st.hp⟩ hp0 p b w C spl wd r:=m.keep1 Ext.refl rfl;obtain⟨x,W⟩:=An (F:=F) Q t g B aa;have n:M ⟨(nm "behind",.int (off C (j+1):Int))::(nm "new",.int (j:Int))::st.loc,st.hp++x⟩ hp0 p b w C spl wd r:=Q.keep1 (Ext.refl.app x) rfl;have D:=t_fit (F:=F) n t g (zu h B) f.lead f.room (o:=off C (j+1)) (zB (eK _ _) t) aa;unfold lu;rw[aD W];unfold eu;by_cases d:r.room+r.lead.length+off C (j+1)<=wd+off C r.first
 ·rw[if_pos d];rw[decide_eq_true d]at D;exact⟨_,.inr (dh D ro (by simp)),n⟩
 ·rw[if_neg d];rw[decide_eq_false d]at D;rw[aR D,aD fL];have R:M ⟨(nm "ranks",.ref (st.hp++x).length)::(nm "behind",.int (off C (j+1):Int))::(nm "new",.int (j:Int))::st.loc,st.hp++x++[.list []]⟩ hp0 p b w C spl wd r:=n.keep1 (Ext.refl.app [.list []]) rfl;have X:=got n.objw;have l2:=got n.cx.objp;have Y:=got n.cx.objb;have u:(st.hp++x++[O.list []])[(st.hp++x).length]?=some (.list []):=bQ;obtain⟨s3,E,J,Z⟩:=ss (F:=F) (a:=r.first) (j:=j) (q:=(st.hp++x).length) (r:=.ite (.and il (.cmp .Eq (.var (nm "room")) (.int 0))) [.cont] []::qa) s t g I R.cx R.first
   (ab (b:="ranks") (by decide) (ab (b:="behind") (by decide) aa)) h B aa u (yF l2) (yF Y)
  rw[Z];have m3:M s3 hp0 p b w C spl wd r:=by
   obtain⟨S,v⟩:=s3;refine n.keep (xs:=["k","rank","ranks"]) ?_ ?_ rfl
   ·exact(Kept.refl.put (xs:=["k","rank","ranks"].map nm) (x:=nm "ranks") (by simp)).trans (J.mono (by simp))
   ·show Ext _ v
    have E:v=_:=E;rw[E];exact(Ext.refl.app _).set (zY _)
  have y:s3.hp[(st.hp++x).length]?=some (.list ((rks C spl r.first (j-r.first)).map rv)):=by rw[E,aG u]
  have z:s3.loc.lookup (nm "ranks")=some (.ref (st.hp++x).length):=(J.at _ rfl).trans aa;have K:s3.loc.lookup (nm "new")=some (.int (j:Int)):=(J.at _ rfl).trans (ab (b:="ranks") (by decide) (ab (b:="behind") (by decide) aa));have A:evT F il s3=some (_,⟨s3.loc,s3.hp++[.list []]⟩):=kr (F:=F) z y;have L:M ⟨s3.loc,s3.hp++[.list []]⟩ hp0 p b w C spl wd r:=m3.keep (xs:=[]) Kept.refl (Ext.refl.app _) rfl;refine el12 (Dt (F:=F) (st:=⟨s3.loc,s3.hp++[.list []]⟩) (q:=(st.hp++x).length) s L t g V B f K z (old _ y) (yF X)) λT U G=>?_;by_cases e:rks C spl r.first (j-r.first)=[]
  ·rw[gk h e]at G⊢;rw[e]at A;have H:evT F (.cmp .Eq (.var (nm "room")) (.int 0)) ⟨s3.loc,s3.hp++[.list []]⟩=some (decide (r.room=0),⟨s3.loc,s3.hp++[.list []]⟩):=by
    refine t_cmp (e_var L.room) ao ?_;refine tL.trans ?_;congr 1;by_cases l:r.room=0
    ·rw[l];rfl
    ·rw[decide_eq_false l];exact beq_false_of_ne (Int.ne_of_gt (jh.mpr (jQ l)))
   by_cases l:r.room=0
   ·rw[decide_eq_true l]at H;refine⟨_,.inr (dh (dZ A H) ro (by simp)),?_⟩;simp only[l,if_true];exact L
   ·rw[decide_eq_false l]at H;refine⟨T,.inl ?_,?_⟩
    ·refine(aR (dZ A H)).trans ?_;exact U
    ·simp only[l,if_false];exact G
  ·refine fw (fU h e) λrr k N _=>?_;rw[N]at G⊢;rw[show((rks C spl r.first (j-r.first)).map rv).isEmpty=false by simp[e]]at A;refine⟨T,.inl ?_,G⟩;refine(aR (iP A)).trans ?_;exact U
theorem xB:∀{room:Nat}{rest:List S}(h:∀c∈C,c≠[])(m:M st hp0 p b w C spl wd ⟨[],[],0,room⟩)(f:room<=1000000)(t:C.flatten.length<=1000)(g:C.length<=1000)(l:spl.length<=100)(u:∀x∈C.flatten,x.2.length<=100),
 ∃s',M s' hp0 p b w C spl wd (stC C spl room wd C.length)/\qg C C.length (stC C spl room wd C.length)/\exs F (.forR (nm "new") [.blt (nm "len") [.var (nm "begins")]] lu []::rest) st=exs F rest s':=by
 revert F st hp0 p b w C spl wd;exists ck,F,st,hp0,p,b,w,C,spl,wd,room,rest;intros;obtain⟨s',⟨y,z⟩,A⟩:=im (F:=F) (x:=nm "new") (o:=[]) (b:=lu)
  (args:=[.blt (nm "len") [.var (nm "begins")]]) (st:=st) (st1:=st) (vs:=[.int (C.length:Int)]) (n:=C.length) (a:=0)
  (gp (bR (e_var m.cx.begins) ((ms m.cx.objb (by rw[zC,js];exact zB g (zH ..))).trans (by rw[zC,js])))) (iG rfl (zB g (zH ..)))
  (λi s=>M s hp0 p b w C spl wd (stC C spl room wd i)/\qg C i (stC C spl room wd i))
  ⟨m,⟨.inl rfl,by simp[stC],by simp[stC],by simp[stC],f,λ_=>rfl⟩⟩ (λi B s d=>aA d λD v=>by
   show ∃s',(exs F _ ⟨(nm "new",.int (0+(i:Int)))::s.loc,s.hp⟩=_\/exs F _ ⟨(nm "new",.int (0+(i:Int)))::s.loc,s.hp⟩=_)/\_
   rw[Int.zero_add];refine el12 (x8 (F:=F) h D t g l u B v) λs' E G=>?_;have e:stC C spl room wd (i+1)=eu C spl wd (stC C spl room wd i) i:=by
    unfold stC;rw[List.range_succ,List.foldl_append];rfl
   exact⟨s',E,by rw[e];exact G,by rw[e];exact wm t u v⟩)
 exact⟨s',y,z,aQ (A.trans am)⟩
end
noncomputable def BS:X:=.and (.cmp .Eq (.item (.item (.var (nm "pairs")) (.neg (.int 1))) (.int 0)) (.str (⟨#[32]⟩:Str))) (.cmp .Eq (.item (.var (nm "begins")) (.neg (.int 1))) (.bin .sub (.blt (nm "len") [.var (nm "pairs")]) (.int 1)))
noncomputable def xS:X:=.bin .add (.var (nm "lead")) (Cc (.var (nm "rest")))
noncomputable def rF:X:=.cmp .Eq (.compIf (.var (nm "pair")) (nm "pair") (.var (nm "rest")) (.cmp .NotIn (.item (.var (nm "pair")) (.int 0)) (.str (⟨#[32,9,160]⟩:Str)))) (.lst [])
noncomputable def sE:X:=.bin .add (.slice (.var (nm "rows")) (.none) (.neg (.int 1))) (.lst [.bin .add (.item (.var (nm "rows")) (.neg (.int 1))) (.var (nm "line"))])
noncomputable def y3:List S:=.asg (nm "rest") (.slice (.var (nm "pairs")) (.item (.var (nm "begins")) (.var (nm "first"))) (.none))::
 .ite BS [.asg (nm "rest") (.slice (.var (nm "rest")) (.none) (.neg (.int 1)))] []::
 .asg (nm "line") xS::.ite rF [.ret sE] []::[.ret (.bin .add (.var (nm "rows")) (.lst [.var (nm "line")]))]
noncomputable def Bw:List S:=[.ite (.or (.cmp .Eq (.var (nm "k")) (.int 0)) (.and (.cmp .In (.item (.item (.var (nm "pairs")) (.var (nm "k"))) (.int 0)) (.str (⟨#[32,9]⟩:Str))) (.cmp .NotIn (.item (.item (.var (nm "pairs")) (.bin .sub (.var (nm "k")) (.int 1))) (.int 0)) (.str (⟨#[32,9]⟩:Str))))) [.expr (.meth (.var (nm "begins")) (nm "append") [.var (nm "k")])] []]
theorem b3_eq:B3=.asg (nm "begins") (.lst [])::.forR (nm "k") [.blt (nm "len") [.var (nm "pairs")]] Bw []::.asg (nm "rows") (.lst [])::.asg (nm "lead") (.str (⟨#[]⟩:Str))::.asg (nm "first") (.int 0)::
 .forR (nm "new") [.blt (nm "len") [.var (nm "begins")]] lu []::y3:=by rfl
section
variable {F:Fs}{st s1 s2 s3:St}{hp0:List O}{p b q w:Nat}{C:List (List P)}{spl:List Nat}{i j k wd:Nat}{r:RS}
theorem CB:∀{rr:List S}(x:∀c∈C,c≠[])(y:C≠[])(m:M st hp0 p b w C spl wd r)(s:C.flatten.length<=1000)(n:C.length<=1000)(A:r.first<C.length),
 ∃loc' g k,exs F (.asg (nm "rest") (.slice (.var (nm "pairs")) (.item (.var (nm "begins")) (.var (nm "first"))) (.none))::.ite BS [.asg (nm "rest") (.slice (.var (nm "rest")) (.none) (.neg (.int 1)))] []::rr) st=exs F rr ⟨loc',g⟩/\
  M ⟨loc',g⟩ hp0 p b w C spl wd r/\loc'.lookup (nm "rest")=some (.ref k)/\g[k]?=some (.list ((ay C r).map pv)):=by
 revert F st hp0 p b w C spl wd r;exists ck,F,st,hp0,p,b,w,C,spl,wd,r,rr;intros;have f:=jE.mpr y;have e:0<C.flatten.length:=by have:=om x (i:=0) f;exact this
 have z:=vk (st:=st) (i:=off C r.first) rfl m.cx.objp (by rw[zC];exact eK _ _) (by rw[zC];exact zB s (zH ..));rw[<-uP]at z;rw[aD (dX (F:=F) (e_var m.cx.pairs) (nG (e_var m.first) m.cx.begins m.cx.objb A (zB n (zH ..))) bT z)];have d:M ⟨(nm "rest",.ref st.hp.length)::st.loc,st.hp++[.list ((C.flatten.drop (off C r.first)).map pv)]⟩ hp0 p b w C spl wd r:=m.keep1 (Ext.refl.app _) rfl;have t:(st.hp++[O.list ((C.flatten.drop (off C r.first)).map pv)])[st.hp.length]?=some (.list ((C.flatten.drop (off C r.first)).map pv)):=bQ;generalize B:st.hp++[O.list ((C.flatten.drop (off C r.first)).map pv)]=H at d t;have l:evT F (.cmp .Eq (.item (.item (.var (nm "pairs")) (.neg (.int 1))) (.int 0)) (.str (⟨#[32]⟩:Str))) ⟨(nm "rest",.ref st.hp.length)::st.loc,H⟩=some (decide (sg C.flatten (C.flatten.length-1)=32),⟨(nm "rest",.ref st.hp.length)::st.loc,H⟩):=by
  have a:(C.flatten.map pv).getLast?=some (pv (C.flatten[C.flatten.length-1]'(yA e))):=by
   rw[yi,zC,jt,zP (yA e)];rfl
  refine t_cmp (bh (bh (e_var d.cx.pairs) (gw ao) (kI d.cx.objp a (by rw[zC];exact zB s (zH ..)))) ao qD) bL ?_;rw[sO (yA e)];show fP .Eq (.str (toS [_])) (.str (toS [32])) _=_
  refine xH.trans ?_;congr 1;by_cases h:(C.flatten[C.flatten.length-1]'(yA e)).1=32
  ·rw[decide_eq_true h,h];rfl
  ·rw[decide_eq_false h];exact beq_false_of_ne (by simpa using h)
 have u:evT F (.cmp .Eq (.item (.var (nm "begins")) (.neg (.int 1))) (.bin .sub (.blt (nm "len") [.var (nm "pairs")]) (.int 1))) ⟨(nm "rest",.ref st.hp.length)::st.loc,H⟩=some (decide (off C (C.length-1)=C.flatten.length-1),⟨(nm "rest",.ref st.hp.length)::st.loc,H⟩):=by
  have a:((yS C.length).map λi=>iV (off C i)).getLast?=some (iV (off C (C.length-1))):=by
   rw[yi,zC,jt,js,List.getElem?_range (yA f)];rfl
  refine t_cmp (bh (e_var d.cx.begins) (gw ao) (kI d.cx.objb a (by rw[zC,js];exact zB n (zH ..)))) (aM (bR (e_var d.cx.pairs) (ms d.cx.objp (by rw[zC];exact zB s (zH ..)))) ao (mW (by rw[zC];lia) (by rw[zC];lia))) ?_;rw[zC];unfold iV;refine tL.trans ?_;congr 1;by_cases h:off C (C.length-1)=C.flatten.length-1
  ·rw[decide_eq_true h];exact beq_iff_eq.mpr (by lia)
  ·rw[decide_eq_false h];exact beq_false_of_ne (by lia)
 by_cases o:sg C.flatten (C.flatten.length-1)=32
 ·by_cases v:off C (C.length-1)=C.flatten.length-1
  ·have D:=xQ (st:=⟨(nm "rest",.ref st.hp.length)::st.loc,H⟩) t (by rw[zC,yC];exact fk2 s (yj C.flatten.length (off C r.first)));rw[decide_eq_true o]at l;rw[decide_eq_true v]at u;refine⟨(nm "rest",.ref H.length)::(nm "rest",.ref st.hp.length)::st.loc,H++[.list ((C.flatten.drop (off C r.first)).map pv).dropLast],H.length,?_,d.keep1 (Ext.refl.app _) rfl,aa,?_⟩
   ·have E:evT F BS ⟨(nm "rest",.ref st.hp.length)::st.loc,H⟩=_:=dZ l u;refine(bI E (s2:=⟨(nm "rest",.ref H.length)::(nm "rest",.ref st.hp.length)::st.loc,H++[.list ((C.flatten.drop (off C r.first)).map pv).dropLast]⟩) ?_);refine(aD (dX (F:=F) (e_var aa) bT (gw ao) D)).trans ?_;exact am
   ·refine bQ.trans ?_;unfold ay;rw[if_pos ⟨o,v⟩,uO]
  ·rw[decide_eq_true o]at l;rw[decide_eq_false v]at u;refine⟨_,_,_,aR (dZ l u),d,aa,?_⟩;unfold ay;rw[if_neg (λh=>v h.2)];exact t
 ·rw[decide_eq_false o]at l;refine⟨_,_,_,aR (iP l),d,aa,?_⟩;unfold ay;rw[if_neg (λh=>o h.1)];exact t
theorem xO(c:Nat):([32,9,160]:List Nat).contains c=bz c:=by
 simp only[ub,List.contains_nil,vF];unfold bz;rw[Bool.or_assoc]
theorem CG{l:List P}(h:st.loc.lookup (nm "rest")=some (.ref k))(d:st.hp[k]?=some (.list (l.map pv)))(g:l.length<=1000):
 ∃x,evT F rF st=some (l.all λp=>bz p.1,⟨st.loc,st.hp++x⟩):=by
 have s:∀l:List P,(l.flatMap λx:P=>if bz x.1 then[]else[pv x]).length<=l.length:=λl=>by
  induction l with
  | nil=>simp
  | cons a r f=>
   rw[zm,zF,zL];have:(if bz a.1 then[]else[pv a]).length<=1:=by split<;>simp
   exact fk2 f this
 have m:ev F (.compIf (.var (nm "pair")) (nm "pair") (.var (nm "rest")) (.cmp .NotIn (.item (.var (nm "pair")) (.int 0)) (.str (⟨#[32,9,160]⟩:Str)))) st=some (.ref st.hp.length,⟨st.loc,st.hp++[.list (l.flatMap λx:P=>if bz x.1 then[]else[pv x])]⟩):=by
  have c:(l.flatMap λx:P=>if bz x.1 then[]else[pv x]).length<=lid:=zB (s l) (zB g (by decide));refine oZ (e_var h) ((eH d).trans (en (step:=λx:P=>if bz x.1 then[]else[pv x]) (h:=pv) (@decide_eq_true _ (_) d) l [] (zB (zS (ym _)) c) λx u acc n=>?_)) c;have e:evT F (.cmp .NotIn (.item (.var (nm "pair")) (.int 0)) (.str (⟨#[32,9,160]⟩:Str))) ⟨[(nm "pair",pv x)],st.hp⟩=some (!bz x.1,⟨[(nm "pair",pv x)],st.hp⟩):=t_cmp (bh (e_var aa) ao qD) bL ((oM (l:=[32,9,160])).trans (by rw[xO]));cases o:bz x.1 with
  | true=>
   rw[o]at e;rw[if_pos rfl,zo];exact bS e rfl
  | false=>
   rw[o]at e n;exact bS e (bS (e_var aa) (if_pos n))
 refine⟨[.list (l.flatMap λx:P=>if bz x.1 then[]else[pv x])]++[.list []],?_⟩;have:=t_cmp (F:=F) (op:=.Eq) m fL (Eg (old _ bQ) bQ);rw[<-yG];have t:(l.flatMap λx:P=>if bz x.1 then[]else[pv x]).isEmpty=l.all λp=>bz p.1:=by
  clear d g this m
  induction l with
  | nil=>rfl
  | cons a r f=>
   rw[zm,uB,<-f];cases bz a.1<;>simp
 rw[<-t];exact this
theorem nS{x:P}(a:x∈ay C r):x∈C.flatten:=by
 unfold ay at a;split at a
 ·exact uN (List.dropLast_subset _ a)
 ·exact uN a
theorem vw:(ay C r).length<=C.flatten.length:=by
 unfold ay;split
 ·rw[List.length_dropLast,yC];simp +arith
 ·rw[yC];exact yj ..
theorem GJ:∀(B:∀c∈C,c≠[])(u:C≠[])(m:M st hp0 p b w C spl wd r)(E:C.flatten.length<=1000)(g:C.length<=1000)(R:∀x∈C.flatten,x.2.length<=100)(f:qg C C.length r)(S:(ay C r).all (λp=>bz p.1)=true->r.rows≠[]),
 ∃k s',exs F y3 st=some (.ret (.ref k),s')/\s'.hp[k]?=some (.list ((sx C r).map λl=>.str (toS l)))/\Ext hp0 s'.hp:=by
 revert F st hp0 p b w C spl wd r;exists ce10_,F,st,hp0,p,b,w,C,spl,wd,r;intros;have G:=jE.mpr u;refine el34 (CB (F:=F) B u m E g (by have:=f.first;lia) (rr:=.asg (nm "line") xS::.ite rF [.ret sE] []::[.ret (.bin .add (.var (nm "rows")) (.lst [.var (nm "line")]))])) λloc' d k T I J K=>?_;unfold y3;rw[T];have n:(ay C r).length<=1000:=zB vw E;have v:∀x∈ay C r,x.2.length<=100:=λx U=>R x (nS U);have L:=oN n v;have W:ev F xS ⟨loc',d⟩=_:=aM (op:=.add) (F:=F) (e_var I.lead) (xT (e_var J) K n v) (s6 (by have:=f.lead;exact fk2 L this));rw[aD W];have N:M ⟨(nm "line",.str (toS (r.lead++mng (ay C r))))::loc',d++[.list (((ay C r).map (·.2)).map λl=>.str (toS l))]⟩ hp0 p b w C spl wd r:=I.keep1 (Ext.refl.app _) rfl;have Q:(d++[O.list (((ay C r).map (·.2)).map λl=>.str (toS l))])[k]?=some (.list ((ay C r).map pv)):=old _ K;show ∃k s',exs F _ ⟨(nm "line",.str (toS (r.lead++mng (ay C r))))::loc',d++[.list (((ay C r).map (·.2)).map λl=>.str (toS l))]⟩=_/\_
 generalize d++[O.list (((ay C r).map (·.2)).map λl=>.str (toS l))]=H at N Q;refine eD (CG (F:=F) (st:=⟨(nm "line",.str (toS (r.lead++mng (ay C r))))::loc',H⟩) (ab (b:="line") (by decide) J) Q n) λx A=>?_;have h:=N.keep (xs:=[]) Kept.refl (Ext.refl.app x) rfl;show ∃k s',_/\_
 have o:=f.rows;cases y:(ay C r).all (λp=>bz p.1)with
 | false=>
  rw[y]at A;rw[aR A];have X:=ir (st:=⟨(nm "line",.str (toS (r.lead++mng (ay C r))))::loc',(H++x)++[.list [.str (toS (r.lead++mng (ay C r)))]]⟩) (old _ h.objw) bQ (by simp;exact fk2 g o);have Y:=aM (op:=.add) (F:=F) (e_var h.rows) (lS (e_var aa)) X;refine⟨_,_,cJ Y,?_,?_⟩
  ·unfold sx;rw[y,if_neg (by simp),zx (l₁:=r.rows)];exact bQ
  ·exact((h.ext).app _).app _
 | true=>
  rw[y]at A;have Z:=S y;obtain⟨z,s⟩:∃z,r.rows.getLast?=some z:=by
   cases e:r.rows.getLast? with
   | none=>exact absurd (yH.mp e) Z
   | some a=>exact⟨a,rfl⟩
  have D:=f.len z (List.mem_of_getLast? s);have t:(r.rows.map λl=>V.str (toS l)).getLast?=some (.str (toS z)):=by rw[List.getLast?_map,s];rfl
  have s1:=xQ (st:=⟨(nm "line",.str (toS (r.lead++mng (ay C r))))::loc',H++x⟩) h.objw (by rw[zC];exact fk2 g o);have a1:=dX (F:=F) (e_var h.rows) bT (gw ao) s1;have a2:ev F (.bin .add (.item (.var (nm "rows")) (.neg (.int 1))) (.var (nm "line"))) ⟨(nm "line",.str (toS (r.lead++mng (ay C r))))::loc',H++x++[.list (r.rows.map λl=>V.str (toS l)).dropLast]⟩=some (.str (toS (z++(r.lead++mng (ay C r)))),⟨(nm "line",.str (toS (r.lead++mng (ay C r))))::loc',H++x++[.list (r.rows.map λl=>V.str (toS l)).dropLast]⟩):=
   aM (op:=.add) (F:=F) (bh (e_var h.rows) (gw ao) (kI (old _ h.objw) t (by rw[zC];exact fk2 g o))) (e_var aa) (s6 (by rw[zF];have:=f.lead;exact fk3 L D this))
  have a3:ev F sE _=_:=aM (op:=.add) (F:=F) a1 (lS a2) (ir (old _ bQ) bQ (by simp;lia));refine⟨_,_,dh A (cJ a3) (by simp),?_,?_⟩
  ·unfold sx;rw[y,s,bQ,if_pos rfl,zx,uO];rfl
  ·exact(((h.ext).app _).app _).app _
theorem run3:∀{n:Nat}{hp:List O}{ps:List P}{room:Nat}(hp0:hp[p]?=some (.list (ps.map pv)))(y:ps.length<=1000)(z:ps≠[])(E:∀x∈ps,x.2.length<=100)(A:spl.length<=100)(g:room<=1000000)(H:(ay (ag ps) (stC (ag ps) spl room wd (ag ps).length)).all (λp=>bz p.1)=true->(stC (ag ps) spl room wd (ag ps).length).rows≠[]),
 ∃k f,run tabNow (n+1) 3 [.ref p,.int (room:Int),.int (wd:Int),.str (toS spl)] hp=some (.ref k,f)/\f[k]?=some (.list ((rowsOf (ag ps) spl room wd).map λl=>.str (toS l)))/\Ext hp f:=by
 revert p spl wd;exists bK,p,spl,wd,n,hp,ps,room;intros;have d:=cD ps;have m:=dD ps;have B:ag ps≠[]:=by
  refine dk (List.exists_cons_of_ne_nil z) λa r D=>?_;subst D;refine dk (fM a r) λc cs e=>?_;rw[e];simp
 have s:(ag ps).length<=1000:=by
  have:(ag ps).length<=(ag ps).flatten.length:=by
   have:∀C:List (List P),(∀c∈C,c≠[])->C.length<=C.flatten.length:=λC h=>by
    induction C with
    | nil=>simp
    | cons a r I=>
     have:=jE.mpr (h a (by simp));have:=I λc J=>h c (by simp[J]);rw[yd,zF,zL];exact fk2 ‹0<a.length› this
   exact this _ m
  rw[d]at this;exact zB this y
 rw[dr (by rfl) tab3 (loc:=[(nm "pairs",.ref p),(nm "room",.int (room:Int)),(nm "width",.int (wd:Int)),(nm "splitters",.str (toS spl))]) (by rfl)];show ∃k f,(exs (run tabNow n) B3 _).map _=_/\_
 rw[b3_eq,aD fL];have t:=got hp0;obtain⟨s1,o,K,L,G,N⟩:=sH (F:=run tabNow n) (st:=⟨(nm "begins",.ref hp.length)::[(nm "pairs",.ref p),(nm "room",.int (room:Int)),(nm "width",.int (wd:Int)),(nm "splitters",.str (toS spl))],hp++[.list []]⟩) (hp0:=hp) (p:=p) (ps:=ps) (spl:=spl) (wd:=wd) (b:=hp.length) y
  (r:=.asg (nm "rows") (.lst [])::.asg (nm "lead") (.str (⟨#[]⟩:Str))::.asg (nm "first") (.int 0)::.forR (nm "new") [.blt (nm "len") [.var (nm "begins")]] lu []::y3)
  ⟨rfl,rfl,rfl,t,old _ hp0,λk Q=>by show(hp++[O.list []])[k]?=_;rw[zU Q],by simp⟩ (zY _) rfl bQ
 rw[show(exs (run tabNow n) (.forR (nm "k") [.blt (nm "len") [.var (nm "pairs")]] Bw []::_) _)=_ from N];rw[aD fL,aD bL,aD ao];have u:=got G;have R:M ⟨(nm "first",.int 0)::(nm "lead",.str (⟨#[]⟩:Str))::(nm "rows",.ref s1.hp.length)::s1.loc,s1.hp++[.list []]⟩ hp p hp.length s1.hp.length (ag ps) spl wd ⟨[],[],0,room⟩:=by
  have v:Kept (["first","lead","rows"].map nm) s1.loc ((nm "first",.int 0)::(nm "lead",.str (⟨#[]⟩:Str))::(nm "rows",.ref s1.hp.length)::s1.loc):=((Kept.refl.put (by simp)).put (by simp)).put (by simp);refine⟨⟨(v.at _ rfl).trans o.pairs,(v.at _ rfl).trans K,(v.at _ rfl).trans o.spl,old _ (by rw[d];exact o.obj),old _ (by rw[G,GO,List.map_map];rfl)⟩,(v.at _ rfl).trans o.width,ab (b:="first") (by decide) (ab (b:="lead") (by decide) aa),ab (b:="first") (by decide) aa,aa,(v.at _ rfl).trans (L.trans rfl),bQ,?_,zY _,zg u,zd u,t⟩;exact(Ext.app ⟨o.len,o.frame⟩ _)
 refine cu (xB (F:=run tabNow n) m R g (by rw[d];exact y) s A (by rw[d];exact E) (rest:=y3)) λs2 S T U=>?_;rw[U];refine bY (GJ (F:=run tabNow n) m B S (by rw[d];exact y) s (by rw[d];exact E) T H) λk s3 V W X=>?_;rw[V];exact⟨k,s3.hp,rfl,W,X⟩
end
noncomputable abbrev Ent:=List Nat×List Nat
noncomputable def eV(e:Ent):V:=.tup [.str (toS e.1),.str (toS e.2)]
noncomputable def af(l:List Ent):List Nat:=l.flatMap λe=>e.1++e.2
structure FS where
 lines:List (List Nat)
 cur:List Ent
 init:Nat
noncomputable def fN(i:Nat)(s:List Nat):Bool:=i==0&&s.all yI
noncomputable def cV(l:List Ent):List Ent:=match l.getLast? with
 | none=>[([],[])]
 | some e=>if e=([32],[])then l.dropLast else l
noncomputable def bF(lines:List (List Nat))(i:Nat)(s:List Nat):List (List Nat):=
 if i+s.length=0 then lines else if fN i s && !lines.isEmpty then lines.dropLast++[lines.getLast?.getD []++s]else lines++[s]
noncomputable def aT(s:FS):FS:=⟨bF s.lines s.init (af (cV s.cur)),[],0⟩
noncomputable def iA(l:List Ent)(c i:Nat):Bool:=(yI c&&(l.getD i ([],[])).1.head?==some c)||(l.getD (i-1) ([],[])).2.getLast?==some c
noncomputable def eW(spl:List Nat)(l:List Ent):Option Nat:=spl.findSome? λc=>((yy 1 (l.length-1)).reverse).find? (iA l c)
noncomputable def aP(spl:List Nat)(wd:Nat)(s:FS)(e:Ent):FS:=
 if s.init+(af (s.cur++[e])).length<=wd then⟨s.lines,s.cur++[e],s.init⟩else
 match eW spl (s.cur++[e])with
 | some i=>⟨s.lines++[af ((s.cur++[e]).take i)],(s.cur++[e]).drop i,0⟩
 | none=>if 0<s.init then⟨(aT s).lines,[(if e.1=[]then[32]else e.1,e.2)],0⟩else⟨s.lines,s.cur++[e],s.init⟩
section
variable {F:Fs}{st s1 s2 s3 s4:St}{u v w:V}
theorem gS{a:X}{n:Str}{f k:Nat}(e:ev F a st=some (.ref k,s1))(g:evs F es s1=some (as,s2))(h:s1.hp[k]?=some (.inst fs))(b:s2.hp[k]?=some (.inst fs2))
 (i:fs.lookup n=none) (c:fs2.lookup n=none) (d:vfMeth.lookup n=some f) (j:F f (.ref k::as) s2.hp=some (v,hp')):ev F (.meth a n es) st=some (v,⟨s2.loc,hp'⟩):=by
 have l:=sX h i d;have m:=sX b c d;refine e_meth e g l m ?_;exact altR rfl (altR rfl (bS rfl (altR (nLI b) (bA (bS (oI b) (bS d (mX j)))))))
theorem eU{a:X}{n:Str}{f k:Nat}(g:ev F a st=some (.ref k,s1))(h:evs F es s1=some (as,s2))(i:s1.hp[k]?=some (.acc fs vs))(b:s2.hp[k]?=some (.acc fs2 vs2))
 (c:n≠nm "append") (j:fs.lookup n=none) (d:fs2.lookup n=none) (e:acMeth.lookup n=some f) (l:F f (.ref k::as) s2.hp=some (v,hp')):ev F (.meth a n es) st=some (v,⟨s2.loc,hp'⟩):=by
 have m:=mo_acc i c j e;have o:=mo_acc b c d e;exact e_meth g h m o (mv_acc b c e l)
theorem Ea{a e:X}{n:Str}{f k:Nat}{l:List bj}(i:ev F a st=some (.ref k,s1))(j:ev F e s1=some (.tup l,s2))(m:s1.hp[k]?=some (.acc fs vs))(b:s2.hp[k]?=some (.acc fs2 vs2))
 (d:n≠nm "append") (o:fs.lookup n=none) (g:fs2.lookup n=none) (h:acMeth.lookup n=some f) (c:l.length<=100) (p:F f (.ref k::l.map ofA) s2.hp=some (v,hp')):ev F (.methStar a n e) st=some (v,⟨s2.loc,hp'⟩):=by
 have q:=mo_acc m d o h;have r:=mo_acc b d g h;refine bS i (bS j ?_);exact bS rfl (bS q ((if_pos ⟨r,c⟩).trans (mv_acc b d h p)))
noncomputable abbrev aF(i:Nat):List (Str×V):=[(nm "_initial_size",.int (i:Int))]
noncomputable abbrev aU(i:Nat)(l:List Ent):O:=.acc (aF i) (l.map eV)
theorem aZ{i:Nat}{n:String}(h:(n=="_initial_size")=false):(aF i).lookup (nm n)=none:=by
 rw[zZ,b2,h];rfl
theorem iB:∀l:List Ent,pairsOf (l.map eV)=some (l.map λe=>(toS e.1,toS e.2))
 | []=>rfl
 | e::r=>mX (iB r)
theorem qj:∀(l:List Ent)(i:Nat),(l.map λe=>(toS e.1,toS e.2)).foldl (λn p=>n+((p.1.length:Int)+(p.2.length:Int))) (i:Int)=((i+(af l).length:Nat):Int)
 | [],i=>by simp[af]
 | e::r,i=>by
  have a:=qj r (i+(e.1.length+e.2.length));rw[zV,uL];simp only[dz];rw[show((i:Int)+((e.1.length:Int)+(e.2.length:Int)))=((i+(e.1.length+e.2.length):Nat):Int) by lia,a];congr 1;simp[af];simp +arith
theorem BD(l:List Ent):toS ((l.map λe=>(toS e.1,toS e.2)).flatMap λp=>p.1.cps.toList++p.2.cps.toList)=toS (af l):=by
 congr 1;rw[List.flatMap_map];simp[af,fy]
noncomputable def ci(i:Nat)(l:List Ent):Prop:=i<=1000/\l.length<=900/\∀e∈l,e.1.length<=900/\e.2.length<=900
variable {n k:Nat}{hp:List O}{i:Nat}{l:List Ent}
theorem eG{n f:Nat}{r:Option (V×List O)}(h:gV f as hp=some r):run tabNow (n+1) f as hp=r:=by
 rw[BI,h]
theorem mn{l:List Ent}(h:∀e∈l,e.1.length<=900/\e.2.length<=900):∀p∈l.map λe=>(toS e.1,toS e.2),p.1.length<=1000/\p.2.length<=1000:=λp hp=>
 (zv.mp hp).elim λe a=>by
  rw[<-a.2,dz,dz];exact⟨zB (h e a.1).1 (by decide),zB (h e a.1).2 (by decide)⟩
theorem run24(a:hp[k]?=some (aU i l))(b:ci i l):run tabNow (n+1) 24 [.ref k] hp=some (.int ((i+(af l).length:Nat):Int),hp):=
 cE b λe c d=>eG (congrArg some (bS rfl (bS rfl (bS (oA a) (bS (iB l) (bS aa (bS rfl ((if_pos ⟨bf (zX _) (by lia),zX _,by rw[zC];exact zB c (by decide),mn d⟩).trans (by rw[qj])))))))))
theorem run25:∀(a:hp[k]?=some (aU i l))(b:ci i l),run tabNow (n+1) 25 [.ref k] hp=some (.str (toS (af l)),hp):=by
 revert n k hp i l;exists ce5_,n,k,hp,i,l;intro a b;exact cE b λe c d=>eG (congrArg some (bS rfl (bS rfl (bS (oA a) (bS (iB l) ((if_pos ⟨by rw[zC];exact zB c (by decide),mn d⟩).trans (by rw[BD])))))))
theorem run28(a:hp[k]?=some (aU i l))(b:ci i l):run tabNow (n+1) 28 [.ref k] hp=some (.int (l.length:Int),hp):=
 cE b λd c e=>eG (congrArg some (bS rfl (bS rfl (bS (oA a) ((if_pos (by rw[zC];exact zB c (by decide))).trans (by rw[zC]))))))
theorem xG:∀(a:hp[k]?=some (aU i [])),run tabNow (n+1) 23 [.ref k] hp=some (eV ([],[]),hp):=by
 revert n k hp i;exists ce4_,n,k,hp,i;intro a;exact eG (congrArg some (bS rfl (bS rfl (bS (oA a) (if_pos ⟨jG _,aZ rfl⟩)))))
theorem rM:∀{e:Ent}(a:hp[k]?=some (aU i l))(b:l.getLast?=some e)(c:ci i l),run tabNow (n+1) 23 [.ref k] hp=some (eV e,hp.set k (aU i l.dropLast)):=by
 revert n k hp i l;exists dI,n,k,hp,i,l,e;intro a b c;exact cE c λf d g=>eG (congrArg some (bS rfl (bS rfl (bS (oA a) ((if_pos ⟨by rw[zC];exact zB d (by decide),aZ rfl⟩).trans (by rw[List.getLast?_map,b];simp only[jO,aU,uO]))))))
theorem run20(a:hp[k]?=some (.acc [] []))(b:i<=1000):run tabNow (n+1) 20 [.ref k,.int (i:Int)] hp=some (.none,hp.set k (aU i [])):=
 eG (congrArg some (bS rfl (bS rfl (bS rfl (bS (oA a) (if_pos ⟨jG _,bf (zX _) (by lia),jG _⟩))))))
theorem Ee:∀{a b:List Nat}(c:hp[k]?=some (aU i l))(e:l.length<=900),run tabNow (n+1) 21 [.ref k,.str (toS a),.str (toS b)] hp=some (.none,hp.set k (aU i (l++[(a,b)]))):=by
 revert n k hp i l;exists bK,n,k,hp,i,l,a,b;intros;have d:aW (.ref k) (nm "append") ⟨[(nm "self",.ref k),(nm "fws",.str (toS a)),(nm "string",.str (toS b))],hp⟩=some (.blt "list.append"):=altR rfl (altR rfl (bS rfl (altR (nLA c) (altR (nIA c) (bS (oA c) ((if_pos (aZ rfl)).trans (if_pos rfl)))))));refine lp rfl tab21 rfl ((bJ (v:=.none) (s1:=⟨[(nm "self",.ref k),(nm "fws",.str (toS a)),(nm "string",.str (toS b))],hp.set k (aU i (l++[(a,b)]))⟩) (bU (e_var aa) (co (e_var (ab (by decide) aa)) (e_var (ab (by decide) (ab (by decide) aa)))) d d
  (altR rfl (altR rfl (bS rfl (altR (nLA c) (altR (nIA c) (bS (oA c) ((if_pos rfl).trans (bS rfl ((if_pos ?_).trans ?_))))))))))).trans am)
 ·rw[zC];exact zB (uD e) (by decide)
 ·simp only[aU,zx];rfl
theorem run22:∀{j:Nat}(a:hp[k]?=some (aU i l))(b:l.length<=900)(c:j<=l.length),run tabNow (n+1) 22 [.ref k,.int (j:Int)] hp=
 some (.ref hp.length,(hp++[O.list ((l.drop j).map eV)]++[O.list []]).set k (aU i (l.take j))):=by
 revert n k hp i l;exists dI,n,k,hp,i,l,j;intros;refine(dr (by rfl) tab22 (loc:=[(nm "self",.ref k),(nm "i",.int (j:Int))]) (by rfl)).trans ?_;show(exs (run tabNow n) B22 _).map _=_
 rw[B22];have c1:cut l.length (j:Int)=j:=by unfold cut;rw[if_neg (ua.mpr (zX _))];exact jv c
 have e:fO (.ref k) (.int (j:Int)) .none ⟨[(nm "self",.ref k),(nm "i",.int (j:Int))],hp⟩=some (.ref hp.length,⟨[(nm "self",.ref k),(nm "i",.int (j:Int))],hp++[O.list ((l.drop j).map eV)]⟩):=by
  refine bS rfl (altR (nLA a) (bA (bS (oA a) ((if_pos (by rw[zC];exact zB b (by decide))).trans (bS (congrArg some (kq (by rw[zC];exact c))) (bS rfl ?_))))));rw[hG (zB kT (by rw[zC];exact zB b (by decide))),part,yX (by rw[yC];exact zY _),uP]
 rw[aD (dX (e_var aa) (e_var (ab (by decide) aa)) bT e)];have d:(hp++[O.list ((l.drop j).map eV)]++[O.list []])[k]?=some (aU i l):=old _ (old _ a);rw[aQ (pL (fL) (e_var (ab (by decide) aa)) (e_var (ab (by decide) (ab (by decide) aa))) bT (fV bQ) d (by rw[zC];exact congrArg some c1) rfl (by rw[zC];exact zB b (by decide))),cJ (e_var aa),zC,Nat.max_eq_right c,<-zC eV,List.drop_length,<-uk,zo,zo];rfl
end
section
variable {F:Fs}{st s1 s2 s3 s4:St}{u v w:V}{n k:Nat}{hp:List O}{i:Nat}{l:List Ent}
theorem Ah(a:st.hp[k]?=some (aU i l)):iF (.ref k) (nm "_initial_size") st=some (.int (i:Int)):=by
 exact bS rfl (altR (nIA a) (bS (oA a) aa))
theorem t0(d:st.hp[k]?=some (aU i l))(a:ci i l):n2 (run tabNow (n+1)) [.ref k] st=some (((i+(af l).length:Nat):Int),st):=by
 refine bS (mX (run24 d a)) (bS rfl (if_pos ⟨zX _,?_⟩));obtain⟨f,g,b⟩:=a;have:(af l).length<=1800*l.length:=cX l λe c=>by rw[zF];exact jY (b e c).1 (b e c).2
 exact bf (zX _) (by lia)
theorem Fw(a:st.hp[k]?=some (aU i l))(b:ci i l):a7 (run tabNow (n+1)) (.ref k) st=some (((i+(af l).length:Nat):Int) != 0,st):=altR rfl (altR rfl (altR rfl (bS rfl (altR (nLA a) (bS (oA a) (mX (t0 a b)))))))
theorem nH(a:st.hp[k]?=some (aU i l))(b:ci i l):iE (run tabNow (n+1)) (nm "len") [.ref k] st=some (.int ((i+(af l).length:Nat):Int),st):=bS rfl ((if_pos rfl).trans (altR rfl (bS rfl (altR (nLA a) (bS (oA a) (mX (t0 a b)))))))
theorem iy:∀(a:st.hp[k]?=some (aU i l))(b:ci i l),iE (run tabNow (n+1)) (nm "str") [.ref k] st=some (.str (toS (af l)),st):=by
 revert st n k i l;exists ce5_,st,n,k,i,l;intro a b;exact bS rfl ((if_neg (by decide)).trans ((if_neg (by decide)).trans ((if_neg (by decide)).trans ((if_neg (by decide)).trans ((if_neg (by decide)).trans ((if_pos rfl).trans (bS rfl (bS (oA a) (bS (mX (run25 a b)) rfl)))))))))
theorem vg(x:List Nat):cH (toS x)=(decide (0<x.length)&&x.all yI):=by
 simp only[cH,dJ,fy]
theorem run27:∀(e:hp[k]?=some (aU i l))(h:ci i l),run tabNow (n+2) 27 [.ref k] hp=some (.bool (fN i (af l)),hp):=by
 revert n k hp i l;exists ce5_,n,k,hp,i,l;intros;rw[dr (by rfl) tab27 (loc:=[(nm "self",.ref k)]) (by rfl)];show(exs (run tabNow (n+1)) B27 _).map _=_
 rw[B27];have a:ev (run tabNow (n+1)) (.cmp .Eq (.attr (.var (nm "self")) (nm "_initial_size")) (.int 0)) ⟨[(nm "self",.ref k)],hp⟩=some (.bool ((i:Int)==0),⟨[(nm "self",.ref k)],hp⟩):=
  Ab (rj (e_var aa) (Ah e)) ao tL
 by_cases f:i=0
 ·subst f;rw[show(((0:Nat):Int)==0)=true from rfl]at a;have c:ev (run tabNow (n+1)) (.not (.var (nm "self"))) ⟨[(nm "self",.ref k)],hp⟩=some (.bool _,⟨[(nm "self",.ref k)],hp⟩):=e_not (e_var aa) (Fw e h);by_cases d:af l=[]
  ·rw[d]at c;have g:ev (run tabNow (n+1)) (.not (.var (nm "self"))) ⟨[(nm "self",.ref k)],hp⟩=some (.bool true,⟨[(nm "self",.ref k)],hp⟩):=c;rw[cJ (th a (FN g)),d];rfl
  ·have b:=jE.mpr d;rw[show(!(((0+(af l).length:Nat):Int) != 0))=false by simp;exact d]at c;have j:ev (run tabNow (n+1)) (.meth (.blt (nm "str") [.var (nm "self")]) (nm "isspace") []) ⟨[(nm "self",.ref k)],hp⟩=some (.bool (cH (toS (af l))),⟨[(nm "self",.ref k)],hp⟩):=
    oJ (bR (e_var aa) (iy e h)) mo_isspace nl
   rw[cJ (th a (EZ c j)),vg];simp[fN,b]
 ·rw[show((i:Int)==0)=false from beq_false_of_ne (Int.ne_of_gt (jh.mpr (jQ f)))]at a;rw[cJ (CJ a)];simp[fN,f]
theorem f_set(a:st.hp[k]?=some (aU i l)){j:Nat}:et (.ref k) (nm "_initial_size") (.int (j:Int)) st=some ⟨st.loc,st.hp.set k (aU j l)⟩:=by
 refine bS rfl (altR (nIA a) (bS (oA a) ((if_pos (show 1<=100 by decide)).trans ?_)));rw[show setField (aF i) (nm "_initial_size") (.int (j:Int))=aF j from if_pos (beq_self_eq_true _)]
theorem lN{q:Nat}(c:st.loc.lookup (nm "self")=some (.ref k))(g:st.loc.lookup (nm "startval")=some (.ref q))(d:st.hp[k]?=some (aU i l))(h:st.hp[q]?=some (.list (l2.map eV)))(m:l.length<=900)(a:l2.length<=900):
 exs F [.asgSlice (.var (nm "self")) .none .none (.var (nm "startval")),.asgAttr (.var (nm "self")) (nm "_initial_size") (.int 0)] st=some (.next,⟨st.loc,st.hp.set k (aU 0 l2)⟩):=by
 have b:(⟨st.loc,st.hp.set k (aU i l2)⟩:St).loc.lookup (nm "self")=some (.ref k):=c;have e:=pL (F:=F) (e_var g) (e_var c) bT bT (fV h) d rfl rfl (by rw[zC,zC];exact zB (jY m a) (by decide));rw[List.take_zero,jN,Nat.zero_max,List.drop_length,zo]at e;have f:=f_set (st:=⟨st.loc,st.hp.set k (aU i l2)⟩) (i:=i) (l:=l2) (j:=0) (aG d);rw[List.set_set]at f;exact(aQ e).trans (aQ (x_attr ao (e_var b) f))
theorem run26(a:hp[k]?=some (aU i l))(b:l.length<=900):run tabNow (n+1) 26 [.ref k] hp=some (.none,(hp++[O.list []]).set k (aU 0 [])):=by
 exact lp rfl Ej rfl ((bI (t_cmp (e_var (ab (by decide) aa)) bT rfl) ((aD fL).trans am)).trans (lN (q:=hp.length) (l2:=[]) (ab (by decide) aa) aa (old _ a) bQ b (by decide)))
theorem Gs{q:Nat}(b:hp[k]?=some (aU i l))(c:l.length<=900)(d:hp[q]?=some (.list (l2.map eV)))(a:l2.length<=900):run tabNow (n+1) 26 [.ref k,.ref q] hp=some (.none,hp.set k (aU 0 l2)):=by
 exact lp rfl Ej rfl ((aR (t_cmp (e_var (ab (by decide) aa)) bT rfl)).trans (lN aa (ab (by decide) aa) b d c a))
noncomputable abbrev mF(spl:List Nat)(wd l a:Nat):List (Str×V):=[(nm "_maxlen",.int (wd:Int)),(nm "_continuation_ws",.str (toS [32])),(nm "_continuation_ws_len",.int 1),(nm "_splitchars",.str (toS spl)),(nm "_lines",.ref l),(nm "_current_line",.ref a)]
noncomputable abbrev cv(ls:List (List Nat)):O:=.list (ls.map λx=>.str (toS x))
structure FW (hp:List O) (m l a:Nat) (spl:List Nat) (wd:Nat) (s:FS):Prop where
 inst:hp[m]?=some (.inst (mF spl wd l a))
 lines:hp[l]?=some (cv s.lines)
 acc:hp[a]?=some (aU s.init s.cur)
 ml:m≠l
 ma:m≠a
 la:l≠a
noncomputable def bu(l a:Nat)(hp b:List O):Prop:=hp.length<=b.length/\∀k,k<hp.length->k≠l->k≠a->b[k]?=hp[k]?
theorem bu.refl{l a:Nat}:bu l a hp hp:=⟨zY _,λ_ _ _ _=>rfl⟩
theorem bu.trans{l a:Nat}{x y:List O}(h:bu l a x y)(b:bu l a y z):bu l a x z:=⟨zB h.1 b.1,λk c d e=>(b.2 k (zR c h.1) d e).trans (h.2 k c d e)⟩
theorem bu.app{l a:Nat}{x y:List O}(h:bu l a x y)(z:List O):bu l a x (y++z):=⟨by rw[zF];exact zB h.1 (zW _ _),λk b c d=>by rw[zU (zR b h.1)];exact h.2 k b c d⟩
theorem bu.setl{l a:Nat}{x y:List O}(h:bu l a x y)(o:O):bu l a x (y.set l o):=⟨by rw[List.length_set];exact h.1,λk c b d=>by rw[aq (λe=>b e.symm)];exact h.2 k c b d⟩
theorem bu.seta{l a:Nat}{x y:List O}(h:bu l a x y)(o:O):bu l a x (y.set a o):=⟨by rw[List.length_set];exact h.1,λk c d b=>by rw[aq (λe=>b e.symm)];exact h.2 k c d b⟩
theorem FW.app{m l a:Nat}{s:FS}(h:FW hp m l a spl wd s)(x:List O):FW (hp++x) m l a spl wd s:=⟨old _ h.inst,old _ h.lines,old _ h.acc,h.ml,h.ma,h.la⟩
theorem FW.seta{m l a:Nat}{s:FS}(h:FW hp m l a spl wd s)(i:Nat)(c:List Ent):FW (hp.set a (aU i c)) m l a spl wd ⟨s.lines,c,i⟩:=
 ⟨by rw[aq (λe=>h.ma e.symm)];exact h.inst,by rw[aq (λe=>h.la e.symm)];exact h.lines,aG h.acc,h.ml,h.ma,h.la⟩
theorem FW.setl{m l a:Nat}{s:FS}(h:FW hp m l a spl wd s)(ls:List (List Nat)):FW (hp.set l (cv ls)) m l a spl wd ⟨ls,s.cur,s.init⟩:=
 ⟨by rw[aq (λe=>h.ml e.symm)];exact h.inst,aG h.lines,by rw[aq h.la];exact h.acc,h.ml,h.ma,h.la⟩
theorem mf_at{l a:Nat}{m:Nat}(h:st.hp[m]?=some (.inst (mF spl wd l a))){x:Str}{v:V}(b:(mF spl wd l a).lookup x=some v):iF (.ref m) x st=some v:=by
 exact bS rfl (bA (bS (oI h) b))
theorem fS{l a:Nat}:(mF spl wd l a).lookup (nm "_lines")=some (.ref l):=by
 simp only[mF,zZ,b2,yb]
theorem cw{l a:Nat}:(mF spl wd l a).lookup (nm "_current_line")=some (.ref a):=by
 simp only[mF,zZ,b2,yb]
theorem Ga{l a:Nat}:(mF spl wd l a).lookup (nm "_maxlen")=some (.int (wd:Int)):=by
 simp only[mF,zZ,b2,yb]
theorem EV{l a:Nat}:(mF spl wd l a).lookup (nm "_splitchars")=some (.str (toS spl)):=by
 simp only[mF,zZ,b2,yb]
theorem de:∀{spl:List Nat}{wd l a:Nat}{x:String}(b:(["_maxlen","_continuation_ws","_continuation_ws_len","_splitchars","_lines","_current_line"].contains x)=false),(mF spl wd l a).lookup (nm x)=none:=by
 exists ce5_,spl,wd,l,a,x;intro b;simp only[ub,List.contains_nil,vF,Bool.or_eq_false_iff]at b;obtain⟨c,d,e,f,g,h⟩:=b;simp only[mF,zZ,b2,c,d,e,f,g,h,List.lookup_nil]
noncomputable def FS.size(s:FS):Nat:=s.lines.length+s.cur.length+s.lines.flatten.length+(af s.cur).length
noncomputable def SOk(s:FS):Prop:=s.init<=1000/\s.size<=800
theorem cz(a b:List Ent):af (a++b)=af a++af b:=by simp[af]
theorem rN{e:Ent}{l:List Ent}(h:e∈l):e.1.length<=(af l).length/\e.2.length<=(af l).length:=by
 induction l with
 | nil=>contradiction
 | cons a r b=>
  rw[show af (a::r)=(a.1++a.2)++af r from rfl,zF,zF];rcases zM.mp h with h|h
  ·subst h;exact⟨by simp +arith,by simp +arith⟩
  ·have:=b h;lia
theorem lz{i:Nat}{l:List Ent}(b:i<=1000)(c:l.length<=900)(a:(af l).length<=900):ci i l:=⟨b,c,λe d=>by have:=rN d;exact⟨zB this.1 a,zB this.2 a⟩⟩
theorem SOk.acc{s:FS}(h:SOk s):ci s.init s.cur:=by
 obtain⟨b,a⟩:=h;unfold FS.size at a;exact lz b (fk1 a) (fk1 a)
end
section
variable {F:Fs}{st s1 s2 s3 s4:St}{u v w:V}{n k:Nat}{hp:List O}{i m l a wd:Nat}{spl:List Nat}{s:FS}
theorem run23{c:List Ent}(b:hp[k]?=some (aU i c))(f:ci i c):run tabNow (n+1) 23 [.ref k] hp=some (eV (c.getLast?.getD ([],[])),hp.set k (aU i c.dropLast)):=by
 cases d:c.getLast? with
 | none=>
  rw[yH]at d;subst d;refine(xG b).trans ?_;rw[List.dropLast_nil,kK b];rfl
 | some e=>rw[rM b d f];rfl
theorem xL(c:List Ent):cV c=if c.getLast?.getD ([],[])=([32],[])then c.dropLast else c.dropLast++[c.getLast?.getD ([],[])]:=by
 unfold cV;cases b:c.getLast? with
 | none=>
  rw[yH]at b;subst b;rfl
 | some e=>
  simp only[vQ];split
  ·rfl
  ·exact(dropLast_append_of b).symm
where
 dropLast_append_of {c:List Ent}{e:Ent} (h:c.getLast?=some e):c.dropLast++[e]=c:=by
  obtain⟨hne,h⟩:=yk.mp h;subst h;simp
theorem nz(c:List Ent):(cV c).length<=c.length+1/\(af (cV c)).length<=(af c).length:=by
 unfold cV;cases d:c.getLast? with
 | none=>simp[af]
 | some e=>
  simp only;split
  ·refine eD (yk.mp d) λr b=>?_;subst b;rw[jo,cz,zF,zF];exact⟨by simp +arith,zW ..⟩
  ·exact⟨yq _,zY _⟩
theorem Cw{e:Ent}:fP .NotEq (eV e) (.tup [.str (⟨#[32]⟩:Str),.str (⟨#[]⟩:Str)]) st=some (!decide (e=([32],[]))):=by
 show fP .NotEq (.tup [.str (toS e.1),.str (toS e.2)]) (.tup [.str (toS [32]),.str (toS [])]) st=_
 refine mX (a:=decide (e=([32],[]))) (show eqV (.tup [.str (toS e.1),.str (toS e.2)]) (.tup [.str (toS [32]),.str (toS [])]) st=_ from altR rfl (altR rfl (bA (bS rfl (bS rfl ((if_pos rfl).trans (congrArg some ?_)))))));rw[uM];simp only[beq_iff_eq,decide_eq_true_eq,List.cons.injEq,bj.str.injEq,n7,and_true];obtain⟨x,y⟩:=e;simp
theorem GB{x y:Str}:ev F (.tup [.str x,.str y]) st=some (.tup [.str x,.str y],st):=by
 exact e_tup (oh bL bL) rfl
theorem l_str:∀{ls:List (List Nat)}(h:s1.hp[l]?=some (cv ls))(b:ls.length<=1000),a7 F (.ref l) s1=some (!ls.isEmpty,s1):=by
 revert F s1 l;exists ce4_,F,s1,l,ls;intros;exact altR rfl (altR rfl (altR rfl (bS rfl (bA (bS (oL h) ((if_pos (by rw[zC];exact zB b (by decide))).trans (by cases ls<;>rfl)))))))
theorem ce{l a m:Nat}{x:Str}{v:V}(b:st.loc.lookup (nm "self")=some (.ref m))(c:st.hp[m]?=some (.inst (mF spl wd l a)))(d:(mF spl wd l a).lookup x=some v):ev F (.attr (.var (nm "self")) x) st=some (v,st):=
 rj (e_var b) (mf_at c d)
theorem Ce:∀{ls:List (List Nat)}{x y:List Nat}{st:St}{i:X}{o e:X}(h:st.hp[l]?=some (cv ls))(d:ls.getLast?=some x)(p:ev F o st=some (.ref l,st))(q:ev F i st=some (.int (-1),st))(t:ev F e st=some (.str (toS y),st))(j:ls.length<=1000)(f:x.length+y.length<=1000000),
 ex F (.augItem o i e) st=some (.next,⟨st.loc,st.hp.set l (cv (ls.dropLast++[x++y]))⟩):=by
 revert F l;exists cc,F,l,ls,x,y,st,i,o,e;intros;have b:(ls.map λx=>V.str (toS x)).getLast?=some (.str (toS x)):=by rw[List.getLast?_map,d];rfl
 have c:0<ls.length:=by cases ls with|nil=>exact no d|cons _ _=>simp
 have z:(ls.map λx=>V.str (toS x))[ls.length-1]?=some (.str (toS x)):=by
  rw[yi,zC]at b;exact b
 have A:rS (toS x++toS y)=some (.str (toS (x++y))):=by
  rw[gZ];exact if_pos (by rw[dz,zF];exact f)
 refine(bS p (bS q (bS (kI h b (by rw[zC];exact zB j (zH ..))) (bS t (a:=(.str (toS y),st)) (r:=some (.next,⟨st.loc,st.hp.set l (.list ((ls.map λx=>V.str (toS x)).set (ls.length-1) (.str (toS (x++y)))))⟩)) ?_)))).trans ?_
 ·exact bS rfl (bS rfl (bS rfl (bS rfl (bS (oL h) (bS (by rw[zC];exact gO c (zB j (by decide))) ((if_pos z).trans (mX A)))))))
 refine eD (yk.mp d) λr g=>?_;subst g;rw[jo];simp[cv]
noncomputable def rn:List S:=[.ite (.and (.meth (.attr (.var (nm "self")) (nm "_current_line")) (nm "is_onlyws") []) (.attr (.var (nm "self")) (nm "_lines"))) [.augItem (.attr (.var (nm "self")) (nm "_lines")) (.neg (.int 1)) (.blt (nm "str") [.attr (.var (nm "self")) (nm "_current_line")])] [.expr (.meth (.attr (.var (nm "self")) (nm "_lines")) (nm "append") [.blt (nm "str") [.attr (.var (nm "self")) (nm "_current_line")]])]]
theorem FT:∀{r:List S}(h:FW st.hp m l a spl wd s)(y:ci s.init s.cur)(f:st.loc.lookup (nm "self")=some (.ref m))(z:s.lines.length<=900)(D:(af s.cur).length<=900)(E:s.lines.flatten.length<=900),
 ∃d,exs (run tabNow (n+2)) (.ite (.cmp .Gt (.blt (nm "len") [.attr (.var (nm "self")) (nm "_current_line")]) (.int 0)) rn []::r) st=exs (run tabNow (n+2)) r ⟨st.loc,d⟩/\
  FW d m l a spl wd ⟨bF s.lines s.init (af s.cur),s.cur,s.init⟩/\bu l a st.hp d:=by
 revert st n m l a wd spl s;exists cc,st,n,m,l,a,wd,spl,s,r;intros;have G:ev (run tabNow (n+2)) (.blt (nm "len") [.attr (.var (nm "self")) (nm "_current_line")]) st=some (.int ((s.init+(af s.cur).length:Nat):Int),st):=bR (ce f h.inst cw) (nH h.acc y);have g:=t_cmp G (ao (i:=0)) c_gt;by_cases o:s.init+(af s.cur).length=0
 ·rw[o]at g;refine⟨st.hp,?_,?_,bu.refl⟩
  ·exact(aR (s1:=st) (by rw[g];rfl))
  ·unfold bF;rw[if_pos o];exact h
 ·rw[decide_eq_true (by lia)]at g;have H:ev (run tabNow (n+2)) (.meth (.attr (.var (nm "self")) (nm "_current_line")) (nm "is_onlyws") []) st=some (.bool (fN s.init (af s.cur)),⟨st.loc,st.hp⟩):=
   eU (ce f h.inst cw) nU h.acc h.acc (by rw[Ne,fm];decide) (aZ rfl) (aZ rfl) (by simp only[acMeth,zZ,b2,yb]) (run27 h.acc y)
  have p:=Bs H;have q:evT (run tabNow (n+2)) (.attr (.var (nm "self")) (nm "_lines")) st=some (!s.lines.isEmpty,st):=Fm (ce f h.inst fS) (l_str h.lines (zB z (zH ..)));have C:ev (run tabNow (n+2)) (.blt (nm "str") [.attr (.var (nm "self")) (nm "_current_line")]) st=some (.str (toS (af s.cur)),st):=bR (ce f h.inst cw) (iy h.acc y);have b:exs (run tabNow (n+2)) [.expr (.meth (.attr (.var (nm "self")) (nm "_lines")) (nm "append") [.blt (nm "str") [.attr (.var (nm "self")) (nm "_current_line")]])] st=some (.next,⟨st.loc,st.hp.set l (cv (s.lines++[af s.cur]))⟩):=by
   refine(bJ (bU (ce f h.inst fS) C (mo_app h.lines) (mo_app h.lines) (qw h.lines (by rw[zC];exact zu z (by decide))))).trans ?_;refine am.trans ?_;simp[cv]
  by_cases j:fN s.init (af s.cur)=true
  ·rw[j]at p;by_cases t:s.lines=[]
   ·rw[t]at q;refine⟨_,bI g (by unfold rn;rw[kJ (dZ p q) b,am]),?_,bu.refl.setl _⟩;unfold bF;rw[if_neg o,t];simp only[List.isEmpty_nil,Bool.not_true,uH,yK,if_false];exact h.setl _
   ·obtain⟨x,A⟩:∃x,s.lines.getLast?=some x:=by
     cases e:s.lines.getLast? with
     | none=>exact absurd (yH.mp e) t
     | some x=>exact⟨x,rfl⟩
    have c:s.lines.isEmpty=false:=by cases e:s.lines with|nil=>exact absurd e t|cons _ _=>rfl
    have B:x.length<=s.lines.flatten.length:=by
     obtain⟨r,I⟩:=yk.mp A;rw[I];simp
    rw[c]at q;refine⟨_,bI g (by unfold rn;rw[bI (dZ p q) (s2:=⟨st.loc,st.hp.set l (cv (s.lines.dropLast++[x++af s.cur]))⟩) (by rw[aQ (Ce h.lines A (ce f h.inst fS) (gw ao) C (zB z (zH ..)) (fk3 D E B)),am]),am]),?_,bu.refl.setl _⟩;unfold bF;rw[if_neg o,j,c,A];exact h.setl _
  ·have j:fN s.init (af s.cur)=false:=by simpa using j
   rw[j]at p;refine⟨_,bI g (by unfold rn;rw[kJ (iP p) b,am]),?_,bu.refl.setl _⟩;unfold bF;rw[if_neg o,j];simp only[vM,yK,if_false];exact h.setl _
theorem Gl:B12=[.asg (nm "end_of_line") (.meth (.attr (.var (nm "self")) (nm "_current_line")) (nm "pop") []),.ite (.cmp .NotEq (.var (nm "end_of_line")) (.tup [.str (⟨#[32]⟩:Str),.str (⟨#[]⟩:Str)])) [.expr (.methStar (.attr (.var (nm "self")) (nm "_current_line")) (nm "push") (.var (nm "end_of_line")))] [],.ite (.cmp .Gt (.blt (nm "len") [.attr (.var (nm "self")) (nm "_current_line")]) (.int 0)) rn [],.expr (.meth (.attr (.var (nm "self")) (nm "_current_line")) (nm "reset") [])]:=rfl
theorem Eu(b:st.loc.lookup (nm "self")=some (.ref m))(h:FW st.hp m l a spl wd s)(c:ci s.init s.cur):ev (run tabNow (n+1)) (.meth (.attr (.var (nm "self")) (nm "_current_line")) (nm "pop") []) st=
 some (eV (s.cur.getLast?.getD ([],[])),⟨st.loc,st.hp.set a (aU s.init s.cur.dropLast)⟩):=
 eU (ce b h.inst cw) nU h.acc h.acc (by rw[Ne,fm];decide) (aZ rfl) (aZ rfl) (by simp only[acMeth,zZ,b2,yb]) (run23 h.acc c)
theorem Eo:∀(h:FW hp m l a spl wd s)(x:SOk s),∃b,run tabNow (n+3) 12 [.ref m] hp=some (.none,b)/\FW b m l a spl wd (aT s)/\bu l a hp b:=by
 revert n hp m l a wd spl s;exists bZ,n,hp,m,l,a,wd,spl,s;intros;rw[dr (by rfl) tab12 (loc:=[(nm "self",.ref m)]) (by rfl)];show ∃b,(exs (run tabNow (n+2)) B12 _).map _=_/\_
 rw[Gl,aD (Eu aa h x.acc)];have j:=x;refine aA j λo c=>?_;unfold FS.size at c;have d:=nz s.cur;have y:∃b,exs (run tabNow (n+2)) [.ite (.cmp .NotEq (.var (nm "end_of_line")) (.tup [.str (⟨#[32]⟩:Str),.str (⟨#[]⟩:Str)])) [.expr (.methStar (.attr (.var (nm "self")) (nm "_current_line")) (nm "push") (.var (nm "end_of_line")))] [],.ite (.cmp .Gt (.blt (nm "len") [.attr (.var (nm "self")) (nm "_current_line")]) (.int 0)) rn [],.expr (.meth (.attr (.var (nm "self")) (nm "_current_line")) (nm "reset") [])]
  ⟨(nm "end_of_line",eV (s.cur.getLast?.getD ([],[])))::[(nm "self",.ref m)],hp.set a (aU s.init s.cur.dropLast)⟩=
  exs (run tabNow (n+2)) [.ite (.cmp .Gt (.blt (nm "len") [.attr (.var (nm "self")) (nm "_current_line")]) (.int 0)) rn [],.expr (.meth (.attr (.var (nm "self")) (nm "_current_line")) (nm "reset") [])] ⟨(nm "end_of_line",eV (s.cur.getLast?.getD ([],[])))::[(nm "self",.ref m)],b⟩/\FW b m l a spl wd ⟨s.lines,cV s.cur,s.init⟩/\bu l a hp b:=by
  have p:(⟨(nm "end_of_line",eV (s.cur.getLast?.getD ([],[])))::[(nm "self",.ref m)],hp.set a (aU s.init s.cur.dropLast)⟩:St).loc.lookup (nm "self")=some (.ref m):=ab (by decide) aa;have hF:=h.seta s.init s.cur.dropLast;have f:=t_cmp (F:=run tabNow (n+2)) (st:=⟨(nm "end_of_line",eV (s.cur.getLast?.getD ([],[])))::[(nm "self",.ref m)],hp.set a (aU s.init s.cur.dropLast)⟩) (e_var aa) GB Cw;rw[xL];by_cases g:s.cur.getLast?.getD ([],[])=([32],[])
  ·rw[decide_eq_true g]at f;exact⟨_,aR f,by rw[if_pos g];exact hF,bu.refl.seta _⟩
  ·rw[decide_eq_false g]at f;refine⟨_,bI f (bJ (Ea (ce p hF.inst cw) (e_var aa) hF.acc hF.acc (by rw[Ne,fm];decide) (aZ rfl) (aZ rfl) (by simp only[acMeth,zZ,b2,yb]) (by simp) (Ee hF.acc ?_)) |>.trans am),?_,?_⟩
   ·show s.cur.dropLast.length<=900
    rw[List.length_dropLast];exact fk2 c (yj s.cur.length 1)
   ·rw[if_neg g];exact hF.seta _ _
   ·exact(bu.refl.seta _).seta _
 refine cu y λq z A B=>?_;rw[z];refine cu (FT (n:=n) (st:=⟨(nm "end_of_line",eV (s.cur.getLast?.getD ([],[])))::[(nm "self",.ref m)],q⟩) (r:=[.expr (.meth (.attr (.var (nm "self")) (nm "_current_line")) (nm "reset") [])]) A (lz o (by show(cV s.cur).length<=900;exact fk2 c d.1) (by show(af (cV s.cur)).length<=900;exact fk2 c d.2)) (ab (by decide) aa) (by show s.lines.length<=900;exact fk1 c) (by show(af (cV s.cur)).length<=900;exact fk2 c d.2) (by show s.lines.flatten.length<=900;exact fk1 c)) λt C e D=>?_;rw[C];have p:(⟨(nm "end_of_line",eV (s.cur.getLast?.getD ([],[])))::[(nm "self",.ref m)],t⟩:St).loc.lookup (nm "self")=some (.ref m):=ab (by decide) aa;have E:(cV s.cur).length<=900:=fk2 c d.1;rw[bJ (eU (ce p e.inst cw) nU e.acc e.acc (by rw[Ne,fm];decide) (aZ rfl) (aZ rfl) (by simp only[acMeth,zZ,b2,yb]) (run26 e.acc E)),am];refine⟨_,rfl,?_,?_⟩
 ·exact(e.app _).seta 0 []
 ·exact((B.trans D).app _).seta _
end
section
variable {F:Fs}{st s1 s2 s3 s4:St}{u v w:V}{n k:Nat}{hp:List O}{i m l a wd:Nat}{spl:List Nat}{s:FS}
theorem gM{j:Type}{f:V->St->Option (R×St)}{rest:St->Option (R×St)}(g:j->V)(d:j->Option Nat)(A:St->Prop)(Q:Nat->St->Prop):∀(l:List j)(st:St),A st->
 (∀x∈l,∀st,A st->match d x with
  | some i=>∃b,f (g x) st=some (.brk,b)/\Q i b
  | none=>∃b,(f (g x) st=some (.next,b)\/f (g x) st=some (.cont,b))/\A b)->
 match l.findSome? d with
  | some i=>∃b,turns f rest (l.map g) st=some (.next,b)/\Q i b
  | none=>∃b,turns f rest (l.map g) st=rest b/\A b
 | [],st,h,_=>(av st rfl h)
 | x::r,st,h,hf=>by
  have c:=hf x (zj ..) st h;simp only[jy];cases e:d x with
  | some i=>
   rw[e]at c;refine el12 c λb o p=>?_;exact av b (bS o rfl) p
  | none=>
   replace c:=e▸c
   refine el12 c λb o p=>?_;have q:turns f rest ((x::r).map g) st=turns f rest (r.map g) b:=qH o;exact q▸(gM (rest:=rest) g d A Q r b p λx t=>hf x (zy _ t))
theorem kg:∀m:Nat,aX m (m:Int) (-1)=((yy 1 m).reverse).map λi:Nat=>V.int (i:Int)
 | 0=>rfl
 | m+1=>by
  simp only[aX,List.range'_concat,List.reverse_concat,zV,show((m+1:Nat):Int) + -1=(m:Int) by lia,kg m];congr 2;lia
noncomputable def wa:List S:=[.ite (.meth (.var (nm "ch")) (nm "isspace") []) [.asg (nm "fws") (.item (.item (.attr (.var (nm "self")) (nm "_current_line")) (.var (nm "i"))) (.int 0)),.ite (.and (.var (nm "fws")) (.cmp .Eq (.item (.var (nm "fws")) (.int 0)) (.var (nm "ch")))) [.brk] []] [],.asg (nm "prevpart") (.item (.item (.attr (.var (nm "self")) (nm "_current_line")) (.bin .sub (.var (nm "i")) (.int 1))) (.int 1)),.ite (.and (.var (nm "prevpart")) (.cmp .Eq (.item (.var (nm "prevpart")) (.neg (.int 1))) (.var (nm "ch")))) [.brk] []]
theorem rK{x:List Nat}(h:x.length<=1000000):a7 F (.str (toS x)) st=some (x.length != 0,st):=by
 exact altR rfl (altR rfl (bA (bS rfl ((if_pos (by rw[dz];exact h)).trans (by rw[dJ])))))
theorem Es{y:String}{x:List Nat}{j:X}{c:Nat}{o:Option Nat}(g:st.loc.lookup (nm y)=some (.str (toS x)))(p:st.loc.lookup (nm "ch")=some (.str (toS [c])))(q:x.length<=1000)
 (r:x=[]->o=none) (t:∀d,o=some d->ev F (.item (.var (nm y)) j) st=some (.str (toS [d]),st)) (z:x≠[]->∃d,o=some d):
 evT F (.and (.var (nm y)) (.cmp .Eq (.item (.var (nm y)) j) (.var (nm "ch")))) st=some (o==some c,st):=by
 have b:evT F (.var (nm y)) st=some (x.length != 0,st):=Ef g (rK (zB q (zH ..)));by_cases h:x=[]
 ·refine(r h)▸?_;rw[h]at b;exact iP b
 ·refine eD (z h) λd f=>?_;have:x.length≠0:=λe=>h (zk.mp e);rw[show(x.length != 0)=true by simp[h]]at b;refine f▸?_;refine dZ b (t_cmp (t d f) (e_var p) ?_);refine xH.trans ?_;congr 1;rw[uM];simp
theorem pJ{c:Nat}:cH (toS [c])=yI c:=by
 rw[vg];simp
theorem Ag:∀{c:Nat}(h:FW st.hp m l a spl wd s)(P:ci s.init s.cur)(K:st.loc.lookup (nm "self")=some (.ref m))(q:st.loc.lookup (nm "ch")=some (.str (toS [c])))(L:st.loc.lookup (nm "i")=some (.int (i:Int)))(Q:0<i)(G:i<s.cur.length),
 ∃b,exs F wa st=some (if iA s.cur c i then .brk else .next,b)/\b.hp=st.hp/\Kept (["fws","prevpart"].map nm) st.loc b.loc:=by
 revert F st i m l a wd spl s;exists ce10_,F,st,i,m,l,a,wd,spl,s,c;intros;refine cE P λR A B=>?_;have p:∀j (M:j<s.cur.length),s.cur.getD j ([],[])=s.cur[j]:=λj M=>by simp[uj,M]
 have f:∀s1:St,s1.hp=st.hp->Kept (["fws","prevpart"].map nm) st.loc s1.loc->
  ∃b,exs F [.asg (nm "prevpart") (.item (.item (.attr (.var (nm "self")) (nm "_current_line")) (.bin .sub (.var (nm "i")) (.int 1))) (.int 1)),.ite (.and (.var (nm "prevpart")) (.cmp .Eq (.item (.var (nm "prevpart")) (.neg (.int 1))) (.var (nm "ch")))) [.brk] []] s1=
   some (if(s.cur.getD (i-1) ([],[])).2.getLast?==some c then .brk else .next,b)/\b.hp=st.hp/\Kept (["fws","prevpart"].map nm) st.loc b.loc:=by
  intro s1 q1 H;have S:=(H.at "self" rfl).trans K;have T:=(H.at "ch" rfl).trans q;have U:=(H.at "i" rfl).trans L;have N:FW s1.hp m l a spl wd s:=q1▸h;have r:i-1<s.cur.length:=Nat.sub_lt_of_lt G;have J:dp (.ref a) (.int ((i:Int)-1)) s1=some (eV s.cur[i-1]):=by
   refine(Bn (i:=i-1) ((Int.ofNat_sub Q).symm) N.acc (by rw[zC];exact r) (by rw[zC];exact zB A (zH ..))).trans ?_;rw[List.getElem_map]
  have I:ev F (.item (.item (.attr (.var (nm "self")) (nm "_current_line")) (.bin .sub (.var (nm "i")) (.int 1))) (.int 1)) s1=some (.str (toS s.cur[i-1].2),s1):=
   bh (bh (ce S N.inst cw) (aM (e_var U) ao (mW (by lia) (by lia))) J) ao tB
  rw[aD I,p _ r];have C:=B _ (yZ r);have g:=Es (F:=F) (st:=⟨(nm "prevpart",.str (toS s.cur[i-1].2))::s1.loc,s1.hp⟩) (y:="prevpart") (x:=s.cur[i-1].2) (j:=.neg (.int 1)) (c:=c) (o:=s.cur[i-1].2.getLast?) aa (ab (by decide) T) (zB C.2 (zH ..))
   (λe=>congrArg _ e) (λd t=>bh (e_var aa) (gw ao) (AW t (zB C.2 (zH ..)))) (λe=>by
    cases t:s.cur[i-1].2.getLast? with
    | none=>exact absurd (yH.mp t) e
    | some d=>exact⟨d,rfl⟩)
  refine cy ⟨(nm "prevpart",.str (toS s.cur[i-1].2))::s1.loc,s1.hp⟩ ?_ q1 (H.put (by simp));cases D:s.cur[i-1].2.getLast?==some c with
  | true=>
   rw[D]at g;exact dh g Bz (by simp)
  | false=>
   rw[D]at g;refine(aR g).trans ?_;refine am.trans ?_;rfl
 have z:evT F (.meth (.var (nm "ch")) (nm "isspace") []) st=some (yI c,st):=by
  exact pJ▸(Bs (oJ (e_var q) mo_isspace nl))
 delta wa iA
 cases E:yI c with
 | false=>
  rw[E]at z;rw[aR z];simp only[vM,Bool.false_or];exact f st rfl Kept.refl
 | true=>
  replace z:=E▸z
  have J:dp (.ref a) (.int (i:Int)) st=some (eV s.cur[i]):=by
   refine(Bn (i:=i) rfl h.acc (by rw[zC];exact G) (by rw[zC];exact zB A (zH ..))).trans ?_;rw[List.getElem_map]
  have I:ev F (.item (.item (.attr (.var (nm "self")) (nm "_current_line")) (.var (nm "i"))) (.int 0)) st=some (.str (toS s.cur[i].1),st):=
   bh (bh (ce K h.inst cw) (e_var L) J) ao qD
  have C:=B _ (yZ G);have g:=Es (F:=F) (st:=⟨(nm "fws",.str (toS s.cur[i].1))::st.loc,st.hp⟩) (y:="fws") (x:=s.cur[i].1) (j:=.int 0) (c:=c) (o:=s.cur[i].1.head?) aa (ab (by decide) q) (zB C.1 (zH ..))
   (λe=>congrArg _ e) (λd t=>bh (e_var aa) ao (xg t (zB C.1 (zH ..)))) (λe=>by
    cases t:s.cur[i].1.head? with
    | none=>exact absurd (List.head?_eq_none_iff.mp t) e
    | some d=>exact⟨d,rfl⟩)
  refine(p i G)▸?_;cases D:s.cur[i].1.head?==some c with
  | true=>
   rw[D]at g;refine cy ⟨(nm "fws",.str (toS s.cur[i].1))::st.loc,st.hp⟩ ?_ rfl (Kept.refl.put (by simp));exact dh z ((aD I).trans (dh g Bz (by simp))) (by simp)
  | false=>
   rw[D]at g;rw[bI z (s2:=⟨(nm "fws",.str (toS s.cur[i].1))::st.loc,st.hp⟩) ((aD I).trans ((aR g).trans am))];simp only[uH,Bool.false_or];exact f ⟨(nm "fws",.str (toS s.cur[i].1))::st.loc,st.hp⟩ rfl (Kept.refl.put (by simp))
end
section
variable {F:Fs}{st s1 s2 s3 s4:St}{u v w:V}{n k:Nat}{hp:List O}{i m l a wd:Nat}{spl:List Nat}{s:FS}
theorem rq{k:Nat}(h:k<=1000):iM [.int (k:Int),.int 0,.int (-1)]=some (aX k (k:Int) (-1)):=by
 refine altR rfl (altR rfl (bS rfl (bS rfl (bS rfl (bS rfl ((if_pos ⟨rfl,?_⟩).trans ?_))))))
 ·show some (aX ((k:Int)-0).toNat (k:Int) (-1))=_
  rw[Int.sub_zero,Int.toNat_natCast]
 ·show(aH (k:Int)&&aH 0&&decide ((k:Int)-0<=100000))=true
  rw[bf (zX _) (uZ.mpr (zB h (zH ..))),bf (zX _) (zX _)];exact decide_eq_true (by lia)
theorem fQ(p:Nat->Bool):∀l:List Nat,(l.findSome? λi=>if p i then some i else none)=l.find? p
 | []=>rfl
 | a::r=>by
  rw[jy,uf,fQ p r];cases p a<;>rfl
noncomputable def gv:List S:=[.forR (nm "i") [.bin .sub (.meth (.attr (.var (nm "self")) (nm "_current_line")) (nm "part_count") []) (.int 1),.int 0,.neg (.int 1)] wa [.cont],.brk]
theorem wc{c:Nat}(h:FW st.hp m l a spl wd s)(r:ci s.init s.cur)(C:st.loc.lookup (nm "self")=some (.ref m))(t:st.loc.lookup (nm "ch")=some (.str (toS [c])))(D:0<s.cur.length):
 match((yy 1 (s.cur.length-1)).reverse).find? (iA s.cur c)with
 | some i=>∃b,exs (run tabNow (n+1)) gv st=some (.brk,b)/\(b.hp=st.hp/\Kept (["i","fws","prevpart"].map nm) st.loc b.loc/\b.loc.lookup (nm "i")=some (.int (i:Int)))
 | none=>∃b,exs (run tabNow (n+1)) gv st=some (.cont,b)/\(b.hp=st.hp/\Kept (["i","fws","prevpart"].map nm) st.loc b.loc):=by
 have y:=r;refine cE y λJ z L=>?_;have q:=gM (f:=λv s=>exs (run tabNow (n+1)) wa (s.set (nm "i") v)) (rest:=λs=>exs (run tabNow (n+1)) [.cont] s) (λi:Nat=>V.int (i:Int)) (λi=>if iA s.cur c i then some i else none)
  (λs'=>s'.hp=st.hp/\Kept (["i","fws","prevpart"].map nm) st.loc s'.loc) (λi s'=>s'.hp=st.hp/\Kept (["i","fws","prevpart"].map nm) st.loc s'.loc/\s'.loc.lookup (nm "i")=some (.int (i:Int)))
  ((yy 1 (s.cur.length-1)).reverse) st ⟨rfl,Kept.refl⟩ (λx A s' d=>aA d λq1 B=>by
   have A:=List.mem_range'.mp (List.mem_reverse.mp A);obtain⟨j,M,rfl⟩:=A;have K:=B.put (x:=nm "i") (v:=.int ((1+1*j:Nat):Int)) (by simp);refine cu (Ag (F:=run tabNow (n+1)) (st:=⟨(nm "i",.int ((1+1*j:Nat):Int))::s'.loc,s'.hp⟩) (i:=1+1*j) (c:=c) (by rw[q1];exact h) r (ab (by decide) ((B.at "self" rfl).trans C)) (ab (by decide) ((B.at "ch" rfl).trans t)) aa (zW ..) (fk2 M (sb D))) λb e p E=>?_;have G:=K.trans (E.mono (ys:=["i","fws","prevpart"].map nm) (by simp));show(match(if iA s.cur c (1+1*j)then some (1+1*j)else none)with|some i=>_|none=>_)
   cases H:iA s.cur c (1+1*j)with
   | true=>
    rw[H]at e;exact⟨b,e,p.trans q1,G,(E.at "i" rfl).trans aa⟩
   | false=>
    rw[H]at e;exact⟨b,.inl e,p.trans q1,G⟩)
 rw[fQ]at q;have o:evs (run tabNow (n+1)) [.bin .sub (.meth (.attr (.var (nm "self")) (nm "_current_line")) (nm "part_count") []) (.int 1),.int 0,.neg (.int 1)] st=some ([.int ((s.cur.length-1:Nat):Int),.int 0,.int (-1)],st):=by
  refine evs3 (aM (eU (ce C h.inst cw) nU h.acc h.acc (by rw[Ne,fm];decide) (aZ rfl) (aZ rfl) (by simp only[acMeth,zZ,b2,yb]) (run28 h.acc r)) ao ?_) ao (gw ao);rw[mW (by lia) (by lia),show((s.cur.length:Int)-1)=((s.cur.length-1:Nat):Int) by exact(Int.ofNat_sub D).symm]
 have g:ex (run tabNow (n+1)) (.forR (nm "i") [.bin .sub (.meth (.attr (.var (nm "self")) (nm "_current_line")) (nm "part_count") []) (.int 1),.int 0,.neg (.int 1)] wa [.cont]) st=
  turns (λv s=>exs (run tabNow (n+1)) wa (s.set (nm "i") v)) (λs=>exs (run tabNow (n+1)) [.cont] s) (((yy 1 (s.cur.length-1)).reverse).map λi:Nat=>V.int (i:Int)) st:=by
  rw[<-kg];exact bS o (bX (rq (fk2 z (yj s.cur.length 1))))
 cases I:((yy 1 (s.cur.length-1)).reverse).find? (iA s.cur c)with
 | some i=>
  rw[I]at q;refine el12 q λb e p=>?_;exact⟨b,by unfold gv;rw[aQ (g.trans e),Bz],p⟩
 | none=>
  rw[I]at q;refine el12 q λb e p=>?_;exact⟨b,by unfold gv;exact kO (g.trans (e.trans ro)) (by simp),p⟩
theorem Bq(h:FW st.hp m l a spl wd s)(y:ci s.init s.cur)(q:st.loc.lookup (nm "self")=some (.ref m))(z:0<s.cur.length):
 match eW spl s.cur with
 | some i=>∃b,ex (run tabNow (n+1)) (.forV (nm "ch") (.attr (.var (nm "self")) (nm "_splitchars")) gv ob) st=some (.next,b)/\(b.hp=st.hp/\Kept (["ch","i","fws","prevpart"].map nm) st.loc b.loc/\b.loc.lookup (nm "i")=some (.int (i:Int)))
 | none=>∃b,ex (run tabNow (n+1)) (.forV (nm "ch") (.attr (.var (nm "self")) (nm "_splitchars")) gv ob) st=exs (run tabNow (n+1)) ob b/\(b.hp=st.hp/\Kept (["ch","i","fws","prevpart"].map nm) st.loc b.loc):=by
 have A:=gM (f:=λv s=>exs (run tabNow (n+1)) gv (s.set (nm "ch") v)) (rest:=λs=>exs (run tabNow (n+1)) ob s) (λc:Nat=>V.str (one c)) (λc=>((yy 1 (s.cur.length-1)).reverse).find? (iA s.cur c))
  (λs'=>s'.hp=st.hp/\Kept (["ch","i","fws","prevpart"].map nm) st.loc s'.loc) (λi s'=>s'.hp=st.hp/\Kept (["ch","i","fws","prevpart"].map nm) st.loc s'.loc/\s'.loc.lookup (nm "i")=some (.int (i:Int)))
  spl st ⟨rfl,Kept.refl⟩ (λc C s' d=>aA d λq1 r=>by
   have K:=r.put (x:=nm "ch") (v:=.str (one c)) (by simp);have g:=wc (n:=n) (st:=⟨(nm "ch",.str (toS [c]))::s'.loc,s'.hp⟩) (c:=c) (by rw[q1];exact h) y (ab (by decide) ((r.at "self" rfl).trans q)) aa z;show(match((yy 1 (s.cur.length-1)).reverse).find? (iA s.cur c)with|some i=>_|none=>_)
   cases t:((yy 1 (s.cur.length-1)).reverse).find? (iA s.cur c)with
   | some i=>
    rw[t]at g;refine lB g λb j o p B=>?_;exact⟨b,j,o.trans q1,K.trans (p.mono (ys:=["ch","i","fws","prevpart"].map nm) (by simp)),B⟩
   | none=>
    rw[t]at g;refine cu g λb j o p=>?_;exact⟨b,.inr j,o.trans q1,K.trans (p.mono (ys:=["ch","i","fws","prevpart"].map nm) (by simp))⟩)
 have e:ex (run tabNow (n+1)) (.forV (nm "ch") (.attr (.var (nm "self")) (nm "_splitchars")) gv ob) st=
  turns (λv s=>exs (run tabNow (n+1)) gv (s.set (nm "ch") v)) (λs=>exs (run tabNow (n+1)) ob s) (spl.map λc:Nat=>V.str (one c)) st:=by
  exact bX (ce q h.inst EV)
 rw[e];exact A
noncomputable def Aw:List S:=[.asg (nm "remainder") (.meth (.attr (.var (nm "self")) (nm "_current_line")) (nm "pop_from") [.var (nm "i")]),.expr (.meth (.attr (.var (nm "self")) (nm "_lines")) (nm "append") [.blt (nm "str") [.attr (.var (nm "self")) (nm "_current_line")]]),.expr (.meth (.attr (.var (nm "self")) (nm "_current_line")) (nm "reset") [.var (nm "remainder")])]
theorem Db:∀(h:FW st.hp m l a spl wd s)(H:ci s.init s.cur)(I:(af s.cur).length<=900)(p:st.loc.lookup (nm "self")=some (.ref m))(J:st.loc.lookup (nm "i")=some (.int (i:Int)))(K:i<=s.cur.length)(L:s.lines.length<=900),
 ∃d,exs (run tabNow (n+1)) Aw st=some (.next,d)/\FW d.hp m l a spl wd ⟨s.lines++[af (s.cur.take i)],s.cur.drop i,0⟩/\bu l a st.hp d.hp:=by
 revert st n i m l a wd spl s;exists cc,st,n,i,m,l,a,wd,spl,s;intros;refine cE H λq e M=>?_;have g:s.cur.length<=900:=e;unfold Aw;rw[aD (eU (ce p h.inst cw) (gp (e_var J)) h.acc h.acc (by rw[Ne,fm];decide) (aZ rfl) (aZ rfl) (by simp only[acMeth,zZ,b2,yb]) (run22 h.acc g K))];have c:=((h.app [O.list ((s.cur.drop i).map eV)]).app [O.list []]).seta s.init (s.cur.take i);have D:bu l a st.hp ((st.hp++[O.list ((s.cur.drop i).map eV)]++[O.list []]).set a (aU s.init (s.cur.take i))):=((bu.refl.app _).app _).seta _;have E:((st.hp++[O.list ((s.cur.drop i).map eV)]++[O.list []]).set a (aU s.init (s.cur.take i)))[st.hp.length]?=some (.list ((s.cur.drop i).map eV)):=by
  refine(aq (zd (got h.acc))).trans ?_;exact old _ bQ
 generalize (st.hp++[O.list ((s.cur.drop i).map eV)]++[O.list []]).set a (aU s.init (s.cur.take i))=b at c D E⊢;have j:(⟨(nm "remainder",.ref st.hp.length)::st.loc,b⟩:St).loc.lookup (nm "self")=some (.ref m):=ab (by decide) p;have r:(af (s.cur.take i)).length<=(af s.cur).length:=by
  have:=congrArg jp (cz (s.cur.take i) (s.cur.drop i));rw[jc,zF]at this;exact fk1 (eqg this)
 have t:ci s.init (s.cur.take i):=lz q (by rw[yP];exact fk2 e (jT i s.cur.length)) (zB r I);have N:ev (run tabNow (n+1)) (.blt (nm "str") [.attr (.var (nm "self")) (nm "_current_line")]) ⟨(nm "remainder",.ref st.hp.length)::st.loc,b⟩=some (.str (toS (af (s.cur.take i))),_):=bR (ce j c.inst cw) (iy c.acc t);have y:(s.lines.map λx=>V.str (toS x)).length<1000000:=by rw[zC];exact zu L (by decide)
 rw[bJ (bU (ce j c.inst fS) N (mo_app c.lines) (mo_app c.lines) (qw c.lines y))];have f:=c.setl (s.lines++[af (s.cur.take i)]);have G:=D.setl (cv (s.lines++[af (s.cur.take i)]));have o:(b.set l (cv (s.lines++[af (s.cur.take i)])))[st.hp.length]?=some (.list ((s.cur.drop i).map eV)):=by
  refine(aq (zd (got h.lines))).trans ?_;exact E
 rw[show O.list ((s.lines.map λx=>V.str (toS x))++[.str (toS (af (s.cur.take i)))])=cv (s.lines++[af (s.cur.take i)]) by simp[cv]];generalize b.set l (cv (s.lines++[af (s.cur.take i)]))=z at f G o⊢;have A:(⟨(nm "remainder",.ref st.hp.length)::st.loc,z⟩:St).loc.lookup (nm "self")=some (.ref m):=ab (by decide) p;have B:(s.cur.take i).length<=900:=by rw[yP];lia
 have C:(s.cur.drop i).length<=900:=by rw[yC];exact zB (yj ..) e
 rw[bJ (eU (ce A f.inst cw) (gp (e_var aa)) f.acc f.acc (by rw[Ne,fm];decide) (aZ rfl) (aZ rfl) (by simp only[acMeth,zZ,b2,yb]) (Gs f.acc B o C)),am];exact⟨_,rfl,f.seta 0 (s.cur.drop i),G.seta _⟩
end
section
variable {F:Fs}{st s1 s2 s3 s4:St}{u v w:V}{n k:Nat}{hp:List O}{i m l a wd:Nat}{spl:List Nat}{s:FS}
noncomputable def Bu:List S:=[.asg2 (nm "fws") (nm "part") (.meth (.attr (.var (nm "self")) (nm "_current_line")) (nm "pop") []),.ite (.cmp .Gt (.attr (.attr (.var (nm "self")) (nm "_current_line")) (nm "_initial_size")) (.int 0)) [.expr (.meth (.var (nm "self")) (nm "newline") []),.ite (.not (.var (nm "fws"))) [.asg (nm "fws") (.str (⟨#[32]⟩:Str))] []] [],.expr (.meth (.attr (.var (nm "self")) (nm "_current_line")) (nm "push") [.var (nm "fws"),.var (nm "part")]),.ret (.none)]
theorem oO{x y:String}{p q:List Nat}(b:st.loc.lookup (nm "self")=some (.ref m))(h:FW st.hp m l a spl wd s)(c:s.cur.length<=900)(d:st.loc.lookup (nm x)=some (.str (toS p)))(e:st.loc.lookup (nm y)=some (.str (toS q))):ev (run tabNow (n+1)) (.meth (.attr (.var (nm "self")) (nm "_current_line")) (nm "push") [.var (nm x),.var (nm y)]) st=
 some (.none,⟨st.loc,st.hp.set a (aU s.init (s.cur++[(p,q)]))⟩):=
 eU (ce b h.inst cw) (oh (e_var d) (e_var e)) h.acc h.acc (by decide) (aZ rfl) (aZ rfl) (rfl) (Ee h.acc c)
theorem Do:∀{e:Ent}(h:FW st.hp m l a spl wd ⟨s.lines,s.cur++[e],s.init⟩)(G:SOk s)(H:st.loc.lookup (nm "self")=some (.ref m))(j:s.size+e.1.length+e.2.length+1<=800),
 ∃f,exs (run tabNow (n+3)) Bu st=some (.ret .none,f)/\FW f.hp m l a spl wd (if 0<s.init then⟨(aT s).lines,[(if e.1=[]then[32]else e.1,e.2)],0⟩else⟨s.lines,s.cur++[e],s.init⟩)/\bu l a st.hp f.hp:=by
 revert st n m l a wd spl s;exists cc,st,n,m,l,a,wd,spl,s,e;intros;have B:=G;obtain⟨C,D⟩:=B;unfold FS.size at D j;have L:ci s.init (s.cur++[e]):=lz C (by simp;exact fk1 j) (by simp only[cz,zF];simp[af];simp[af]at j;exact fk1 j);have p:=Eu (n:=n+2) H h L;simp only[List.getLast?_concat,vQ,jo]at p;have d:FW (st.hp.set a (aU s.init s.cur)) m l a spl wd s:=h.seta s.init s.cur;have t:bu l a st.hp (st.hp.set a (aU s.init s.cur)):=bu.refl.seta _
 skip
 refine(show exs _ (_::_) st=exs _ _ ⟨(nm "part",.str (toS e.2))::(nm "fws",.str (toS e.1))::st.loc,st.hp.set a (aU s.init s.cur)⟩from Ff p)▸?_;generalize st.hp.set a (aU s.init s.cur)=g at d t⊢;have K:Kept (["part","fws"].map nm) st.loc ((nm "part",.str (toS e.2))::(nm "fws",.str (toS e.1))::st.loc):=(Kept.refl.put (.tail _ (.head _))).put (zj);have c:(⟨(nm "part",.str (toS e.2))::(nm "fws",.str (toS e.1))::st.loc,g⟩:St).loc.lookup (nm "self")=some (.ref m):=(K.at "self" rfl).trans H;have q:=t_cmp (F:=run tabNow (n+3)) (rj (ce c d.inst cw) (Ah d.acc)) (ao (i:=0)) c_gt;have E:s.cur.length<=900:=fk1 j;by_cases z:0<s.init
 ·rw[if_pos z];rw[decide_eq_true (by exact jh.mpr z)]at q;refine cu (Eo (n:=n) d G) λb M A I=>?_;have J:ev (run tabNow (n+3)) (.meth (.var (nm "self")) (nm "newline") []) ⟨(nm "part",.str (toS e.2))::(nm "fws",.str (toS e.1))::st.loc,g⟩=some (.none,⟨(nm "part",.str (toS e.2))::(nm "fws",.str (toS e.1))::st.loc,b⟩):=
   gS (e_var c) nU d.inst d.inst (de rfl) (de rfl) (rfl) M
  have r:evT (run tabNow (n+3)) (.not (.var (nm "fws"))) ⟨(nm "part",.str (toS e.2))::(nm "fws",.str (toS e.1))::st.loc,b⟩=some (!(e.1.length != 0),_):=Ei (Ef (ab (by decide) aa) (rK (fk1 j)));by_cases o:e.1=[]
  ·replace r:=o▸r
   rw[if_pos o];rw[bI q (s2:=⟨(nm "fws",.str (toS [32]))::(nm "part",.str (toS e.2))::(nm "fws",.str (toS e.1))::st.loc,b⟩) (by
    refine(bJ J).trans ?_;rw[o];refine(bI r ((aD bL).trans am)).trans ?_;exact am)]
   have hp:=oO (n:=n+2) (st:=⟨(nm "fws",.str (toS [32]))::(nm "part",.str (toS e.2))::(nm "fws",.str (toS e.1))::st.loc,b⟩) (ab (by decide) c) A (by show 0<=900;exact jG _) (x:="fws") (y:="part") aa (ab (by decide) aa);exact(bJ hp)▸(cJ bT)▸(cy _ rfl (A.seta _ _) ((t.trans I).seta _))
  ·have:e.1.length≠0:=λx=>o (zk.mp x);rw[show(!(e.1.length != 0))=false by simp[o]]at r;rw[if_neg o];rw[bI q (s2:=⟨(nm "part",.str (toS e.2))::(nm "fws",.str (toS e.1))::st.loc,b⟩) ((bJ J).trans ((aR r).trans am))];have hp:=oO (n:=n+2) (st:=⟨(nm "part",.str (toS e.2))::(nm "fws",.str (toS e.1))::st.loc,b⟩) c A (by show 0<=900;exact jG _) (x:="fws") (y:="part") (ab (by decide) aa) aa;exact(bJ hp)▸(cJ bT)▸(cy _ rfl (A.seta _ _) ((t.trans I).seta _))
 ·rw[if_neg z];rw[decide_eq_false (by exact ua.mpr (uZ.mpr (yU z)))]at q;rw[aR q];exact(bJ (oO (n:=n+2) (st:=⟨(nm "part",.str (toS e.2))::(nm "fws",.str (toS e.1))::st.loc,g⟩) c d E (x:="fws") (y:="part") (ab (by decide) aa) aa))▸(cJ bT)▸(cy _ rfl (d.seta _ _) (t.seta _))
theorem Gn:B14=[.expr (.meth (.attr (.var (nm "self")) (nm "_current_line")) (nm "push") [.var (nm "fws"),.var (nm "string")]),.ite (.cmp .Gt (.blt (nm "len") [.attr (.var (nm "self")) (nm "_current_line")]) (.attr (.var (nm "self")) (nm "_maxlen"))) (.forV (nm "ch") (.attr (.var (nm "self")) (nm "_splitchars")) gv Bu::Aw) []]:=rfl
theorem sj{p:Nat->Bool}{m i:Nat}(h:((yy 1 m).reverse).find? p=some i):0<i/\i<=m:=by
 have:=List.mem_of_find?_eq_some h;refine el12 (List.mem_range'.mp (List.mem_reverse.mp this)) λj c b=>?_;subst b;exact⟨zW ..,fk1 c⟩
theorem iL{c:List Ent}(h:eW spl c=some i):0<i/\i<=c.length-1:=by
 refine el12 (List.exists_of_findSome?_eq_some h) λx b h=>?_;exact sj h
theorem run14:∀{e:Ent}(h:FW hp m l a spl wd s)(N:SOk s)(P:s.size+e.1.length+e.2.length+1<=800),
 ∃d,run tabNow (n+4) 14 [.ref m,.str (toS e.1),.str (toS e.2)] hp=some (.none,d)/\FW d m l a spl wd (aP spl wd s e)/\bu l a hp d:=by
 revert n hp m l a wd spl s;exists cc,n,hp,m,l,a,wd,spl,s,e;intros;rw[dr (by rfl) tab14 (loc:=[(nm "self",.ref m),(nm "fws",.str (toS e.1)),(nm "string",.str (toS e.2))]) (by rfl)];show ∃d,(exs (run tabNow (n+3)) B14 _).map _=_/\_
 have D:=N;refine aA D λE G=>?_;have b:=P;unfold FS.size at G b;have t:(af (s.cur++[e])).length<=900:=by simp only[cz,zF];simp[af];simp[af]at b;exact fk1 b
 have H:ci s.init (s.cur++[e]):=lz E (by simp;exact fk1 b) t;rw[Gn,bJ (oO (n:=n+2) aa h (fk1 b:s.cur.length<=900) (x:="fws") (y:="string") (p:=e.1) (q:=e.2) (ab (by decide) aa) (ab (by decide) (ab (by decide) aa)))];have f:FW (hp.set a (aU s.init (s.cur++[e]))) m l a spl wd ⟨s.lines,s.cur++[e],s.init⟩:=h.seta _ _;have C:bu l a hp (hp.set a (aU s.init (s.cur++[e]))):=bu.refl.seta _;show ∃d,(exs _ _ ⟨[(nm "self",V.ref m),(nm "fws",V.str (toS e.1)),(nm "string",V.str (toS e.2))],hp.set a (aU s.init (s.cur++[e]))⟩).map _=_/\_
 generalize hp.set a (aU s.init (s.cur++[e]))=j at f C⊢;have z:(⟨[(nm "self",V.ref m),(nm "fws",V.str (toS e.1)),(nm "string",V.str (toS e.2))],j⟩:St).loc.lookup (nm "self")=some (.ref m):=aa;have A:=t_cmp (F:=run tabNow (n+3)) (bR (ce z f.inst cw) (nH f.acc H)) (ce z f.inst Ga) c_gt;unfold aP;by_cases g:s.init+(af (s.cur++[e])).length<=wd
 ·rw[if_pos g];rw[decide_eq_false (by simp only at *;lia)]at A;rw[aR A,am];exact cy j rfl f C
 ·rw[if_neg g];rw[decide_eq_true (by simp only at *;lia)]at A;have c:=Bq (n:=n+2) (ob:=Bu) (st:=⟨[(nm "self",V.ref m),(nm "fws",V.str (toS e.1)),(nm "string",V.str (toS e.2))],j⟩) f H z (by simp);simp only at c;cases I:eW spl (s.cur++[e])with
  | some i=>
   rw[I]at c;refine lB c λo J q1 K Q=>?_;have R:=iL I;refine cu (Db (n:=n+2) (st:=o) (i:=i) (by rw[q1];exact f) H t ((K.at "self" rfl).trans z) Q (by exact(fk2 R.2 (yj ((s.cur++[e]).length) 1):i<=(s.cur++[e]).length)) (by exact(fk1 b:s.lines.length<=900))) λr L M B=>?_;refine cy r.hp ?_ M (C.trans (by rw[q1]at B;exact B));rw[bI A ((aQ J).trans L),am];rfl
  | none=>
   replace c:=I▸c
   obtain⟨o,J,q1,K⟩:=c;refine cu (Do (n:=n) (st:=o) (s:=s) (e:=e) (by rw[q1];exact f) N ((K.at "self" rfl).trans z) P) λr L M B=>?_;refine cy r.hp ?_ M (C.trans (by rw[q1]at B;exact B));rw[dh A (kO (J.trans L) (by simp)) (by simp)];rfl
end
noncomputable def bH:Nat->List Nat->List Ent
 | 0,_=>[]
 | n+1,t=>match t.dropWhile (!isW ·)with
  | []=>[]
  | c::r=>((c::r).takeWhile isW,((c::r).dropWhile isW).takeWhile (!isW ·))::bH n ((c::r).dropWhile isW)
noncomputable def bD(l:List Ent):List (List Nat):=l.flatMap λe=>[e.1,e.2]
theorem dg{a:Type}(p:a->Bool)(l:List a):(l.dropWhile p).length<=l.length:=(List.dropWhile_sublist p).length_le
theorem pP:∀(n:Nat)(t:List Nat),t.length<n->dU n t=t.takeWhile (!isW ·)::bD (bH n t)
 | 0,t,h=>by lia
 | n+1,t,h=>by
  rw[dU,bH];cases e:t.dropWhile (!isW ·)with
  | nil=>
   have:=jC (p:=(!isW ·)) (l:=t);rw[e,zo]at this;simp[bD,this]
  | cons c r=>
   have a:=dg (!isW ·) t;rw[e,zL]at a;have b:isW c=true:=by
    have:=List.head?_dropWhile_not (!isW ·) t;rw[e]at this;simpa using this
   have d:((c::r).dropWhile isW).length<=r.length:=by
    rw[ja,if_pos b];exact dg _ _
   simp only;rw[pP n _ (fk3 h a d)];simp[bD]
noncomputable def bq(t:List Nat):List Ent:=(if t.takeWhile (!isW ·)=[]then[]else[([],t.takeWhile (!isW ·))])++bH (t.length+1) t
noncomputable def eT(l:List Ent):Nat:=(l.map λe=>e.1.length+e.2.length+3).sum
set_option tactic.hygienic true in
theorem pC:∀(ls:List (List Nat))(i:Nat)(x:List Nat),(bF ls i x).length<=ls.length+1/\(bF ls i x).flatten.length<=ls.flatten.length+x.length:=by
 exists ce3_,ls,i,x;unfold bF;split
 ·exact⟨yq _,zW ..⟩
 ·split
  ·rename_i h;cases e:ls.getLast? with
   | none=>
    rw[yH]at e;subst e;simp
   | some y=>
    obtain⟨r,rfl⟩:=yk.mp e;simp;simp +arith
  ·simp
theorem dB(s:FS):(aT s).size<=s.size+1-s.cur.length/\(aT s).init<=s.init:=by
 have a:=pC s.lines s.init (af (cV s.cur));have b:=nz s.cur;refine⟨?_,by show 0<=s.init;exact jG _⟩;dsimp only[FS.size,aT];simp only[yt,show af []=[]from rfl];lia
set_option tactic.hygienic true in
theorem ka:∀(spl:List Nat)(wd:Nat)(s:FS)(e:Ent),(aP spl wd s e).size<=s.size+(e.1.length+e.2.length+3)/\(aP spl wd s e).init<=s.init:=by
 exists ce4_,spl,wd,s,e;have hs:(af (s.cur++[e])).length=(af s.cur).length+(e.1.length+e.2.length):=by rw[cz,zF];simp[af]
 unfold aP;split
 ·refine⟨?_,zY _⟩;unfold FS.size;simp only[hs,zF,yV];lia
 ·split
  ·rename_i i hi;have:=iL hi;refine⟨?_,by show 0<=s.init;exact jG _⟩;unfold FS.size;have h1:=congrArg jp (cz ((s.cur++[e]).take i) ((s.cur++[e]).drop i));rw[jc,zF,hs]at h1;have h2:((s.cur++[e]).drop i).length<=s.cur.length:=by simp;exact this.1
   dsimp only[zF,yV,jx,List.flatten_singleton];exact fk2 (eqg h1) h2
  ·split
   ·have h1:=dB s;refine⟨?_,by show 0<=s.init;exact jG _⟩;unfold FS.size at h1⊢;dsimp only[aT,yt,show af []=[]from rfl]at h1;have h2:(af [((if e.1=[]then[32]else e.1),e.2)]).length<=e.1.length+e.2.length+1:=by
     simp only[af,zm,List.flatMap_nil,zo,zF];split
     ·simp;simp +arith
     ·exact yq _
    simp only[yV,aT];exact fk3 h1.1 h2 (yj (s.lines.length+s.cur.length+s.lines.flatten.length+(af s.cur).length+1) s.cur.length)
   ·refine⟨?_,zY _⟩;unfold FS.size;simp only[hs,zF,yV];lia
section
variable {F:Fs}{st s1 s2 s3 s4:St}{u v w:V}{n k:Nat}{hp:List O}{i m l a wd:Nat}{spl:List Nat}{s:FS}
theorem gu{f:V->V->St->Option (R×St)}{k:Nat}(A:List Ent->St->Prop)(c:∀es st,A es st->st.hp[k]?=some (.list all)/\st.hp[g]?=some .ghost)
 (d:∀e es st,A (e::es) st->∃b,f (.str (toS e.1)) (.str (toS e.2)) st=some (.next,b)/\A es b):∀(es:List Ent)(st:St),A es st->∃b,dC f k g all ((bD es).map λx=>.str (toS x)) st=some (.next,b)/\A [] b
 | [],st,h=>⟨st,if_pos (c _ _ h),h⟩
 | e::es,st,h=>by
  refine el12 (d e es st h) λs1 j o=>?_;refine el12 (gu A c d es s1 o) λs2 p q=>?_;refine⟨s2,?_,q⟩;exact(if_pos (c _ _ h)).trans ((bX j).trans p)
noncomputable def xN:S:=.forPair (nm "fws") (nm "part") (.var (nm "parts")) [.expr (.meth (.var (nm "self")) (nm "_append_chunk") [.var (nm "fws"),.var (nm "part")])]
theorem CU:∀{q:Nat}{es:List Ent}(h:FW st.hp m l a spl wd s)(G:SOk s)(H:st.loc.lookup (nm "self")=some (.ref m))(I:st.loc.lookup (nm "parts")=some (.ref q))(z:st.hp[q]?=some (.list ((bD es).map λx=>.str (toS x))))(A:q≠l)(B:q≠a)(J:s.size+eT es+1<=800),
 ∃c,exs (run tabNow (n+4)) [xN] st=some (.next,c)/\FW c.hp m l a spl wd (es.foldl (aP spl wd) s)/\SOk (es.foldl (aP spl wd) s)/\bu l a st.hp c.hp:=by
 revert st n m l a wd spl s;exists ce10_,st,n,m,l,a,wd,spl,s,q,es;intros;have E:st.hp.length≠l/\st.hp.length≠a:=⟨yF (got h.lines),yF (got h.acc)⟩;obtain⟨c,C,s',o,b,p,t,r,k1⟩:=gu (k:=q) (g:=st.hp.length) (all:=(bD es).map λx=>.str (toS x)) (f:=λu v s=>exs (run tabNow (n+4)) [.expr (.meth (.var (nm "self")) (nm "_append_chunk") [.var (nm "fws"),.var (nm "part")])] ((s.set (nm "fws") u).set (nm "part") v))
  (λfs s1=>∃s',FW s1.hp m l a spl wd s'/\SOk s'/\s'.size+eT fs+1<=800/\fs.foldl (aP spl wd) s'=es.foldl (aP spl wd) s/\bu l a (st.hp++[.ghost]) s1.hp/\Kept (["fws","part"].map nm) st.loc s1.loc)
  (λfs s1 d=>BQ d λs' o b p t r k1=>⟨(r.2 q (by rw[zF];have:=got z;exact yL this) A B).trans (old _ z),(r.2 st.hp.length (by simp) E.1 E.2).trans bQ⟩)
  (λe fs s1 j=>BQ j λs' o b p t r k1=>by
   rw[eT,zV,ji]at p;refine cu (run14 (n:=n) (e:=e) o b (fk1 p)) λy L M N=>?_;have D:=ka spl wd s' e;have K:=(k1.put (x:=nm "fws") (v:=.str (toS e.1)) (by simp)).put (x:=nm "part") (v:=.str (toS e.2)) (by simp);have C:ev (run tabNow (n+4)) (.meth (.var (nm "self")) (nm "_append_chunk") [.var (nm "fws"),.var (nm "part")]) ⟨(nm "part",.str (toS e.2))::(nm "fws",.str (toS e.1))::s1.loc,s1.hp⟩=some (.none,⟨(nm "part",.str (toS e.2))::(nm "fws",.str (toS e.1))::s1.loc,y⟩):=
    gS (st:=⟨(nm "part",.str (toS e.2))::(nm "fws",.str (toS e.1))::s1.loc,s1.hp⟩) (s1:=⟨(nm "part",.str (toS e.2))::(nm "fws",.str (toS e.1))::s1.loc,s1.hp⟩) (s2:=⟨(nm "part",.str (toS e.2))::(nm "fws",.str (toS e.1))::s1.loc,s1.hp⟩) (e_var ((K.at "self" rfl).trans H)) (oh (e_var (ab (by decide) aa)) (e_var aa)) o.inst o.inst (de (x:="_append_chunk") rfl) (de (x:="_append_chunk") rfl) (by simp only[vfMeth,zZ,b2,yb]) L
   refine⟨⟨(nm "part",.str (toS e.2))::(nm "fws",.str (toS e.1))::s1.loc,y⟩,(bJ C).trans am,aP spl wd s' e,M,⟨zB D.2 b.1,by have:=b.2;exact fk2 p D.1⟩,by rw[eT];exact fk2 p D.1,t,r.trans N,K⟩)
  es ⟨st.loc,st.hp++[.ghost]⟩ ⟨s,h.app _,G,J,rfl,bu.refl,Kept.refl⟩
 rw[List.foldl_nil]at t;subst t;refine⟨c,?_,o,b,(bu.refl.app _).trans r⟩;unfold xN;refine(aQ ?_).trans am;exact bS (e_var I) (bS rfl (bS (oL z) C))
end
section
variable {F:Fs}{st s1 s2 s3 s4:St}{u v w:V}{n k:Nat}{hp hp':List O}{i m l a wd:Nat}{spl:List Nat}{s:FS}
theorem FW.ext(h:FW hp m l a spl wd s)(x:Ext hp hp'):FW hp' m l a spl wd s:=⟨x.get h.inst,x.get h.lines,x.get h.acc,h.ml,h.ma,h.la⟩
theorem bu.of(x:Ext hp hp'):bu l a hp hp':=⟨x.1,λk b _ _=>x.2 k b⟩
theorem qr:∀es:List Ent,(bD es).length<=eT es
 | []=>zY _
 | e::r=>by
  have:=qr r;refine(?_:(e.1::e.2::bD r).length<=_);simp only[eT,zV,ji];unfold eT at this;simp only[zL];exact fk1 this
theorem wl(x y:List Ent):bD (x++y)=bD x++bD y:=by simp[bD]
theorem m_split(b:t.length<=900)(c:(bD (bH (t.length+1) t)).length<=900):cU F (.top 2) (nm "split") [.str (toS t)] st=
 some (.ref st.hp.length,⟨st.loc,st.hp++[.list ((t.takeWhile (!isW ·)::bD (bH (t.length+1) t)).map λx=>.str (toS x))]⟩):=by
 refine altR rfl (bA (bS rfl ((if_neg (by decide)).trans ((if_pos rfl).trans ((if_pos rfl).trans (bS rfl (bS rfl ((if_pos (by rw[dJ];exact zB b (by decide))).trans ?_))))))));simp only[dJ,fy,pP _ _ (zq _)];exact hG (by simp;exact zB c (zH ..))
theorem Go:B13=[.asg (nm "parts") (.meth (.top 2) (nm "split") [.bin .add (.var (nm "fws")) (.var (nm "string"))]),.ite (.item (.var (nm "parts")) (.int 0)) [.asgSlice (.var (nm "parts")) (.none) (.int 0) (.lst [.str (⟨#[]⟩:Str)])] [.expr (.meth (.var (nm "parts")) (nm "pop") [.int 0])],xN]:=rfl
theorem run13:∀{t:List Nat}(h:FW hp m l a spl wd s)(D:SOk s)(B:s.size+eT (bq t)+1<=800)(p:t.length<=900),
 ∃hp',run tabNow (n+5) 13 [.ref m,.str (toS []),.str (toS t),v] hp=some (.none,hp')/\FW hp' m l a spl wd ((bq t).foldl (aP spl wd) s)/\SOk ((bq t).foldl (aP spl wd) s)/\bu l a hp hp':=by
 revert v n hp m l a wd spl s;exists ce10_,v,n,hp,m,l,a,wd,spl,s,t;intros;rw[dr (by rfl) tab13 (loc:=[(nm "self",.ref m),(nm "fws",.str (toS [])),(nm "string",.str (toS t)),(nm "splitchars",v)]) (by rfl)];show ∃hp',(exs (run tabNow (n+4)) B13 _).map _=_/\_
 have q:=qr (bq t);have c:(bD (bq t)).length<=900:=fk2 B q;have f:(bD (bH (t.length+1) t)).length<=900:=by
  unfold bq at c;simp only[wl,zF]at c;exact zB (zH ..) c
 have E:ev (run tabNow (n+4)) (.bin .add (.var (nm "fws")) (.var (nm "string"))) ⟨[(nm "self",.ref m),(nm "fws",.str (toS [])),(nm "string",.str (toS t)),(nm "splitchars",v)],hp⟩=some (.str (toS t),⟨[(nm "self",.ref m),(nm "fws",.str (toS [])),(nm "string",.str (toS t)),(nm "splitchars",v)],hp⟩):=
  aM (u:=.str (toS [])) (v:=.str (toS t)) (e_var (ab (by decide) aa)) (e_var (ab (by decide) (ab (by decide) aa))) (s6 (a:=[]) (by simp;exact zB p (zH ..)))
 have G:ev (run tabNow (n+4)) (.meth (.top 2) (nm "split") [.bin .add (.var (nm "fws")) (.var (nm "string"))]) ⟨[(nm "self",.ref m),(nm "fws",.str (toS [])),(nm "string",.str (toS t)),(nm "splitchars",v)],hp⟩=some (.ref hp.length,⟨[(nm "self",.ref m),(nm "fws",.str (toS [])),(nm "string",.str (toS t)),(nm "splitchars",v)],hp++[.list ((t.takeWhile (!isW ·)::bD (bH (t.length+1) t)).map λx=>.str (toS x))]⟩):=
  bU (m:=.blt "re.Pattern.split") rfl E mo_split mo_split (m_split p f)
 simp only[Go,aD G];have g:(hp++[O.list ((t.takeWhile (!isW ·)::bD (bH (t.length+1) t)).map λx=>.str (toS x))])[hp.length]?=some (.list ((t.takeWhile (!isW ·)::bD (bH (t.length+1) t)).map λx=>.str (toS x))):=bQ;have r:Ext hp (hp++[O.list ((t.takeWhile (!isW ·)::bD (bH (t.length+1) t)).map λx=>.str (toS x))]):=Ext.refl.app _;generalize hp++[O.list ((t.takeWhile (!isW ·)::bD (bH (t.length+1) t)).map λx=>.str (toS x))]=b at g r⊢;have H:∃d,exs (run tabNow (n+4)) [.ite (.item (.var (nm "parts")) (.int 0)) [.asgSlice (.var (nm "parts")) (.none) (.int 0) (.lst [.str (⟨#[]⟩:Str)])] [.expr (.meth (.var (nm "parts")) (nm "pop") [.int 0])],xN] ⟨(nm "parts",.ref hp.length)::[(nm "self",.ref m),(nm "fws",.str (toS [])),(nm "string",.str (toS t)),(nm "splitchars",v)],b⟩=
  exs (run tabNow (n+4)) [xN] ⟨(nm "parts",.ref hp.length)::[(nm "self",.ref m),(nm "fws",.str (toS [])),(nm "string",.str (toS t)),(nm "splitchars",v)],d⟩/\d[hp.length]?=some (.list ((bD (bq t)).map λx=>.str (toS x)))/\Ext hp d:=by
  have j:evT (run tabNow (n+4)) (.item (.var (nm "parts")) (.int 0)) ⟨(nm "parts",.ref hp.length)::[(nm "self",.ref m),(nm "fws",.str (toS [])),(nm "string",.str (toS t)),(nm "splitchars",v)],b⟩=some ((t.takeWhile (!isW ·)).length != 0,⟨(nm "parts",.ref hp.length)::[(nm "self",.ref m),(nm "fws",.str (toS [])),(nm "string",.str (toS t)),(nm "splitchars",v)],b⟩):=
   Fc (v:=.str (toS (t.takeWhile (!isW ·)))) (bh (e_var aa) ao (by refine(on (i:=0) (I:=0) rfl g (by simp) (by simp;exact zB f (zH ..))).trans ?_;rfl)) (rK (zB (zB (List.takeWhile_sublist _).length_le p:(t.takeWhile (!isW ·)).length<=900) (zH ..)))
  unfold bq;by_cases o:t.takeWhile (!isW ·)=[]
  ·rw[o]at j g;refine(if_pos o)▸?_;refine cy (b.set hp.length (.list ((bD (bH (t.length+1) t)).map λx=>.str (toS x)))) ?_ ?_ (r.set (zY _))
   ·refine kJ j ?_;rw[bJ (bU (st:=⟨(nm "parts",.ref hp.length)::[(nm "self",.ref m),(nm "fws",.str (toS [])),(nm "string",.str (toS t)),(nm "splitchars",v)],b⟩) (s1:=⟨(nm "parts",.ref hp.length)::[(nm "self",.ref m),(nm "fws",.str (toS [])),(nm "string",.str (toS t)),(nm "splitchars",v)],b⟩) (s2:=⟨(nm "parts",.ref hp.length)::[(nm "self",.ref m),(nm "fws",.str (toS [])),(nm "string",.str (toS t)),(nm "splitchars",v)],b⟩) (u:=.ref hp.length) (m:=.blt "list.pop") (w:=.str (toS [])) (s3:=⟨(nm "parts",.ref hp.length)::[(nm "self",.ref m),(nm "fws",.str (toS [])),(nm "string",.str (toS t)),(nm "splitchars",v)],b.set hp.length (.list ((bD (bH (t.length+1) t)).map λx=>.str (toS x)))⟩) (e_var aa) ao (mo_pop g) (mo_pop g) ?_)];exact am;exact altR rfl (altR rfl (bS rfl (bA (bS (oL g) ((if_neg (by decide)).trans ((if_pos rfl).trans (bS rfl (bS rfl ((if_pos rfl).trans (if_pos (by rw[zC];exact zB f (by decide))))))))))))
   ·refine(aG g).trans ?_;rfl
  ·have:(t.takeWhile (!isW ·)).length≠0:=λe=>o (zk.mp e);rw[show((t.takeWhile (!isW ·)).length != 0)=true by simp[this]]at j;refine(if_neg o)▸?_;refine cy ((b++[O.list [.str (toS [])]]).set hp.length (.list ((bD ([([],t.takeWhile (!isW ·))]++bH (t.length+1) t)).map λx=>.str (toS x)))) ?_ ?_ ((r.app _).set (zY _))
   ·refine bI j ((aQ ?_).trans am);have J:((t.takeWhile (!isW ·)::bD (bH (t.length+1) t)).map λx=>V.str (toS x)).length+1<=lid:=by rw[zC];exact zB (Nat.add_le_add_right (uD f) 1) (by decide)
    exact BF (lS bL) (e_var (aa:(⟨(nm "parts",.ref hp.length)::[(nm "self",.ref m),(nm "fws",.str (toS [])),(nm "string",.str (toS t)),(nm "splitchars",v)],b++[O.list [.str (toS [])]]⟩:St).loc.lookup (nm "parts")=some (.ref hp.length))) bT ao (fV bQ) (old _ g) rfl rfl J
   ·exact(aG (old _ g))
 refine cu H λd K y C=>?_;refine K▸?_;refine lB (CU (n:=n) (st:=⟨(nm "parts",.ref hp.length)::[(nm "self",.ref m),(nm "fws",.str (toS [])),(nm "string",.str (toS t)),(nm "splitchars",v)],d⟩) (h.ext C) D (ab (by decide) aa) aa y (yF (got h.lines)) (yF (got h.acc)) B) λz L M A N=>?_;exact L▸(rU z.hp rfl M A ((bu.of C).trans N))
theorem run11:∀(h:FW hp m l a spl wd s)(d:SOk s),
 ∃hp',run tabNow (n+4) 11 [.ref m,.str (toS [10])] hp=some (.str (toS (aJ [10] (aT s).lines)),hp')/\bu l a hp hp':=by
 revert n hp m l a wd spl s;exists bZ,n,hp,m,l,a,wd,spl,s;intros;rw[dr (by rfl) tab11 (loc:=[(nm "self",.ref m),(nm "linesep",.str (toS [10]))]) (by rfl)];show ∃hp',(exs (run tabNow (n+3)) B11 _).map _=_/\_
 refine cu (Eo (n:=n) h d) λb f e g=>?_;have j:ev (run tabNow (n+3)) (.meth (.var (nm "self")) (nm "newline") []) ⟨[(nm "self",.ref m),(nm "linesep",.str (toS [10]))],hp⟩=some (.none,⟨[(nm "self",.ref m),(nm "linesep",.str (toS [10]))],b⟩):=
  gS (e_var aa) nU h.inst h.inst (de rfl) (de rfl) (rfl) f
 simp only[B11,bJ j];have c:(aT s).size<=801:=fk3 (dB s).1 (d.2) (yj (s.size+1) s.cur.length);unfold FS.size at c;have o:ev (run tabNow (n+3)) (.meth (.var (nm "linesep")) (nm "join") [.attr (.var (nm "self")) (nm "_lines")]) ⟨[(nm "self",.ref m),(nm "linesep",.str (toS [10]))],b⟩=some (.str (toS (aJ [10] (aT s).lines)),⟨[(nm "self",.ref m),(nm "linesep",.str (toS [10]))],b⟩):=
  bU (e_var (ab (by decide) aa)) (ce aa e.inst fS) mo_join mo_join (lL (st:=⟨[(nm "self",.ref m),(nm "linesep",.str (toS [10]))],b⟩) e.lines (zY _) (fk1 c) (λx p=>by
   have:x.length<=(aT s).lines.flatten.length:=(List.sublist_flatten_of_mem p).length_le;exact fk2 c this))
 exact(cJ o)▸(av b rfl g)
theorem gb{x:Str}{e:X}{r:List S}(b:ev F e st=some (v,s1))(c:s1.loc.lookup (nm "self")=some (.ref m))(d:s1.hp[m]?=some (.inst fs))(f:fs.length<=100):exs F (.asgAttr (.var (nm "self")) x e::r) st=exs F r ⟨s1.loc,s1.hp.set m (.inst (setField fs x v))⟩:=by
 refine aQ ?_;refine x_attr b (e_var c) ?_;exact bS rfl (bA (bS (oI d) (if_pos f)))
theorem GN{es:List X}{room:Nat}(b:evs (run tabNow (n+1)) es st=some ([.int (room:Int)],s1))(c:room<=1000):ev (run tabNow (n+1)) (.new 1 es) st=some (.ref s1.hp.length,⟨s1.loc,(s1.hp++[O.acc [] []]).set s1.hp.length (aU room [])⟩):=by
 have:=run20 (n:=n) (k:=s1.hp.length) (hp:=s1.hp++[O.acc [] []]) (i:=room) bQ c;exact bS b (bS (mX this) rfl)
theorem Ca:∀{hp0:List O}{room:Nat}(c:hp[m]?=some (.inst []))(q:room<=1000)(j:Ext hp0 hp)(h:hp0.length<=m),
 ∃hp',run tabNow (n+2) 10 [.ref m,.int (room:Int),.int (wd:Int),.str (toS [32]),.str (toS spl)] hp=some (.none,hp')/\FW hp' m hp.length (hp.length+1) spl wd ⟨[],[],room⟩/\Ext hp0 hp':=by
 revert n hp m wd spl;exists bK,n,hp,m,wd,spl,hp0,room;intros;rw[dr (by rfl) Aj (loc:=[(nm "self",.ref m),(nm "headerlen",.int (room:Int)),(nm "maxlen",.int (wd:Int)),(nm "continuation_ws",.str (toS [32])),(nm "splitchars",.str (toS spl))]) (by rfl)];show ∃hp',(exs (run tabNow (n+1)) B10 _).map _=_/\_
 simp only[B10];generalize e:([(nm "self",.ref m),(nm "headerlen",.int (room:Int)),(nm "maxlen",.int (wd:Int)),(nm "continuation_ws",.str (toS [32])),(nm "splitchars",.str (toS spl))]:List (Str×V))=L;have d:L.lookup (nm "self")=some (.ref m):=e▸aa;have p:L.lookup (nm "continuation_ws")=some (.str (toS [32])):=e▸(ab (by decide) (ab (by decide) (ab (by decide) aa)));have r:L.lookup (nm "splitchars")=some (.str (toS spl)):=by rw[<-e];exact ab (by decide) (ab (by decide) (ab (by decide) (ab (by decide) aa)))
 have b:=got c;rw[gb (e_var (e▸(ab (by decide) (ab (by decide) aa)):L.lookup (nm "maxlen")=some (.int (wd:Int)))) d c (by simp)];rw[gb (s1:=⟨L,hp.set m _⟩) (e_var p) d (aG c) (by simp[setField])];rw[gb (s1:=⟨L,(hp.set m _).set m _⟩) (v:=.int 1) (bR (e_var p) (rt (by simp))) d (aG (aG c)) (by simp[setField,fm])];rw[gb (s1:=⟨L,((hp.set m _).set m _).set m _⟩) (e_var r) d (aG (aG (aG c))) (by simp[setField,fm])];simp only[List.set_set];have f:∀o,(hp.set m o)[m]?=some o:=λo=>aG c;rw[gb fL d (old _ (f _)) (by simp[setField,fm])];rw[List.length_set];have g:∀o o':O,((hp.set m o++[O.list []]).set m o')[m]?=some o':=λo o'=>aG (old _ (f _));rw[gb (s1:=⟨L,_⟩) (GN (n:=n) (gp (e_var (e▸(ab (by decide) aa):L.lookup (nm "headerlen")=some (.int (room:Int))))) q) d (fs:=_) (by
  rw[aq (by simp;exact yF (yL b))];exact old _ (g _ _)) (by simp[setField,fm]),am]
 refine cy _ rfl ⟨?_,?_,?_,?_,?_,?_⟩ ?_
 ·rw[aG (o:=_) (by
   rw[aq (by simp;exact yF (yL b))];exact old _ (g _ _))]
  simp[setField,fm,mF]
 ·refine(aq (zd b)).trans ?_;refine(aq (by simp)).trans ?_;refine(zU (by simp)).trans ?_;refine(aq (zd b)).trans ?_;simp[cv]
 ·refine(aq (zd (yL b))).trans ?_;simp[List.getElem?_set]
 ·exact zd b
 ·exact zd (yL b)
 ·exact zd (zq _)
 ·have t:∀o,Ext hp0 (hp.set m o):=λo=>j.set h;exact(((((t _).app _).set h).app _).set (by simp;have:=j.1;exact fk2 h b)).set h
end
noncomputable def ee(t:List Nat)(spl:List Nat)(room wd:Nat):List (List Nat):=(aT ((bq t).foldl (aP spl wd) ⟨[],[],room⟩)).lines
section
variable {F:Fs}{st s1 s2 s3 s4:St}{u v w z:V}{n k:Nat}{hp hp':List O}{i m l a wd:Nat}{spl:List Nat}{s:FS}
theorem pO:∀es:List Ent,eT es=(af es).length+3*es.length
 | []=>rfl
 | e::r=>by
  rw[eT,zV,ji,show(List.map (λe:Ent=>e.1.length+e.2.length+3) r).sum=eT r from rfl,pO r];rw[show af (e::r)=(e.1++e.2)++af r from rfl];simp only[zF,zL];simp +arith
theorem run5:∀{t:List Nat}{room:Nat}(r:room<=1000)(G:eT (bq t)+1<=800)(H:t.length<=900),
 ∃hp',run tabNow (n+6) 5 [.str (toS t),.int (room:Int),.int (wd:Int),.str (toS spl)] hp=some (.str (toS (aJ [10] (ee t spl room wd))),hp')/\Ext hp hp':=by
 revert n hp wd spl;exists dI,n,hp,wd,spl,t,room;intros;rw[dr (by rfl) tab5 (loc:=[(nm "text",.str (toS t)),(nm "room",.int (room:Int)),(nm "width",.int (wd:Int)),(nm "splitters",.str (toS spl))]) (by rfl)];show ∃hp',(exs (run tabNow (n+5)) B5 _).map _=_/\_
 rw[B5];generalize e:([(nm "text",.str (toS t)),(nm "room",.int (room:Int)),(nm "width",.int (wd:Int)),(nm "splitters",.str (toS spl))]:List (Str×V))=L;have I:L.lookup (nm "text")=some (.str (toS t)):=by rw[<-e];exact aa
 have J:L.lookup (nm "room")=some (.int (room:Int)):=by rw[<-e];exact ab (by decide) aa
 have K:L.lookup (nm "width")=some (.int (wd:Int)):=by rw[<-e];exact ab (by decide) (ab (by decide) aa)
 have y:L.lookup (nm "splitters")=some (.str (toS spl)):=by rw[<-e];exact ab (by decide) (ab (by decide) (ab (by decide) aa))
 refine cu (Ca (n:=n+3) (m:=hp.length) (hp:=hp++[O.inst []]) (hp0:=hp) (room:=room) (wd:=wd) (spl:=spl) bQ r (Ext.refl.app _) (zY _)) λb M g h=>?_;have N:ev (run tabNow (n+5)) (.new 0 [.var (nm "room"),.var (nm "width"),.str (⟨#[32]⟩:Str),.var (nm "splitters")]) ⟨L,hp⟩=some (.ref hp.length,⟨L,b⟩):=by
  refine bS (evs4 (e_var J) (e_var K) bL (e_var y)) ?_;have j:run tabNow (n+5) 10 [.ref hp.length,.int (room:Int),.int (wd:Int),.str (⟨#[32]⟩:Str),.str (toS spl)] (hp++[O.inst []])=some (.none,b):=M;exact bS (mX j) rfl
 rw[aD N];have A:hp.length<(hp++[O.inst []]).length:=by simp
 have P:(⟨(nm "maker",.ref hp.length)::L,b⟩:St).loc.lookup (nm "maker")=some (.ref hp.length):=aa;obtain⟨c,Q,o,p,q⟩:=run13 (n:=n) (v:=.str (toS spl)) g (s:=⟨[],[],room⟩) (t:=t) ⟨r,by simp[FS.size,af]⟩ (by simp[FS.size,af];exact Nat.le_of_lt_succ G) H;have R:ev (run tabNow (n+5)) (.meth (.var (nm "maker")) (nm "_ascii_split") [.str (⟨#[]⟩:Str),.var (nm "text"),.var (nm "splitters")]) ⟨(nm "maker",.ref hp.length)::L,b⟩=some (.none,⟨(nm "maker",.ref hp.length)::L,c⟩):=
  gS (st:=⟨(nm "maker",.ref hp.length)::L,b⟩) (s1:=⟨(nm "maker",.ref hp.length)::L,b⟩) (s2:=⟨(nm "maker",.ref hp.length)::L,b⟩) (e_var P) (evs3 bL (e_var (ab (by decide) I)) (e_var (ab (by decide) y))) g.inst g.inst (de (x:="_ascii_split") rfl) (de (x:="_ascii_split") rfl) (by simp only[vfMeth,zZ,b2,yb]) Q
 rw[bJ R];refine el12 (run11 (n:=n+1) o p) λd S B=>?_;have T:ev (run tabNow (n+5)) (.meth (.var (nm "maker")) (nm "_str") [.str (⟨#[10]⟩:Str)]) ⟨(nm "maker",.ref hp.length)::L,c⟩=some (.str (toS (aJ [10] (ee t spl room wd))),⟨(nm "maker",.ref hp.length)::L,d⟩):=
  gS (st:=⟨(nm "maker",.ref hp.length)::L,c⟩) (s1:=⟨(nm "maker",.ref hp.length)::L,c⟩) (s2:=⟨(nm "maker",.ref hp.length)::L,c⟩) (e_var aa) (gp bL) o.inst o.inst (de (x:="_str") rfl) (de (x:="_str") rfl) (by simp only[vfMeth,zZ,b2,yb]) S
 rw[cJ T];refine⟨d,rfl,zB h.1 (zB q.1 B.1),λk f=>?_⟩;have C:k<b.length:=zR f h.1;have D:k≠(hp++[O.inst []]).length:=by simp;exact zd (yL f)
 have E:k≠(hp++[O.inst []]).length+1:=by simp;exact zd (fk1 f)
 exact(B.2 k (zR C q.1) D E).trans ((q.2 k C D E).trans (h.2 k f))
theorem iK(spl:List Nat)(wd:Nat):∀(es:List Ent)(s:FS),(es.foldl (aP spl wd) s).size<=s.size+eT es
 | [],s=>by simp[eT]
 | e::r,s=>by
  have b:=iK spl wd r (aP spl wd s e);have c:=ka spl wd s e;rw[uL,eT,zV,ji,show(List.map (λe:Ent=>e.1.length+e.2.length+3) r).sum=eT r from rfl];exact fk2 b c.1
theorem pB(s:List Nat)(b:s.length<=1):∀ls:List (List Nat),(aJ s ls).length<=ls.flatten.length+ls.length
 | []=>by simp[aJ]
 | [x]=>by simp[aJ]
 | x::y::r=>by
  have:=pB s b (y::r);show(x++s++aJ s (y::r)).length<=_
  simp only[zF,yd,zL]at*;exact fk2 b this
theorem CE(b:eT (bq t)+1<=800):(aJ [10] (ee t spl room wd)).length<=801:=by
 have c:=pB [10] (by simp) (ee t spl room wd);have d:=dB ((bq t).foldl (aP spl wd) ⟨[],[],room⟩);have e:=iK spl wd (bq t) ⟨[],[],room⟩;have f:(⟨[],[],room⟩:FS).size=0:=by simp[FS.size,af]
 have g:(ee t spl room wd).flatten.length+(ee t spl room wd).length<=(aT ((bq t).foldl (aP spl wd) ⟨[],[],room⟩)).size:=by
  unfold FS.size ee;simp +arith
 lia
end
noncomputable abbrev wP(p:P):Bool:=isW p.1
noncomputable def i4(ps:List P):List P:=ps.takeWhile wP++(ps.dropWhile wP).takeWhile (!wP ·)
noncomputable def nD(ps:List P):List P:=(ps.dropWhile wP).dropWhile (!wP ·)
theorem fH:∀(p:P)(r:List P),ag (p::r)=i4 (p::r)::ag (nD (p::r))
 | p,[]=>by
  cases h:isW p.1<;>simp[ag,i4,nD,wP,h]
 | p,q::r=>by
  have a:=fH q r;rw[ag];cases hp:isW p.1 with
  | true=>
   simp only[Bool.not_true,uH,yK,if_false,a];simp[i4,nD,wP,hp]
  | false=>
   cases b:isW q.1 with
   | true=>
    simp only[Bool.not_false,Bool.and_self,if_true];simp[i4,nD,wP,hp,b]
   | false=>
    simp only[Bool.not_false,vM,yK,if_false,a];simp[i4,nD,wP,hp,b]
noncomputable def sgn(l:List P):List Nat:=l.map (·.1)
noncomputable def bC(c:List P):Ent:=((sgn c).takeWhile isW,(sgn c).dropWhile isW)
theorem takeWhile_all{b:Type}{p:b->Bool}:∀{l:List b},(∀x∈l,p x=true)->l.takeWhile p=l
 | [],_=>rfl
 | a::r,h=>by rw[jz,if_pos (h a (by simp)),takeWhile_all λx c=>h x (by simp[c])]
theorem mR{b:Type}{p:b->Bool}:∀{l:List b},(∀x∈l,p x=true)->l.dropWhile p=[]
 | [],_=>rfl
 | a::r,h=>by rw[ja,if_pos (h a (by simp)),mR λx c=>h x (by simp[c])]
theorem eh{b:Type}{p:b->Bool}:∀{l:List b}{x:b},x∈l.takeWhile p->p x=true
 | [],x,h=>by simp at h
 | a::r,x,h=>by
  rw[jz]at h;split at h
  ·rcases zM.mp h with h|h
   ·subst h;assumption
   ·exact eh h
  ·simp at h
theorem qd(p:Nat->Bool)(l:List P):sgn (l.takeWhile λx=>p x.1)=(sgn l).takeWhile p:=by
 unfold sgn;rw[List.takeWhile_map];rfl
theorem lP(p:Nat->Bool)(l:List P):sgn (l.dropWhile λx=>p x.1)=(sgn l).dropWhile p:=by
 unfold sgn;rw[List.dropWhile_map];rfl
theorem Cf(w x:List Nat)(b:∀c∈w,isW c=true)(d:∀c∈x,isW c=false):(w++x).takeWhile isW=w/\(w++x).dropWhile isW=x:=by
 induction w with
 | nil=>
  cases x with
  | nil=>exact⟨rfl,rfl⟩
  | cons a r=>
   have:=d a (by simp);simp[this]
 | cons a r e=>
  have f:=b a (by simp);have:=e λc g=>b c (by simp[g]);simp[f,this]
theorem qe(ps:List P):bC (i4 ps)=((sgn ps).takeWhile isW,((sgn ps).dropWhile isW).takeWhile (!isW ·)):=by
 have e:sgn (i4 ps)=(sgn ps).takeWhile isW++((sgn ps).dropWhile isW).takeWhile (!isW ·):=by
  unfold i4;refine(show sgn (ps.takeWhile wP++(ps.dropWhile wP).takeWhile (!wP ·))=sgn (ps.takeWhile wP)++sgn ((ps.dropWhile wP).takeWhile (!wP ·)) by simp[sgn]).trans ?_;rw[show sgn ((ps.dropWhile wP).takeWhile (!wP ·))=(sgn (ps.dropWhile wP)).takeWhile (!isW ·)from qd (!isW ·) _,show sgn (ps.dropWhile wP)=(sgn ps).dropWhile isW from lP isW _,show sgn (ps.takeWhile wP)=(sgn ps).takeWhile isW from qd isW _]
 unfold bC;rw[e];have:=Cf ((sgn ps).takeWhile isW) (((sgn ps).dropWhile isW).takeWhile (!isW ·)) (λc a=>eh a) (λc a=>by simpa using eh a);rw[this.1,this.2]
theorem hH:∀(n:Nat)(ps:List P),ps.length<n->bH n (sgn ps)=(ag (ps.dropWhile (!wP ·))).map bC
 | 0,_,h=>by lia
 | n+1,ps,h=>by
  have e:(sgn ps).dropWhile (!isW ·)=sgn (ps.dropWhile (!wP ·)):=(lP (!isW ·) ps).symm;rw[bH,e];cases a:ps.dropWhile (!wP ·)with
  | nil=>rfl
  | cons c r=>
   have b:=dg (!wP ·) ps;rw[a,zL]at b;have d:isW c.1=true:=by
    have:=List.head?_dropWhile_not (!wP ·) ps;rw[a]at this;simpa using this
   show((sgn (c::r)).takeWhile isW,((sgn (c::r)).dropWhile isW).takeWhile (!isW ·))::bH n ((sgn (c::r)).dropWhile isW)=_
   rw[fH,zV,qe];congr 1;rw[show(sgn (c::r)).dropWhile isW=sgn ((c::r).dropWhile wP)from(lP isW (c::r)).symm];have f:((c::r).dropWhile wP).length<=r.length:=by
    rw[ja,if_pos d];exact dg _ _
   refine(hH n _ (fk3 h b f)).trans ?_;rfl
theorem iY(ps:List P):bq (sgn ps)=(ag ps).map bC:=by
 unfold bq;rw[hH _ ps (by simp[sgn])];cases ps with
 | nil=>rfl
 | cons p r=>
  cases hp:isW p.1 with
  | true=>
   simp[sgn,hp,wP]
  | false=>
   rw[fH,zV,qe];simp[sgn,hp,wP,nD]
noncomputable def Meets:List (List P)->Prop
 | c::d::r=>(∃q,c.getLast?=some q/\isW q.1=false)/\(∃p,d.head?=some p/\isW p.1=true)/\Meets (d::r)
 | _=>True
set_option tactic.hygienic true in
theorem fF:∀ps:List P,Meets (ag ps)
 | []=>trivial
 | [p]=>trivial
 | p::q::r=>by
  have ih:=fF (q::r);refine dk (fM q r) λc cs e=>?_;rw[ag];split
  ·rename_i h;simp only[za,Bool.not_eq_true']at h;rw[e]at ih⊢;exact⟨⟨p,rfl,h.2⟩,⟨q,rfl,h.1⟩,ih⟩
  ·rw[e]at ih⊢;cases cs with
   | nil=>trivial
   | cons d ds=>
    obtain⟨⟨x,h1,h2⟩,h3,h4⟩:=ih;exact⟨⟨x,by rw[List.getLast?_cons_cons];exact h1,h2⟩,h3,h4⟩
theorem hJ:∀{C:List (List P)}{k:Nat},Meets C->(h:k+1<C.length)->(∃q,C[k].getLast?=some q/\isW q.1=false)/\(∃p,C[k+1].head?=some p/\isW p.1=true)
 | c::d::r,0,m,h=>⟨m.1,m.2.1⟩
 | c::d::r,k+1,m,h=>hJ (C:=d::r) (k:=k) m.2.2 (by simpa using h)
 | [],k,_,h=>by simp at h
 | [c],k,_,h=>by simp at h
noncomputable def au(C:List (List P))(a b:Nat):List Ent:=((C.take b).drop a).map bC
theorem tG(a b:List P):sgn (a++b)=sgn a++sgn b:=by simp[sgn]
theorem ln(l:List (List P)):af (l.map bC)=sgn l.flatten:=by
 induction l with
 | nil=>rfl
 | cons c r a=>
  simp only[zV,yd,tG,<-a];show((sgn c).takeWhile isW++(sgn c).dropWhile isW)++_=_
  refine jC▸?_;rfl
theorem di(C:List (List P))(a b:Nat):af (au C a b)=sgn (seg C a b):=ln _
theorem vi{l:List P}(h:∀p∈l,p.2=[p.1]):mng l=sgn l:=by
 induction l with
 | nil=>rfl
 | cons a r b=>
  have:=b λp hp=>h p (by simp[hp]);unfold mng sgn at*;refine zm.trans ?_;simp only[zV,this,h a (zj)];rfl
section
variable {C:List (List P)}{spl:List Nat}{wd a b i j k c:Nat}{lead:List Nat}{l:List Ent}{e:Ent}
theorem nM(h:a<=j)(d:j<C.length):au C a (j+1)=au C a j++[bC C[j]]:=by
 unfold au;rw[yn d,List.drop_append_of_le_length (by simp;lia)];exact zx
theorem bM(d:b<=C.length):(au C a b).length=b-a:=by
 unfold au;simp;lia
theorem dG(d:b<=C.length)(h:a+i<b):(au C a b).getD i ([],[])=bC (C[a+i]'(zR h d)):=by
 unfold au;simp only[uj,jt,uI,vE h,zP (zR h d)];rfl
theorem v0(h:a+i<=b):(au C a b).take i=au C a (a+i):=by
 unfold au;refine uk.symm.trans ?_;simp only[List.take_drop,List.take_take,jv h]
theorem wL:(au C a b).drop i=au C (a+i) b:=by
 unfold au;rw[<-uP,uV]
noncomputable def dy(lead:List Nat):List Ent->List Ent
 | []=>[]
 | e::r=>(lead++e.1,e.2)::r
theorem qf(l:List Ent):dy [] l=l:=by cases l<;>rfl
theorem ez:(dy lead l).length=l.length:=by cases l<;>rfl
theorem g5(h:l≠[]):af (dy lead l)=lead++af l:=by
 cases l with
 | nil=>exact absurd rfl h
 | cons e r=>simp[dy,af]
theorem x9(h:l≠[]):dy lead (l++[e])=dy lead l++[e]:=by
 cases l with
 | nil=>exact absurd rfl h
 | cons e r=>rfl
theorem wx(h:0<i):(dy lead l).take i=dy lead (l.take i):=by
 cases l with
 | nil=>simp[dy]
 | cons e r=>cases i with
  | zero=>rfl
  | succ i=>rfl
theorem wW(h:0<i):(dy lead l).drop i=l.drop i:=by
 cases l with
 | nil=>rfl
 | cons e r=>cases i with
  | zero=>lia
  | succ i=>rfl
theorem pK(h:0<i):(dy lead l).getD i ([],[])=l.getD i ([],[]):=by
 cases l with
 | nil=>rfl
 | cons e r=>cases i with
  | zero=>lia
  | succ i=>rfl
theorem mt:((dy lead l).getD i ([],[])).2=(l.getD i ([],[])).2:=by
 cases l with
 | nil=>rfl
 | cons e r=>cases i<;>rfl
theorem qN{p:P}(f:k<C.length)(h:C[k].head?=some p):sg C.flatten (off C k)=p.1:=by
 have e:=mo C k;simp only[vA f,yd]at e;have d:(C.flatten.drop (off C k)).head?=some p:=by
  simp only[e,List.head?_append,h];rfl
 rw[List.head?_drop]at d;unfold sg;simp only[uj,d];rfl
theorem tV{q:P}(g:k<C.length)(h:C[k].getLast?=some q):sg C.flatten (off C (k+1)-1)=q.1:=by
 have e:=pS C (k+1);simp only[yn g,jx,List.flatten_singleton]at e;have f:(C.flatten.take (off C (k+1))).getLast?=some q:=by
  simp only[e,List.getLast?_append,h];rfl
 have d:0<off C (k+1):=by
  refine(jR (off C (k+1))).elim (λq0=>?_) λq0=>?_
  ·simp only[q0,List.take_zero]at f;exact no f
  ·exact q0
 rw[yi,(yP.trans (jv (eK _ _)):(C.flatten.take (off C (k+1))).length=off C (k+1)),vE (yA d)]at f;unfold sg;simp only[uj,f];rfl
theorem kf{p:Nat->Bool}{x:Nat}(d:p x=false):∀r:List Nat,((r++[x]).dropWhile p).getLast?=some x
 | []=>by simp[d]
 | a::r=>by
  simp only[je,ja];split
  ·exact kf d r
  ·rw[<-je,List.getLast?_append];rfl
theorem qt{x:List P}{q:P}(h:x.getLast?=some q)(f:isW q.1=false):(bC x).2.getLast?=some q.1:=by
 refine eD (yk.mp h) λr d=>?_;subst d;unfold bC;rw[tG];exact kf f _
theorem ng{x:List P}{p:P}(h:x.head?=some p)(hp:isW p.1=true):(bC x).1.head?=some p.1:=by
 cases x with
 | nil=>contradiction
 | cons a r=>
  cases h;simp[bC,sgn,hp]
theorem wy(h:isW c=true):yI c=true:=by
 unfold isW at h;rw[Bool.or_eq_true,beq_iff_eq,beq_iff_eq]at h;rcases h with h|h<;>subst h<;>decide
theorem Ar:∀(r:Meets C)(d:b<=C.length)(f:0<i)(h:a+i<b),hit C c (a+i)=iA (dy lead (au C a b)) c i:=by
 revert C a b i c lead;exists dI,C,a,b,i,c,lead;intros;obtain⟨⟨q,q1,s⟩,p,p1,p2⟩:=hJ (C:=C) (k:=a+i-1) r (by exact fk3 d h (@sb (a+i) 1 (zB f (zH ..))));have n:=tV (C:=C) (k:=a+i-1) (by exact fk3 d h (yj (a+i) 1)) q1;rw[show a+i-1+1=a+i by exact yE (fk1 (@sb (a+i) 1 (zB f (zH ..)))) (fk1 (sa (a+i) 1))]at n;have g:(C[a+i]'(zR h d)).head?=some p:=by
  simp only[<-p1];congr 2;exact yE (fk1 (sa (a+i) 1)) (fk1 (@sb (a+i) 1 (zB f (zH ..))))
 delta hit iA
 rw[n,(qN (C:=C) (k:=a+i) (zR h d) g),pK f,mt,dG d h,dG d (fk2 h (yj i 1)),ng g p2];have m:(C[a+(i-1)]'(fk3 d h (yj i 1))).getLast?=some q:=by
  simp only[<-q1];congr 2;exact(Nat.add_sub_assoc f _).symm
 refine(qt m s)▸?_;have o:∀x y:Nat,(some x==some y)=(y==x):=λx y=>by
  rw[uM];simp only[beq_iff_eq,Option.some.injEq];exact eq_comm
 simp only[o,o,Bool.or_comm];congr 1;cases t:c==p.1 with
 | false=>simp
 | true=>
  rw[wy ((beq_iff_eq.mp t)▸p2)];rfl
theorem sF{p q:Nat->Bool}{m:Nat}(h:∀i,0<i->i<=m->p (a+i)=q i):((yy (a+1) m).reverse).find? p=(((yy 1 m).reverse).find? q).map (a+·):=by
 rw[show a+1=a+1 from rfl,<-List.map_add_range' (a:=a) (s:=1),<-List.map_reverse,List.find?_map];congr 1;have:∀l:List Nat,(∀i∈l,0<i/\i<=m)->l.find? (p∘λx=>a+x)=l.find? q:=λl g=>by
  induction l with
  | nil=>rfl
  | cons x r n=>
   refine uf.trans ?_;simp only[uf,n λi d=>g i (by simp[d])];have:=g x (zj);simp only[Function.comp,h x this.1 this.2]
 refine this _ λi d=>?_;refine el12 (List.mem_range'.mp (List.mem_reverse.mp d)) λt o f=>?_;subst f;exact⟨zW ..,fk1 o⟩
theorem hV{f:Nat->Option Nat}{g:Nat->Nat}:∀l:List Nat,(l.findSome? λc=>(f c).map g)=(l.findSome? f).map g
 | []=>rfl
 | x::r=>by
  refine jy.trans ?_;simp only[jy,hV r];cases f x<;>rfl
theorem AB(g:Meets C)(m:a<=j)(d:j<C.length):ei C spl a j=(eW spl (dy lead (au C a (j+1)))).map (a+·):=by
 unfold ei eW;rw[<-hV];congr 1;funext c
 simp only[ez,bM (d),show j+1-a-1=j-a by lia];exact sF λi f h=>Ar g (d) f (fk2 h (@sb j a (zg (Nat.lt_of_sub_pos (zR f h)))))
structure Rel (C:List (List P)) (j:Nat) (s:FS) (r:RS):Prop where
 lines:s.lines=r.rows
 init:s.init=r.room
 first:r.first<j\/(j=0/\r.first=0)
 lead:r.lead=[]\/(r.lead=[32]/\r.first=0/\0<j/\∃h:0<C.length,(bC C[0]).1=[])
 cur:s.cur=dy r.lead (au C r.first j)
 nil:r.rows=[]->r.first=0
 room:0<r.room->r.rows=[]
theorem Bx(d:∀p∈C.flatten,p.2=[p.1])(h:a<=b):mng (seg C a b)=sgn (seg C a b):=vi λp hp=>d p (tF h hp)
theorem BA(h:a<=b):(sgn (seg C a b)).length=off C b-off C a:=by
 refine((gf h).symm)▸?_;have:=eK C b;simp only[sgn,zC,yP,yC];lia
theorem pi(ls:List (List Nat)){i:Nat}(x:List Nat)(h:0<i):bF ls i x=ls++[x]:=by
 unfold bF;refine(if_neg (yF (zR h (zW ..)))).trans ?_;rw[show fN i x=false by unfold fN;rw[show(i==0)=false from beq_false_of_ne (yF h)];rfl];rfl
theorem rl{l:List Ent}(h:∀e,l.getLast?=some e->e.2≠[]):af (cV l)=af l:=by
 unfold cV;cases e:l.getLast? with
 | none=>
  rw[yH]at e;subst e;rfl
 | some x=>
  simp only;rw[if_neg];intro d;exact h x e (congrArg _ d)
theorem xP:∀{s:FS}{r:RS}(H:Meets C)(J:∀c∈C,c≠[])(S:∀p∈C.flatten,p.2=[p.1])(h:Rel C j s r)(m:j<C.length),Rel C (j+1) (aP spl wd s (bC C[j])) (eu C spl wd r j):=by
 revert C spl wd j;exists dI,C,spl,wd,j,s,r;intros;have g:r.first<=j:=by have:=h.first;lia
 have f:s.cur++[bC C[j]]=dy r.lead (au C r.first (j+1)):=by
  simp only[nM g m,h.cur];by_cases n:au C r.first j=[]
  ·have t:=congrArg jp n
   replace t:=((bM (zg m)).symm).trans t
   simp only[yt]at t;have w:j=0:=by have:=h.first;lia
   have o:r.lead=[]:=by
    rcases h.lead with q|⟨_,_,q,_⟩
    ·exact q
    ·lia
   rw[n,o];rfl
  ·rw[x9 n]
 have A:au C r.first (j+1)≠[]:=λe=>by
  have t:=congrArg jp e;rw[bM (m)]at t;simp only[yt]at t;exact fz3 g (zS t) (sa j.succ r.first)
 have B:(af (s.cur++[bC C[j]])).length=r.lead.length+(off C (j+1)-off C r.first):=by
  simp only[f,g5 A,zF,di,BA (yo g)]
 delta aP eu
 rw[B,h.init];by_cases u:r.room+r.lead.length+off C (j+1)<=wd+off C r.first
 ·rw[if_pos u,if_pos (fk2 u (sb (fv (C:=C) (a:=r.first) (b:=j+1) (yo g))))];refine⟨h.lines,rfl,by lia,?_,f,h.nil,h.room⟩;rcases h.lead with q|⟨q1,D,T,K⟩
  ·exact .inl q
  ·exact .inr ⟨q1,D,uc _,K⟩
 ·rw[if_neg u,if_neg (Nat.not_le_of_lt (fk2 (Nat.lt_of_not_le u) (sa (off C (j+1)) (off C r.first))))];simp only[AB (lead:=r.lead) H g m,<-f];cases U:eW spl (s.cur++[bC C[j]])with
  | some i=>
   have I:=iL U;simp only[f,ez,bM (m)]at I;simp only[jO];refine⟨?_,rfl,.inl (by show r.first+i<j+1;lia),.inl rfl,?_,?_,?_⟩
   ·refine(?_:s.lines++_=r.rows++_);rw[h.lines,f,wx I.1,v0 (by lia),g5,di,Bx S (zW ..)];intro e;have t:=congrArg jp e;rw[bM (by lia)]at t;simp only[yt]at t;exact fz3 I.1 (zS t) (sa (r.first+i) r.first)
   ·refine(?_:List.drop i _=dy [] _);rw[f,wW I.1,wL,qf]
   ·intro e;simp at e
   ·intro e;exact absurd e (by simp)
  | none=>
   simp only[Option.map_none];by_cases w:r.room=0
   ·simp only[w,yu,if_false,if_true];refine⟨h.lines,w.symm,by lia,?_,f,h.nil,h.room⟩;rcases h.lead with q|⟨q1,D,T,K⟩
    ·exact .inl q
    ·exact .inr ⟨q1,D,uc _,K⟩
   ·simp only[show(0<r.room)=True from by simp;exact jQ w,if_true,if_neg w];have y:∀e,s.cur.getLast?=some e->e.2≠[]:=by
     intro e n
     replace n:=h.cur▸n
     have d:0<(dy r.lead (au C r.first j)).length:=by
      rcases jR (dy r.lead (au C r.first j)).length with q|q
      ·rw[zk.mp q]at n;exact no n
      ·exact q
     replace d:=ez▸d;replace d:=(bM (zg m))▸d
     refine aA (hJ (C:=C) (k:=j-1) H (fk2 m (@sb j 1 (fk2 d (yj j r.first))))) λL _=>?_;refine el12 L λq q1 D=>?_;rw[yi,ez,bM (zg m)]at n;have V:(dy r.lead (au C r.first j)).getD (j-r.first-1) ([],[])=e:=by simp only[uj,n];rfl
     have M:=mt (lead:=r.lead) (l:=au C r.first j) (i:=j-r.first-1);rw[V,dG (zg m) (fk2 (sb g) (sb d))]at M;have N:(C[r.first+(j-r.first-1)]'(fk3 m (sb g) (yj (j-r.first) 1))).getLast?=some q:=by
      simp only[<-q1];congr 2;exact yE (fk3 (sb g) (sa j 1) (sb d)) (fk3 (sa j r.first) (sa (j-r.first) 1) (@sb j 1 (fk2 d (yj j r.first))))
     intro W;simp only[W]at M;have:=qt N D
     replace this:=M.symm▸this
     exact no this
    have z:(aT s).lines=r.rows++[r.lead++mng (seg C r.first j)]:=by
     show bF s.lines s.init (af (cV s.cur))=_
     refine(pi _ _ (by rw[h.init];exact jQ w)).trans ?_;rw[rl y,h.lines,h.cur,Bx S g];congr 2;by_cases n:au C r.first j=[]
     ·have t:=congrArg jp n;rw[bM (zg m)]at t;simp only[yt]at t;have w:j=0:=by have:=h.first;lia
      have o:r.lead=[]:=by
       rcases h.lead with q|⟨_,_,q,_⟩
       ·exact q
       ·lia
      rw[n,o,<-di,n];rfl
     ·refine(g5 n).trans ?_;rw[di]
    have O:∃p,C[j].head?=some p:=by
     cases E:C[j]with
     | nil=>exact absurd E (J _ (yZ m))
     | cons p x=>exact⟨p,rfl⟩
    obtain⟨p,hp⟩:=O;have F:=qN m hp;have G:au C j (j+1)=[bC C[j]]:=by
     refine(nM (zY _) m).trans ?_;have:au C j j=[]:=by rw[<-zk,bM (zg m)];exact Nat.sub_self _
     rw[this];rfl
    refine⟨z,rfl,.inl (zq j),?_,?_,?_,?_⟩
    ·skip
     refine F▸?_;cases v:isW p.1 with
     | true=>exact .inl rfl
     | false=>
      refine .inr ⟨rfl,?_,uc _,?_⟩
      ·show j=0
       rcases jR j with q|q
       ·exact q
       ·obtain⟨_,Q,p1,p2⟩:=hJ (C:=C) (k:=j-1) H (fk2 m (sb q));have:C[j].head?=some Q:=by rw[<-p1];congr 2;exact yE (fk1 (sa j 1)) (yA q)
        rw[hp]at this;cases this;rw[p2]at v;cases v
      ·have R:j=0:=by
        rcases jR j with q|q
        ·exact q
        ·obtain⟨_,Q,p1,p2⟩:=hJ (C:=C) (k:=j-1) H (by lia);have:C[j].head?=some Q:=by rw[<-p1];congr 2;exact yE (fk1 (sa j 1)) (yA q)
         rw[hp]at this;cases this;rw[p2]at v;cases v
       subst R;refine⟨m,?_⟩;unfold bC;cases E:C[0]with
       | nil=>rfl
       | cons X x=>
        rw[E]at hp;obtain rfl:=zE hp;simp[sgn,v]
    ·refine(?_:[(_,_)]=dy _ (au C j (j+1)));simp only[G,F];cases v:isW p.1 with
     | true=>
      have:=ng hp v;rw[if_neg (λe=>by replace this:=e▸this;exact no this),if_pos rfl];simp[dy]
     | false=>
      have:(bC C[j]).1=[]:=by
       unfold bC;cases E:C[j]with
       | nil=>rfl
       | cons X x=>
        rw[E]at hp;obtain rfl:=zE hp;simp[sgn,v]
      rw[if_pos this,if_neg (by simp)];simp[dy,this]
    ·intro e;simp at e
    ·intro e;exact absurd e (by simp)
end
section
variable {C:List (List P)}{spl:List Nat}{room wd a b i j k c:Nat}{lead:List Nat}{l:List Ent}{e:Ent}{s:FS}{r:RS}
theorem kN:stC C spl room wd (j+1)=eu C spl wd (stC C spl room wd j) j:=by
 unfold stC;rw[List.range_succ,List.foldl_append];rfl
theorem kW(f:Meets C)(d:∀c∈C,c≠[])(g:∀p∈C.flatten,p.2=[p.1]):∀j,j<=C.length->Rel C j (((C.take j).map bC).foldl (aP spl wd) ⟨[],[],room⟩) (stC C spl room wd j)
 | 0,_=>⟨rfl,rfl,.inr ⟨rfl,rfl⟩,.inl rfl,by simp[stC,au,dy],λ_=>rfl,λ_=>rfl⟩
 | j+1,hj=>by
  have h:=kW f d g j (zg hj);rw[yn hj,zx,List.foldl_append,kN];exact xP f d g h hj
theorem FJ{x:List P}:sgn x=[32]↔bC x=([32],[]):=by
 unfold bC;constructor
 ·intro h;rw[h];rfl
 ·intro h;have e:=jC (p:=isW) (l:=sgn x);have d:=congrArg Prod.fst h;have f:=congrArg Prod.snd h;simp only at d f;rw[d,f]at e;exact e.symm
noncomputable abbrev mY(C:List (List P)):Prop:=sg C.flatten (C.flatten.length-1)=32/\off C (C.length-1)=C.flatten.length-1
theorem wI:∀(g:∀c∈C,c≠[])(d:0<C.length),mY C↔bC (C[C.length-1]'(yA d))=([32],[]):=by
 revert C;exists ce1_,C;intros;rw[<-FJ];have o:=g _ (yZ (show C.length-1<C.length by exact yA d));have f:=kZ (C:=C) (i:=C.length-1) (yA d);rw[show C.length-1+1=C.length by exact Nat.sub_add_cancel d,gX]at f;have p:=jE.mpr o;obtain⟨q,t⟩:∃q,(C[C.length-1]'(yA d)).getLast?=some q:=by
  cases e:(C[C.length-1]'(yA d)).getLast? with
  | none=>exact absurd (yH.mp e) o
  | some q=>exact⟨q,rfl⟩
 have u:=tV (C:=C) (k:=C.length-1) (by exact yA d) t;rw[show C.length-1+1=C.length by exact Nat.sub_add_cancel d,gX]at u;unfold mY;rw[u];refine eD (yk.mp t) λx v=>?_;rw[v]at f⊢;rw[zF,yV]at f;constructor
 ·intro⟨q1,w⟩;have:x.length=0:=yE (fk3 (eqg f) (eqg w) (sa C.flatten.length 1)) (jG _);rw[zk.mp this];simp[sgn,q1]
 ·intro h;have m:=congrArg jp h;rw[sgn,zC,zF,yV,yV]at m;have n:x.length=0:=Nat.succ.inj m;rw[zk.mp n]at h;simp[sgn]at h
  exact⟨h,yE (fk2 (eqg f) (sa C.flatten.length 1)) (fk3 (zS f) (zS m) (@sb C.flatten.length 1 (fk1 (eqg f))))⟩
theorem qX:ay C r=if mY C then(C.flatten.drop (off C r.first)).dropLast else C.flatten.drop (off C r.first):=rfl
theorem rh(d:C.flatten≠[])(h:mY C):∃y q,C.flatten=y++[q]/\q.1=32:=by
 obtain⟨y,q,f⟩:∃y q,C.flatten=y++[q]:=⟨C.flatten.dropLast,C.flatten.getLast d,(ug d).symm⟩;refine⟨y,q,f,?_⟩;have:=h.1;rw[f]at this;simp[sg]at this
 exact this
set_option tactic.hygienic true in
theorem tE(hB:∃p∈C.flatten,bz p.1=false)(h:Rel C j s r)(hw:(ay C r).all (λp=>bz p.1)=true):r.rows≠[]:=by
 intro h0;refine el12 hB λp hp hpw=>?_;have hne:C.flatten≠[]:=λe=>by rw[e]at hp;cases hp
 have hmem:p∈ay C r:=by
  rw[qX,h.nil h0,BN,List.drop_zero];split
  ·rename_i hl;refine fw (rh hne hl) λy q hy hq=>?_;rw[hy]at hp⊢;rw[jo];rcases zb.mp hp with hp|hp
   ·exact hp
   ·rw[zG]at hp;subst hp;rw[hq]at hpw;cases hpw
  ·exact hp
 have:=yD.mp hw p hmem;rw[hpw]at this;cases this
theorem n9(x:List P):sgn x.dropLast=(sgn x).dropLast:=by unfold sgn;rw[uO]
theorem wh:∀(m:∀c∈C,c≠[])(w:0<C.length)(h:Rel C C.length s r),af (cV s.cur)=r.lead++sgn (ay C r):=by
 revert C s r;exists ce3_,C,s,r;intros;have t:r.first<C.length:=by have:=h.first;omega
 have u:au C r.first C.length≠[]:=λe=>by
  have g:=congrArg jp e;rw[bM (zY _)]at g;simp only[yt]at g;exact fz3 t (zS g) (sa C.length r.first)
 have x:seg C r.first C.length=C.flatten.drop (off C r.first):=by
  unfold seg;rw[uw,mo]
 have n:af s.cur=r.lead++sgn (C.flatten.drop (off C r.first)):=by
  rw[h.cur,g5 u,di,x]
 obtain⟨y,e,A⟩:∃y e,s.cur=y++[e]:=by
  have:s.cur≠[]:=λe=>by
   have g:=congrArg jp e;rw[h.cur,ez,bM (zY _)]at g;simp only[yt]at g;omega
  exact⟨s.cur.dropLast,s.cur.getLast this,(ug this).symm⟩
 have F:y.length=C.length-r.first-1:=by
  have g:=congrArg jp A;rw[h.cur,ez,bM (zY _),zF,yV]at g;exact yE (fk2 (eqg g) (sa (C.length-r.first) 1)) (fk2 (zS g) (@sb (C.length-r.first) 1 (vW t)))
 have d:s.cur.getD (C.length-r.first-1) ([],[])=e:=by
  rw[A,<-F];simp
 have f:e=([32],[])↔mY C:=by
  rw[wI m w];have L:=m _ (yZ (show C.length-1<C.length by exact yA w));by_cases o:r.first=C.length-1
  ·rcases h.lead with q|⟨q1,G,S,T,M⟩
   ·rw[h.cur,q,qf,dG (zY _) (fk2 (@sb (C.length-r.first) 1 (fk3 (zS o) (sb w) (sa C.length r.first))) (@sb C.length r.first (fk2 (zS o) (yj C.length 1))))]at d;rw[<-d];have:r.first+(C.length-r.first-1)=C.length-1:=yE (fk3 (@sb (C.length-r.first) 1 (fk3 (zS o) (sb w) (sa C.length r.first))) (sa C.length 1) (@sb C.length r.first (fk2 (zS o) (yj C.length 1)))) (fk1 (eqg o));simp only[this]
   ·have N:C.length=1:=yE (fk3 (eqg o) (zS G) (sa C.length 1)) w;have O:C.length-1=0:=o▸G;have E:=mt (lead:=r.lead) (l:=au C r.first C.length) (i:=C.length-r.first-1);rw[<-h.cur,d,dG (zY _) (fk2 (@sb (C.length-r.first) 1 (fk3 (zS o) (sb (eqg N)) (sa C.length r.first))) (@sb C.length r.first (fk1 (zS G))))]at E;have Q:r.first+(C.length-r.first-1)=0:=by omega
    simp only[Q]at E;have H:C[0]≠[]:=m _ (yZ _);have v:(bC C[0]).2≠[]:=λz=>by
     have e:=jC (p:=isW) (l:=sgn C[0]);have R:(sgn C[0]).dropWhile isW=[]:=z;have I:(sgn C[0]).takeWhile isW=[]:=M;rw[R,I]at e;have:=congrArg jp e;simp[sgn]at this
     exact H (zk.mp this.symm)
    simp only[O];constructor
    ·intro z;rw[z]at E;exact absurd E.symm v
    ·intro z;rw[z]at v;exact absurd rfl v
  ·rw[h.cur,pK (by omega),dG (zY _) (fk2 (@sb (C.length-r.first) 1 (vW t)) (@sb C.length r.first (zg t)))]at d;rw[<-d];have:r.first+(C.length-r.first-1)=C.length-1:=yE (fk3 (sa C.length 1) (@sb (C.length-r.first) 1 (vW t)) (@sb C.length r.first (zg t))) (fk3 (sa (C.length-r.first) 1) (sb w) (sa C.length r.first));simp only[this]
 rw[qX];unfold cV;rw[A,List.getLast?_concat];simp only;by_cases B:mY C
 ·rw[if_pos (f.mpr B),if_pos B,jo];have D:=n;rw[A,cz,f.mpr B]at D;have J:af y++[32]=r.lead++sgn (C.flatten.drop (off C r.first)):=D;have K:sgn (C.flatten.drop (off C r.first))≠[]:=by
   have:=om m t;intro z;have:=congrArg jp z;simp only[sgn,zC,yC,yt]at this;exact fz3 ‹off C r.first<C.flatten.length› (zS this) (sa C.flatten.length (off C r.first))
  have:=congrArg List.dropLast J;rw[jo,List.dropLast_append_of_ne_nil K]at this;refine this.trans ?_;rw[n9]
 ·rw[if_neg (λz=>B (f.mp z)),if_neg B,<-A,n]
theorem AT:∀(u:∀c∈C,c≠[])(A:0<C.length)(B:∀p∈C.flatten,p.2=[p.1])(D:∀p∈C.flatten,yI p.1=bz p.1)(hB:∃p∈C.flatten,bz p.1=false)(h:Rel C C.length s r),
 (aT s).lines=sx C r:=by
 revert C s r;exists ce3_,C,s,r;intros;show bF s.lines s.init (af (cV s.cur))=_
 rw[wh u A h];have g:=tE hB h;have f:∀x∈ay C r,x∈C.flatten:=λx o=>nS o;have v:mng (ay C r)=sgn (ay C r):=vi λp hp=>B p (f p hp);have d:(r.lead++sgn (ay C r)).all yI=(ay C r).all λp=>bz p.1:=by
  refine List.all_append.trans ?_;have E:r.lead.all yI=true:=by
   rcases h.lead with q|⟨q,_⟩<;>rw[q]<;>decide
  rw[E,Bool.true_and,sgn,List.all_map];have:∀l:List P,(∀p∈l,p∈C.flatten)->l.all (yI∘λx=>x.1)=l.all λp=>bz p.1:=λl y=>by
   induction l with
   | nil=>rfl
   | cons a t F=>
    refine uB.trans ?_;rw[uB,F λp hp=>y p (by simp[hp]),Function.comp,D a (y a (by simp))]
  exact this _ f
 unfold sx;rw[v,h.lines];cases m:(ay C r).all (λp=>bz p.1)with
 | true=>
  have w:=g m;have G:s.init=0:=by
   rw[h.init];rcases jR r.room with q|q
   ·exact q
   ·exact absurd (h.room q) w
  rw[if_pos rfl];unfold bF;rw[G,ym];by_cases n:(r.lead++sgn (ay C r)).length=0
  ·refine(if_pos n).trans ?_;rw[zk.mp n,zo];obtain⟨x,o⟩:∃x,r.rows.getLast?=some x:=by
    cases e:r.rows.getLast? with
    | none=>exact absurd (yH.mp e) w
    | some x=>exact⟨x,rfl⟩
   rw[o];obtain⟨t,H⟩:=yk.mp o;rw[H];simp
  ·refine(if_neg n).trans ?_;rw[fN,d,m];have:r.rows.isEmpty=false:=by cases e:r.rows with|nil=>exact absurd e w|cons _ _=>rfl
   rw[this];rfl
 | false=>
  rw[if_neg (by simp)];unfold bF fN;have n:¬(s.init+(r.lead++sgn (ay C r)).length=0):=λz=>by
   have:(r.lead++sgn (ay C r)).length=0:=yE (fk1 (zS z)) (jG _);rw[zk.mp this]at d;rw[<-d]at m;cases m
  refine(if_neg n).trans ?_;rw[d,m,uH,vM];rfl
end
noncomputable def own(t:List Nat):List P:=t.map λc=>(c,[c])
theorem kB:∀t:List Nat,sgn (own t)=t
 | []=>rfl
 | c::r=>by
  have:=kB r;unfold own sgn at*;rw[zV,zV,this]
theorem kY:∀{t spl:List Nat}{room wd:Nat}(i:∀c∈t,yI c=bz c)(hB:∃c∈t,bz c=false),ee t spl room wd=rowsOf (ag (own t)) spl room wd:=by
 exists ce4_,t,spl,room,wd;intros;have a:=cD (own t);have f:∀p∈(ag (own t)).flatten,p.2=[p.1]:=by
  rw[a];intro p hp;refine el12 (zv.mp hp) λc _ b=>?_;subst b;rfl
 have j:0<(ag (own t)).length:=by
  rcases jR (ag (own t)).length with q|q
  ·rw[zk.mp q]at a;refine el12 hB λc d _=>?_;have:t=[]:=by simpa[own] using a.symm
   rw[this]at d;cases d
  ·exact q
 have g:=kW (C:=ag (own t)) (spl:=spl) (wd:=wd) (room:=room) (fF _) (dD _) f _ (zY _);rw[uw]at g;unfold ee rowsOf;have h:=iY (own t);rw[kB]at h;rw[h];refine AT (dD _) j f ?_ ?_ g
 ·rw[a];intro p hp;refine el12 (zv.mp hp) λc d b=>?_;subst b;exact i c d
 ·rw[a];refine el12 hB λc d e=>?_;exact⟨(c,[c]),zv.mpr ⟨c,d,rfl⟩,e⟩
section
variable {C:List (List P)}{spl:List Nat}{room wd a b i j k c:Nat}{h:Nat->List Nat}{r:RS}
noncomputable def gP(h:Nat->List Nat)(p:P):P:=(p.1,p.2.flatMap h)
noncomputable abbrev gC(h:Nat->List Nat)(C:List (List P)):List (List P):=C.map λc=>c.map (gP h)
theorem lW(h:Nat->List Nat):∀ps:List P,ag (ps.map (gP h))=gC h (ag ps)
 | []=>rfl
 | [p]=>rfl
 | p::q::r=>by
  have d:=lW h (q::r);rw[zV,zV,ag,ag];rw[zV]at d;rw[d];show(if(isW q.1 && !isW p.1)=true then _ else _)=_
  split
  ·rfl
  ·cases ag (q::r)<;>rfl
theorem Bb:(gC h C).flatten=C.flatten.map (gP h):=by rw[List.map_flatten]
theorem goff:off (gC h C) i=off C i:=by
 unfold off;rw[<-uk,<-List.map_flatten,zC]
theorem gseg:seg (gC h C) a b=(seg C a b).map (gP h):=by
 unfold seg;rw[<-uk,<-uP,List.map_flatten]
theorem gsg{l:List P}:sg (l.map (gP h)) i=sg l i:=by
 unfold sg;rw[uj,uj,jt];cases l[i]?<;>rfl
theorem gmng{l:List P}:mng (l.map (gP h))=(mng l).flatMap h:=by
 unfold mng;rw[List.flatMap_map,List.flatMap_assoc];rfl
theorem gbest:ei (gC h C) spl a j=ei C spl a j:=by
 unfold ei;congr 1;funext c
 congr 1;funext k
 unfold hit;rw[Bb,gsg,gsg,goff]
noncomputable def gRS(h:Nat->List Nat)(r:RS):RS:=⟨r.rows.map λl=>l.flatMap h,r.lead,r.first,r.room⟩
noncomputable def lU(r:RS):Prop:=r.lead=[]\/r.lead=[32]
theorem tZ(d:h 32=[32])(e:lU r):r.lead.flatMap h=r.lead:=by
 rcases e with q|q<;>rw[q]<;>simp[d]
theorem gstep:∀(d:h 32=[32])(e:lU r),eu (gC h C) spl wd (gRS h r) j=gRS h (eu C spl wd r j)/\lU (eu C spl wd r j):=by
 revert C spl wd j h r;exists dI,C,spl,wd,j,h,r;intros;unfold eu;simp only[goff,gbest,gseg,gmng,Bb,gsg];show(if r.room+r.lead.length+off C (j+1)<=wd+off C r.first then gRS h r else match ei C spl r.first j with|some k=>_|none=>_)=_/\_
 by_cases f:r.room+r.lead.length+off C (j+1)<=wd+off C r.first
 ·rw[if_pos f,if_pos f];exact⟨rfl,e⟩
 ·rw[if_neg f,if_neg f];cases ei C spl r.first j with
  | some k=>
   refine⟨?_,.inl rfl⟩;simp only[gRS,zx,zV,ux,jF,tZ d e]
  | none=>
   simp only;show(if r.room=0 then _ else _)=_/\_
   by_cases g:r.room=0
   ·rw[if_pos g,if_pos g];exact⟨rfl,e⟩
   ·rw[if_neg g,if_neg g];refine⟨?_,?_⟩
    ·simp only[gRS,zx,zV,ux,jF,tZ d e]
    ·unfold lU;show(if _ then _ else _)=_\/(if _ then _ else _)=_
     split
     ·exact .inl rfl
     ·exact .inr rfl
theorem gst(d:h 32=[32]):∀j,stC (gC h C) spl room wd j=gRS h (stC C spl room wd j)/\lU (stC C spl room wd j)
 | 0=>⟨rfl,.inl rfl⟩
 | j+1=>by
  refine aA (gst d j) λe f=>?_;rw[kN,kN,e];exact gstep d f
theorem EK:ay (gC h C) (gRS h r)=(ay C r).map (gP h):=by
 unfold ay;simp only[Bb,gsg,goff,zC];show(if _/\_ then(List.drop (off C r.first) _).dropLast else List.drop (off C r.first) _)=_
 split
 ·rw[uO,uP]
 ·rw[uP]
theorem gall{l:List P}:((l.map (gP h)).all λp=>bz p.1)=l.all λp=>bz p.1:=by
 rw[List.all_map];rfl
theorem grows:∀(d:h 32=[32]),rowsOf (gC h C) spl room wd=(rowsOf C spl room wd).map λl=>l.flatMap h:=by
 revert C spl room wd h;exists ce5_,C,spl,room,wd,h;intro d;unfold rowsOf;refine aA (gst (C:=C) (spl:=spl) (room:=room) (wd:=wd) d C.length) λf e=>?_;rw[zC,f];unfold sx;rw[EK,gall,gmng];split
 ·show(List.map _ _).dropLast++[(List.map _ _).getLast?.getD []++(_++_)]=_
  rw[<-uO,List.getLast?_map,zx,List.map_singleton,jF,jF,tZ d e];cases(stC C spl room wd C.length).rows.getLast?<;>rfl
 ·show List.map _ _++[_++_]=_
  rw[zx,List.map_singleton,jF,tZ d e];rfl
theorem ni(s:List Nat):∀ls:List (List Nat),(aJ s ls).flatMap h=aJ (s.flatMap h) (ls.map λl=>l.flatMap h)
 | []=>rfl
 | [x]=>rfl
 | x::y::r=>by
  show(x++s++aJ s (y::r)).flatMap h=_++_++_
  refine jF.trans ?_;rw[jF,ni s (y::r)]
noncomputable def cT(c:Nat):List Nat:=if gq c then[]else b3 c
theorem iC:∀l:List Nat,iJ l=l.flatMap cT
 | []=>rfl
 | c::r=>by
  have d:=iC r;unfold iJ at d⊢;rw[zm,List.filter_cons,<-d];unfold cT;cases gq c<;>rfl
end
noncomputable def iT(k:Nat):List (Int×Str)->Option Str
 | []=>none
 | x::r=>bif Nat.blt k x.1.toNat then none else bif Nat.beq k x.1.toNat then some x.2 else iT k r
noncomputable def wF:Nat->List (Int×Str)->Bool
 | _,[]=>true
 | k,x::r=>Nat.blt k x.1.toNat&&decide (0<=x.1)&&wF x.1.toNat r
theorem nu{k:Nat}:∀{l:List (Int×Str)}{k0:Nat},wF k0 l=true->k<=k0->l.lookup (k:Int)=none
 | [],_,_,_=>rfl
 | x::r,k0,h,hk=>by
  rw[wF,za,za]at h;obtain⟨⟨a,c⟩,b⟩:=h;have a:k0<x.1.toNat:=Nat.ble_eq.mp a;rw[zZ,beq_false_of_ne (by omega)];exact nu b (zg (zu hk a))
theorem tQ{k:Nat}:∀{l:List (Int×Str)}{k0:Nat},wF k0 l=true->l.lookup (k:Int)=iT k l
 | [],_,_=>rfl
 | x::r,k0,h=>by
  rw[wF,za,za]at h;obtain⟨⟨e,a⟩,b⟩:=h;have a:=of_decide_eq_true a;rw[zZ,iT];cases d:Nat.blt k x.1.toNat with
  | true=>
   have:k<x.1.toNat:=Nat.ble_eq.mp d;rw[beq_false_of_ne (by omega)];exact nu b (zg this)
  | false=>
   cases c:Nat.beq k x.1.toNat with
   | true=>
    have:=Nat.eq_of_beq_eq_true c;rw[show((k:Int)==x.1)=true from beq_iff_eq.mpr (by omega)];rfl
   | false=>
    have:=Nat.ne_of_beq_eq_false c;rw[beq_false_of_ne (by omega)];exact tQ b
theorem Cq:wF 0 b3Tab=true:=by decide +kernel
noncomputable def b3F(c:Nat):List Nat:=match iT c b3Tab with
 | some s=>s.cps.toList
 | none=>jM c
theorem tT(c:Nat):b3 c=b3F c:=by
 unfold b3 b3F;rw[tQ Cq]
 all_goals (cases iT c b3Tab<;>rfl)
noncomputable def hF(c:Nat):List Nat:=if gq c then[]else b3F c
theorem sI(c:Nat):cT c=hF c:=by
 unfold cT hF;rw[tT]
noncomputable def cR(p:P):Bool:=hF p.1==p.2&&(yI p.1==bz p.1)&&decide ((b3F p.1).length<=100)&&p.2.all (λc=>yI c==bz c)&&decide (p.2.length<=3)
theorem k0:∀x<4,(([[32],[9],[32,32],[160]]:List (List Nat)).getD x []).all (λc=>cR (c,[c]))=true:=by decide +kernel
theorem k1:∀x<26,cR (97+x,[97+x])=true:=by decide +kernel
theorem k2:∀x<3,∀y<17,cR (([65,913,1040]:List Nat).getD x 0+y,[([65,913,1040]:List Nat).getD x 0+y+32])=true:=by decide +kernel
theorem k3:∀x<10,∀y<26,cR (([119808,119860,119912,120016,120172,120224,120276,120328,120380,120432]:List Nat).getD x 0+y,[97+y])=true:=by decide +kernel
theorem k4:∀x<8,cR (([64259,890,223,13255,64262,8481,8119,8360]:List Nat).getD x 0,([[102,102,105],[32,953],[115,115],[99,111,46],[115,116],[116,101,108],[945,834,953],[114,115]]:List (List Nat)).getD x [])=true:=by decide +kernel
theorem k5:∀x<27,cR (if x<11 then([173,847,6150,6155,6156,6157,8203,8204,8205,8288,65279]:List Nat).getD x 0 else 65013+x,[])=true:=by decide +kernel
theorem k6:∀x<3,cR (([59,44,46]:List Nat).getD x 0,[([59,44,46]:List Nat).getD x 0])=true:=by decide +kernel
theorem k7:∀x<26,cR (65+x,[97+x])=true:=by decide +kernel
theorem k10:cT 10=[10]:=by rw[sI];decide +kernel
theorem k32:cT 32=[32]:=by rw[sI];decide +kernel
theorem kg32:cR (32,[32])=true:=by decide +kernel
theorem kP{x:P}(h:cR x=true):∀p∈[x],cR p=true:=λp hp=>zG.mp hp▸h
theorem wg(n:Nat):∀p∈ch n,cR p=true:=
 lt8 (P:=λq=>∀p∈lD (n/8) q,cR p=true) (zt n (by decide)) (λp hp=>(zv.mp hp).elim λc h=>h.2▸yD.mp (k0 _ (zt _ (by decide))) c h.1)
  (kP (k1 _ (zt _ (by decide)))) (kP (k2 _ (zt _ (by decide)) _ (zt _ (by decide)))) (kP (k3 _ (zt _ (by decide)) _ (zt _ (by decide)))) (kP (k4 _ (zt _ (by decide))))
  (kP (k5 _ (zt _ (by decide)))) (kP (k6 _ (zt _ (by decide)))) (λp hp=>(zM.mp hp).elim (λe=>e▸kg32) (kP (k7 _ (zt _ (by decide))) p))
section
variable {F:Fs}{st s1 s2 s3 s4:St}{u v w:V}{n k p:Nat}{hp hp':List O}
theorem lZ{b:Type}{g:List O->Bool}{f:V->List V->List O->Option (List V×List O)}{step:b->List V}{h:b->V}(A:List O->Prop)(c:∀hp,A hp->g hp=true):∀(l:List b)(acc:List V)(hp:List O),A hp->acc.length+(l.flatMap step).length<=lid->
 (∀a∈l,∀(acc:List V)(hp:List O),A hp->acc.length+(step a).length<=lid->∃hp',f (h a) acc hp=some (acc++step a,hp')/\A hp')->∃hp',dj g f (l.map h) acc hp=some (acc++l.flatMap step,hp')/\A hp'
 | [],acc,hp,hA,_,_=>⟨hp,(gh (c _ hA)).trans (by rw[List.flatMap_nil,zo]),hA⟩
 | v::r,acc,hp,hA,hl,hf=>by
  rw[zm,zF]at hl;refine el12 (hf v (zj ..) acc hp hA (fk1 hl)) λd i j=>?_;refine el12 (lZ A c r (acc++step v) d j (by rw[zF];exact fk1 hl) (λv m=>hf v (zy _ m))) λe o q=>?_;refine⟨e,?_,q⟩;exact(g4 (c _ hA) i).trans (o.trans (by rw[zm,yG]))
noncomputable def cr(l:List (Int×Nat)):List Nat:=(l.take 10).map λq=>(q.1%1000000).toNat
theorem pq(l:List (Int×Nat)):∀x∈cr l,x<1000000:=by
 intro x a;obtain⟨q,_,rfl⟩:=zv.mp a;lia
theorem nh(l:List (Int×Nat)):(cr l).length<=10:=by
 unfold cr;rw[zC,yP];exact Nat.min_le_left ..
theorem Dk{l:List (Int×Nat)}{N:Nat}(c:st.loc.lookup (nm "script")=some (.ref p))(hp:st.hp[p]?=some (.frozen l N))(b:l.length<=1000):
 ev F (.comp (.bin .mod (.var (nm "x")) (.int 1000000)) (nm "x") (.slice (.var (nm "script")) (.none) (.int 10))) st=
  some (.ref (st.hp.length+1),⟨st.loc,st.hp++[.list ((l.take 10).map λq=>.int q.1)]++[.list ((cr l).map iV)]⟩):=by
 have a:ev F (.slice (.var (nm "script")) (.none) (.int 10)) st=some (.ref st.hp.length,⟨st.loc,st.hp++[.list ((l.take 10).map λq=>.int q.1)]⟩):=by
  refine dX (e_var c) bT ao ?_;have c2:cut (l.map λp=>V.int p.1).length 10=min 10 l.length:=by unfold cut;rw[if_neg (by exact ua.mpr (zX _)),zC];rfl
  refine bS rfl (altR (nLF hp) (altR (nAF hp) (bS (oF hp) ((if_pos (by rw[zC];exact zB b (by decide))).trans (bS rfl (bS (congrArg some c2) ?_))))));rw[hG (zB kT (by rw[zC];exact zB b (by decide))),part,List.drop_zero,Nat.sub_zero,<-uk,show l.take (min 10 l.length)=l.take 10 from by rw[List.take_eq_take_iff];exact yE (Nat.min_le_left ..) (by simp +arith)]
 refine(oG (h:=λq:Int×Nat=>V.int q.1) (g:=λq:Int×Nat=>iV (q.1%1000000).toNat) a bQ (zB (List.length_take_le ..) (by decide)) λq d=>?_).trans ?_
 ·refine aM (e_var aa) ao ((EE (by decide) (by decide)).trans ?_);unfold iV;rw[show(((q.1%1000000).toNat:Nat):Int)=q.1%1000000 by lia]
 ·simp only[cr,List.map_map,zF,yV];rfl
open Classical in
theorem DG:∀{q:Nat}{b:List Nat}(t:st.loc.lookup (nm "numbers")=some (.ref q))(i:st.hp[q]?=some (.list (b.map iV)))(z:∀x∈b,x<=1000000)(j:(b.flatMap ch).length<=1000),
 ∃k hp',ev (run tabNow (n+1)) (.comp2 (.var (nm "pair")) (nm "number") (.var (nm "numbers")) (nm "pair") (.call 2 [.var (nm "number")])) st=some (.ref k,⟨st.loc,hp'⟩)/\hp'[k]?=some (.list ((b.flatMap ch).map pv))/\Ext st.hp hp':=by
 revert st n;exists ce4_,st,n,q,b;intros;have c:∀l:List Nat,(l.flatMap λx=>(ch x).map pv)=(l.flatMap ch).map pv:=λl=>by
  induction l with
  | nil=>rfl
  | cons a r A=>rw[zm,zm,zx,A]
 obtain⟨d,m,B⟩:=lZ (g:=λhp=>decide (hp[q]?=some (.list (b.map iV)))) (f:=λv acc hp=>(ev (run tabNow (n+1)) (.call 2 [.var (nm "number")]) ⟨[(nm "number",v)],hp⟩).bind λp=>
  dv (λu acc hp=>(ev (run tabNow (n+1)) (.var (nm "pair")) ⟨[(nm "pair",u),(nm "number",v)],hp⟩).bind λq=>push acc q.1 q.2.hp) p.1 acc p.2.hp)
  (step:=λx=>(ch x).map pv) (h:=iV) (λhp=>Ext st.hp hp) (λhp h=>decide_eq_true (h.get i)) b [] st.hp Ext.refl (by rw[c,zC,yt];unfold lid;exact fk1 j) (λx C acc hp D o=>by
   have E:ev (run tabNow (n+1)) (.call 2 [.var (nm "number")]) ⟨[(nm "number",iV x)],hp⟩=some (.ref hp.length,⟨[(nm "number",iV x)],hp++[.list ((ch x).map pv)]⟩):=by
    exact fK (gp (e_var aa)) (run2 (z x C))
   refine⟨hp++[.list ((ch x).map pv)],bS E ((eH bQ).trans ?_),D.app _⟩;rw[zC]at o;exact fW (@decide_eq_true _ (_) bQ) (ch x) acc o λy G s e=>bS (e_var aa) (if_pos e))
 rw[c]at m;exact⟨d.length,d++[.list ((b.flatMap ch).map pv)],tz (e_var t) ((eH i).trans m) (by rw[jN,zC];exact zB j (by decide)),bQ,B.app _⟩
theorem Dn{q:Nat}{l:List P}(h:st.loc.lookup (nm "pairs")=some (.ref q))(e:st.hp[q]?=some (.list (l.map pv)))(c:l.length<=1000):
 ev F (.meth (.str (⟨#[]⟩:Str)) (nm "join") [.comp (.item (.var (nm "pair")) (.int 0)) (nm "pair") (.var (nm "pairs"))]) st=some (.str (toS (sgn l)),⟨st.loc,st.hp++[.list ((l.map λx=>[x.1]).map λl=>.str (toS l))]⟩):=by
 have f:ev F (.comp (.item (.var (nm "pair")) (.int 0)) (nm "pair") (.var (nm "pairs"))) st=some (.ref st.hp.length,⟨st.loc,st.hp++[.list ((l.map λx=>[x.1]).map λl=>.str (toS l))]⟩):=by
  rw[List.map_map];exact oG (e_var h) e (zB c (by decide)) λx _=>bh (e_var aa) ao qD
 have d:=lL (F:=F) (s:=[]) (ls:=l.map λx=>[x.1]) (k:=st.hp.length) (st:=⟨st.loc,st.hp++[.list ((l.map λx=>[x.1]).map λl=>.str (toS l))]⟩) bQ (by simp) (by simpa using c) (λa g=>by
  refine el12 (zv.mp g) λx j b=>?_;subst b;simp)
 have i:(l.map λx=>[x.1]).flatten=sgn l:=by
  rw[<-List.flatMap_def,gT];rfl
 rw[gj,i]at d;exact bU bL f mo_join mo_join d
theorem Cm{q:Nat}{l:List P}(h:st.loc.lookup (nm "pairs")=some (.ref q))(g:st.hp[q]?=some (.list (l.map pv)))(j:(mng l).length<=1000):
 ev F (.comp2 (.tup [.var (nm "sign"),.var (nm "sign")]) (nm "pair") (.var (nm "pairs")) (nm "sign") (.item (.var (nm "pair")) (.int 1))) st=some (.ref st.hp.length,⟨st.loc,st.hp++[.list ((own (mng l)).map pv)]⟩):=by
 have m:∀l:List P,(l.flatMap λx:P=>(own x.2).map pv)=(own (mng l)).map pv:=λl=>by
  induction l with
  | nil=>rfl
  | cons a r o=>
   refine zm.trans ?_;rw[o];simp[own,mng]
 have d:((own (mng l)).map pv).length<=lid:=by
  rw[zC,own,zC];exact zB j (by decide)
 rw[<-m]at d⊢;refine tz (e_var h) ((eH g).trans (en (step:=λx:P=>(own x.2).map pv) (h:=pv) (@decide_eq_true _ (_) g) l [] (zB (zS (ym _)) d) λx t acc e=>bS (bh (e_var aa) ao tB) (iI.trans ?_))) d;have s:(own x.2).map pv=x.2.map λc=>pv (c,[c]):=by rw[own,List.map_map];rfl
 rw[s]at e⊢;rw[zC]at e;exact fW rfl x.2 acc e λc y i f=>bS (co (a:=[c]) (b:=[c]) (e_var aa) (e_var aa)) (if_pos f)
end
theorem pE{q:Str->Bool}{k:Nat}{v:Str}:∀{l:List (Int×Str)},l.all (λx=>q x.2)=true->iT k l=some v->q v=true
 | [],_,h=>by exact no h
 | x::r,ha,h=>by
  rw[uB,za]at ha;rw[iT]at h;cases a:Nat.blt k x.1.toNat with
  | true=>rw[a]at h;exact no h
  | false=>
   cases b:Nat.beq k x.1.toNat with
   | true=>
    rw[a,b]at h;have h:some x.2=some v:=h;injection h with h
    rw[<-h];exact ha.1
   | false=>
    rw[a,b]at h;exact pE ha.2 h
theorem Ao:b3Tab.all (λx=>decide (x.2.cps.toList.length<=4))=true:=by decide +kernel
theorem mN:UnicodeData.severalLower.all (λx=>decide (x.2.length<=4))=true:=by decide +kernel
set_option tactic.hygienic true in
theorem xC(c:Nat):(jM c).length<=4:=by
 unfold jM Unicode.image;split
 ·rename_i cs h;have:∀l:List (Nat×List Nat),l.all (λx=>decide (x.2.length<=4))=true->l.lookup c=some cs->cs.length<=4:=λl=>by
   induction l with
   | nil=>intro _ h;exact no h
   | cons x r ih=>
    intro ha h;rw[uB,za]at ha;rw[zZ]at h;split at h
    ·injection h with h
     rw[<-h];exact of_decide_eq_true ha.1
    ·exact ih ha.2 h
  exact this _ mN h
 ·simp
theorem up(c:Nat):(b3 c).length<=4:=by
 rw[tT];unfold b3F;cases h:iT c b3Tab with
 | some s=>exact of_decide_eq_true (pE (q:=λs=>decide (s.cps.toList.length<=4)) Ao h)
 | none=>exact xC c
theorem vz(c:Nat):(cT c).length<=4:=by
 unfold cT;split
 ·simp
 ·exact up c
theorem kind_len(n:Nat):(ch n).length<=2:=
 lt8 (P:=λq=>(lD (n/8) q).length<=2) (zt n (by decide)) (zB (zS (zC _)) ((by decide:∀k,k<4->([[32],[9],[32,32],[160]].getD k []).length<=2) _ (zt _ (by decide))))
  (yq 1) (yq 1) (yq 1) (yq 1) (yq 1) (yq 1) (zY 2)
structure gF (ps:List P):Prop where
 good:∀p∈ps,cR p=true
 len:ps.length<=40
 ink:(64259,[102,102,105])∈ps
theorem Eb{a:List Nat}(h:a.length<=20)(b:4∈a):gF (a.flatMap ch):=by
 refine⟨λp hp=>?_,?_,?_⟩
 ·refine el12 (ya.mp hp) λn _ hp=>?_;exact wg n p hp
 ·have:=cX (f:=ch) (B:=2) a λn _=>kind_len n;exact fk3 h h this
 ·exact ya.mpr ⟨4,b,by decide⟩
section
variable {ps:List P}
theorem cZ:∀{p:P}(h:cR p=true),cT p.1=p.2/\yI p.1=bz p.1/\(∀c∈p.2,yI c=bz c)/\p.2.length<=3:=by
 exists ce1_,p;intro h;unfold cR at h;simp only[za,beq_iff_eq,decide_eq_true_eq,yD]at h;obtain⟨⟨⟨⟨a,b⟩,f⟩,d⟩,e⟩:=h;exact⟨by rw[sI];exact a,b,d,e⟩
theorem Ay(h:gF ps):(own (sgn ps)).map (gP cT)=ps:=by
 have:∀l:List P,(∀p∈l,cR p=true)->(own (sgn l)).map (gP cT)=l:=λl c=>by
  induction l with
  | nil=>rfl
  | cons a r b=>
   have b:=b λp hp=>c p (by simp[hp]);have d:=(cZ (c a (by simp))).1;unfold own sgn at b⊢;refine zV.trans ?_;refine zV.trans ?_;refine zV.trans ?_;rw[b];congr 1;show(a.1,[a.1].flatMap cT)=a
   rw[zm,List.flatMap_nil,zo,d]
 exact this ps h.good
theorem n5(h:gF ps):iJ (sgn ps)=mng ps:=by
 rw[iC];have:∀l:List P,(∀p∈l,cR p=true)->(sgn l).flatMap cT=mng l:=λl c=>by
  induction l with
  | nil=>rfl
  | cons a r b=>
   have b:=b λp hp=>c p (by simp[hp]);have d:=(cZ (c a (by simp))).1;unfold sgn mng at b⊢;rw[zV,zm,zm,b,d]
 exact this ps h.good
theorem ps_sp(h:gF ps):∀c∈sgn ps,yI c=bz c:=by
 intro c a;obtain⟨p,hp,rfl⟩:=zv.mp a;exact(cZ (h.good p hp)).2.1
theorem AN(h:gF ps):∀c∈mng ps,yI c=bz c:=by
 intro c a;obtain⟨p,hp,a⟩:=ya.mp a;exact(cZ (h.good p hp)).2.2.1 c a
theorem Cd(h:gF ps):∃c∈sgn ps,bz c=false:=⟨64259,zv.mpr ⟨_,h.ink,rfl⟩,by decide⟩
theorem ko(h:gF ps):∃c∈mng ps,bz c=false:=⟨102,ya.mpr ⟨_,h.ink,by simp⟩,by decide⟩
theorem oE(h:gF ps):(mng ps).length<=120:=by
 have:=cX (f:=λp:P=>p.2) (B:=3) ps λp hp=>(cZ (h.good p hp)).2.2.2;have:=h.len;unfold mng;exact fk4 ‹(List.flatMap (λp=>p.snd) ps).length<=3*ps.length› this this this
theorem nX(l:List P):(ag l).length<=l.length:=by
 have b:∀C:List (List P),(∀c∈C,c≠[])->C.length<=C.flatten.length:=λC h=>by
  induction C with
  | nil=>simp
  | cons a r d=>
   have:=jE.mpr (h a (by simp));have:=d λc e=>h c (by simp[e]);rw[yd,zF,zL];exact fk2 ‹0<a.length› this
 have:=b _ (dD l);rwa[cD]at this
theorem ig(t:List Nat):eT (bq t)<=4*t.length:=by
 have a:=iY (own t);rw[kB]at a;have b:=nX (own t);rw[pO,a,ln,cD,kB,zC];have:(own t).length=t.length:=by simp[own]
 lia
section
variable {t spl:List Nat}{room wd:Nat}
theorem nJ(t spl:List Nat)(room wd:Nat):(ee t spl room wd).flatten.length+(ee t spl room wd).length<=4*t.length+1:=by
 have a:=dB ((bq t).foldl (aP spl wd) ⟨[],[],room⟩);have b:=iK spl wd (bq t) ⟨[],[],room⟩;have c:(⟨[],[],room⟩:FS).size=0:=by simp[FS.size,af]
 have d:(ee t spl room wd).flatten.length+(ee t spl room wd).length<=(aT ((bq t).foldl (aP spl wd) ⟨[],[],room⟩)).size:=by
  unfold FS.size ee;simp +arith
 have:=ig t;lia
theorem xW(hB:∃c∈t,bz c=false):(ay (ag (own t)) (stC (ag (own t)) spl room wd (ag (own t)).length)).all (λp=>bz p.1)=true->(stC (ag (own t)) spl room wd (ag (own t)).length).rows≠[]:=by
 have a:=cD (own t);have e:∀p∈(ag (own t)).flatten,p.2=[p.1]:=by
  rw[a];intro p hp;refine el12 (zv.mp hp) λc _ b=>?_;subst b;rfl
 have f:=kW (C:=ag (own t)) (spl:=spl) (wd:=wd) (room:=room) (fF _) (dD _) e _ (zY _);refine tE ?_ f;rw[a];refine el12 hB λc g d=>?_;exact⟨(c,[c]),zv.mpr ⟨c,g,rfl⟩,d⟩
theorem ps_hw(h:gF ps):(ay (ag ps) (stC (ag ps) spl room wd (ag ps).length)).all (λp=>bz p.1)=true->(stC (ag ps) spl room wd (ag ps).length).rows≠[]:=by
 have e:ag ps=gC cT (ag (own (sgn ps))):=by rw[<-lW,Ay h]
 rw[e,zC,(gst (h:=cT) k32 _).1,EK,gall];intro a;have:=xW (spl:=spl) (room:=room) (wd:=wd) (Cd h) a;intro z;exact this (List.map_eq_nil_iff.mp z)
theorem tl(h:gF ps):rowsOf (ag ps) spl room wd=(ee (sgn ps) spl room wd).map λl=>l.flatMap cT:=by
 have e:ag ps=gC cT (ag (own (sgn ps))):=by rw[<-lW,Ay h]
 rw[e,grows k32,kY (ps_sp h) (Cd h)]
theorem rP(h:gF ps):iJ (aJ [10] (ee (sgn ps) spl room wd))=aJ [10] (rowsOf (ag ps) spl room wd):=by
 rw[iC,ni,tl h,zm,k10];rfl
theorem xF(h:gF ps):aJ [10] (ee (iJ (sgn ps)) spl room wd)=aJ [10] (rowsOf (ag (own (mng ps))) spl room wd):=by
 rw[n5 h,kY (AN h) (ko h)]
theorem vj{ls:List (List Nat)}{x:List Nat}(h:x∈ls):x.length<=ls.flatten.length:=(List.sublist_flatten_of_mem h).length_le
theorem vy(h:gF ps):(rowsOf (ag ps) spl room wd).length<=1000/\∀x∈rowsOf (ag ps) spl room wd,x.length<=900:=by
 have e:=nJ (sgn ps) spl room wd;have g:(sgn ps).length<=40:=by rw[sgn,zC];exact h.len
 rw[tl h];refine⟨by rw[zC];lia,λx b=>?_⟩;refine el12 (zv.mp b) λy d a=>?_;subst a;have i:=vj d;have j:=cX (f:=cT) (B:=4) y λc _=>vz c;lia
theorem rp(h:gF ps):(rowsOf (ag (own (mng ps))) spl room wd).length<=1000/\∀x∈rowsOf (ag (own (mng ps))) spl room wd,x.length<=900:=by
 have b:=nJ (mng ps) spl room wd;have c:=oE h;rw[<-kY (AN h) (ko h)];refine⟨by lia,λx a=>?_⟩;have d:=vj a;lia
end
end
noncomputable def dW:List Nat:=[2,4,6,53,7,12,8,33]
noncomputable def numsOf(a:List Nat):List Nat:=a.take (a.length/2)++dW++a.drop (a.length/2)
noncomputable def Bg(T:Nat):Nat:=([0,2,4]:List Nat).getD (T/11%3) 0
noncomputable def splN(T:Nat):List Nat:=([[32],[46,59,32],[],[59,44,32,9],[9],[44,46]]:List (List Nat)).getD (T/33%6) []
theorem sZ:∀l:List Nat,nq (l.map iV)=some (l.map λn:Nat=>(n:Int))
 | []=>rfl
 | a::r=>mX (sZ r)
theorem qU:∀l:List Nat,(l.map λn:Nat=>(n:Int)).sum=((l.sum:Nat):Int)
 | []=>rfl
 | a::r=>by rw[zV,ji,ji,qU r];lia
theorem tn(h:∀x∈tk,x<1000000):∀x∈numsOf tk,x<=1000000:=by
 intro x a;rcases zb.mp a with a|a
 ·rcases zb.mp a with a|a
  ·exact zg (h x (ut a))
  ·have:∀x∈dW,x<=1000000:=by decide
   exact this x a
 ·exact zg (h x (uN a))
theorem qL(h:tk.length<=10):(numsOf tk).length<=20:=by
 unfold numsOf;simp only[zF,yP,yC,show dW.length=8 from rfl];exact fk3 h (Nat.min_le_left (tk.length/2) tk.length) (@sb tk.length (tk.length/2) (fk1 (Nat.div_le_self tk.length 2)))
theorem xz(a:List Nat):4∈numsOf a:=zb.mpr (.inl (zb.mpr (.inr (by decide))))
theorem eC{l:List Nat}(h:∀x∈l,x<=1000000):l.sum<=1000000*l.length:=by
 induction l with
 | nil=>simp
 | cons a r b=>
  have:=h a (by simp);have:=b λx c=>h x (by simp[c]);rw[ji,zL];exact fk2 ‹a<=1000000› this
section
variable {F:Fs}{st s1 s2 s3 s4:St}{u v w:V}{n k p q:Nat}{hp hp':List O}
theorem v_sum{l:List Nat}(b:st.hp[q]?=some (.list (l.map iV)))(c:l.length<=100)(h:∀x∈l,x<=1000000):iE F (nm "sum") [.ref q] st=some (.int ((l.sum:Nat):Int),st):=by
 refine bS rfl ((if_neg (by decide)).trans ((if_neg (by decide)).trans ((if_neg (by decide)).trans ((if_pos rfl).trans (bS (fV b) (bS (sZ l) ((if_pos ?_).trans (by rw[qU]))))))));rw[zC,za,yD,decide_eq_true_eq];refine⟨λx d=>?_,c⟩;refine el12 (zv.mp d) λy e a=>?_;subst a;have:=h y e;exact bf (zX _) (uZ.mpr (zB this (zH ..)))
theorem DF:ev F (.lst [.int 2,.int 4,.int 6,.int 53,.int 7,.int 12,.int 8,.int 33]) st=some (.ref st.hp.length,⟨st.loc,st.hp++[.list (dW.map iV)]⟩):=by
 exact sT rfl (by decide)
theorem FH:∀{a:List Nat}(h:st.loc.lookup (nm "taken")=some (.ref q))(i:st.loc.lookup (nm "half")=some (.int ((a.length/2:Nat):Int)))(j:st.hp[q]?=some (.list (a.map iV)))(e:a.length<=10),
 ∃k hp',ev F (.bin .add (.bin .add (.slice (.var (nm "taken")) (.none) (.var (nm "half"))) (.lst [.int 2,.int 4,.int 6,.int 53,.int 7,.int 12,.int 8,.int 33])) (.slice (.var (nm "taken")) (.var (nm "half")) (.none))) st=some (.ref k,⟨st.loc,hp'⟩)/\hp'[k]?=some (.list ((numsOf a).map iV))/\Ext st.hp hp':=by
 revert F st q;exists ce4_,F,st,q,a;intros;have c:(a.map iV).length<=1000000:=by rw[zC];exact zB e (zH ..)
 have l:ev F (.slice (.var (nm "taken")) (.none) (.var (nm "half"))) st=some (.ref st.hp.length,⟨st.loc,st.hp++[.list ((a.take (a.length/2)).map iV)]⟩):=by
  rw[uk];exact dX (e_var h) bT (e_var i) (Cr rfl j c)
 have m:Ext st.hp (st.hp++[O.list ((a.take (a.length/2)).map iV)]):=Ext.refl.app _;have q1:(st.hp++[O.list ((a.take (a.length/2)).map iV)])[st.hp.length]?=_:=bQ;generalize st.hp++[O.list ((a.take (a.length/2)).map iV)]=b at l m q1;have r:=DF (F:=F) (st:=⟨st.loc,b⟩);have b3:=aM (op:=.add) l r (ir (old _ q1) bQ (by rw[zC,zC,yP,show dW.length=8 from rfl];exact fk2 e (jT (a.length/2) a.length)));rw[<-zx]at b3;have f:(b++[O.list (dW.map iV)]++[O.list ((a.take (a.length/2)++dW).map iV)])[(b++[O.list (dW.map iV)]).length]?=_:=bQ;have g:Ext st.hp (b++[O.list (dW.map iV)]++[O.list ((a.take (a.length/2)++dW).map iV)]):=(m.app _).app _;simp only at b3;generalize (b++[O.list (dW.map iV)]).length=k2 at b3 f;generalize b++[O.list (dW.map iV)]++[O.list ((a.take (a.length/2)++dW).map iV)]=d at b3 g f;have s:ev F (.slice (.var (nm "taken")) (.var (nm "half")) (.none)) ⟨st.loc,d⟩=some (.ref d.length,⟨st.loc,d++[.list ((a.drop (a.length/2)).map iV)]⟩):=by
  rw[uP];exact dX (e_var h) (e_var i) bT (vk rfl (g.get j) (by rw[zC];exact fk1 (Nat.div_le_self a.length 2)) c)
 have o:=aM (op:=.add) b3 s (ir (old _ f) bQ (by simp only[zC,zF,yP,yC,show dW.length=8 from rfl];exact fk4 e e (jT (a.length/2) a.length) (yj a.length (a.length/2))));rw[<-zx]at o;exact⟨_,_,o,bQ,(g.app _).app _⟩
noncomputable def Law1:List S:=[.asg (nm "taken") (.comp (.bin .mod (.var (nm "x")) (.int 1000000)) (nm "x") (.slice (.var (nm "script")) (.none) (.int 10))),.asg (nm "half") (.bin .fdiv (.blt (nm "len") [.var (nm "taken")]) (.int 2)),.asg (nm "numbers") (.bin .add (.bin .add (.slice (.var (nm "taken")) (.none) (.var (nm "half"))) (.lst [.int 2,.int 4,.int 6,.int 53,.int 7,.int 12,.int 8,.int 33])) (.slice (.var (nm "taken")) (.var (nm "half")) (.none))),.asg (nm "total") (.blt (nm "sum") [.var (nm "numbers")]),.asg (nm "width") (.bin .mod (.var (nm "total")) (.int 11)),.asg (nm "room") (.item (.tup [.int 0,.int 2,.int 4]) (.bin .mod (.bin .fdiv (.var (nm "total")) (.int 11)) (.int 3))),.asg (nm "splitters") (.item (.tup [.str (⟨#[32]⟩:Str),.str (⟨#[46,59,32]⟩:Str),.str (⟨#[]⟩:Str),.str (⟨#[59,44,32,9]⟩:Str),.str (⟨#[9]⟩:Str),.str (⟨#[44,46]⟩:Str)]) (.bin .mod (.bin .fdiv (.var (nm "total")) (.int 33)) (.int 6)))]
theorem CL:∀{l:List (Int×Nat)}{N:Nat}{r:List S}(hp0:hp[p]?=some (.frozen l N))(D:l.length<=1000),
 ∃s1 q,exs F (Law1++r) ⟨[(nm "script",.ref p)],hp⟩=exs F r s1/\s1.loc.lookup (nm "numbers")=some (.ref q)/\s1.hp[q]?=some (.list ((numsOf (cr l)).map iV))/\
  s1.loc.lookup (nm "width")=some (.int (((numsOf (cr l)).sum%11:Nat):Int))/\s1.loc.lookup (nm "room")=some (.int ((Bg (numsOf (cr l)).sum:Nat):Int))/\s1.loc.lookup (nm "splitters")=some (.str (toS (splN (numsOf (cr l)).sum)))/\Ext hp s1.hp:=by
 revert F p hp;exists dI,F,p,hp,l,N,r;intros;unfold Law1;simp only[je,jN];rw[aD (Dk (st:=⟨[(nm "script",.ref p)],hp⟩) aa hp0 D)];have b:=nh l;have B:=pq l;generalize E:cr l=d at b B⊢;have C:Ext hp (hp++[O.list ((l.take 10).map λq=>.int q.1)]++[O.list (d.map iV)]):=(Ext.refl.app _).app _;have f:(hp++[O.list ((l.take 10).map λq=>.int q.1)]++[O.list (d.map iV)])[hp.length+1]?=some (.list (d.map iV)):=by
  have:=bQ (hp:=hp++[O.list ((l.take 10).map λq=>.int q.1)]) (o:=O.list (d.map iV));rwa[zF,yV]at this
 simp only;generalize hp++[O.list ((l.take 10).map λq=>.int q.1)]++[O.list (d.map iV)]=g at C f⊢;have G:ev F (.bin .fdiv (.blt (nm "len") [.var (nm "taken")]) (.int 2)) ⟨(nm "taken",.ref (hp.length+1))::[(nm "script",.ref p)],g⟩=some (.int ((d.length/2:Nat):Int),⟨(nm "taken",.ref (hp.length+1))::[(nm "script",.ref p)],g⟩):=by
  refine aM (bR (e_var aa) (ms f (by rw[zC];exact zB b (zH ..)))) ao ?_;rw[zC];exact nv rfl (zB b (zH ..)) (by decide) (by decide)
 rw[aD G];refine bY (FH (F:=F) (st:=⟨(nm "half",.int ((d.length/2:Nat):Int))::(nm "taken",.ref (hp.length+1))::[(nm "script",.ref p)],g⟩) (ab (by decide) aa) aa f b) λx a H h y=>?_;rw[aD H];simp only;have y:=C.trans y;have i:=qL b;have e:=tn B;have m:=eC e;generalize z:(numsOf d).sum=T at m⊢;have t:T<=1000000000:=by
  have:1000000*(numsOf d).length<=1000000*20:=vC _ i;lia
 have I:ev F (.blt (nm "sum") [.var (nm "numbers")]) ⟨(nm "numbers",.ref x)::(nm "half",.int ((d.length/2:Nat):Int))::(nm "taken",.ref (hp.length+1))::[(nm "script",.ref p)],a⟩=some (.int (T:Int),⟨(nm "numbers",.ref x)::(nm "half",.int ((d.length/2:Nat):Int))::(nm "taken",.ref (hp.length+1))::[(nm "script",.ref p)],a⟩):=by
  rw[<-z];exact bR (e_var aa) (v_sum h (zB i (zH ..)) e)
 rw[aD I];simp only;rw[aD (aM (e_var aa) ao (gx (j:=11) (J:=11) rfl (by decide) (by decide)))];simp only;have K:∀L:List (Str×V),L.lookup (nm "total")=some (.int (T:Int))->ev F (.item (.tup [.int 0,.int 2,.int 4]) (.bin .mod (.bin .fdiv (.var (nm "total")) (.int 11)) (.int 3))) ⟨L,a⟩=some (.int ((Bg T:Nat):Int),⟨L,a⟩):=λL A=>by
  exact dP (l:=[0,2,4]) (λc:Nat=>.int (c:Int)) 0 rfl (aM (aM (e_var A) ao (nv (j:=11) rfl (zB t (by decide)) (by decide) (by decide))) ao (gx (j:=3) rfl (by decide) (by decide))) (zt _ (by decide)) (by decide) rfl
 have M:∀L:List (Str×V),L.lookup (nm "total")=some (.int (T:Int))->ev F (.item (.tup [.str (⟨#[32]⟩:Str),.str (⟨#[46,59,32]⟩:Str),.str (⟨#[]⟩:Str),.str (⟨#[59,44,32,9]⟩:Str),.str (⟨#[9]⟩:Str),.str (⟨#[44,46]⟩:Str)]) (.bin .mod (.bin .fdiv (.var (nm "total")) (.int 33)) (.int 6))) ⟨L,a⟩=some (.str (toS (splN T)),⟨L,a⟩):=λL A=>by
  exact dP (l:=[[32],[46,59,32],[],[59,44,32,9],[9],[44,46]]) (λs:List Nat=>.str (toS s)) [] rfl (aM (aM (e_var A) ao (nv (j:=33) rfl (zB t (by decide)) (by decide) (by decide))) ao (gx (j:=6) rfl (by decide) (by decide))) (zt _ (by decide)) (by decide) rfl
 rw[aD (K _ (ab (by decide) aa))];simp only;rw[aD (M _ (ab (by decide) (ab (by decide) aa)))];exact⟨_,x,rfl,ab (by decide) (ab (by decide) (ab (by decide) (ab (by decide) aa))),h,ab (by decide) (ab (by decide) aa),ab (by decide) aa,aa,y⟩
end
section
variable {F:Fs}{st s1 s2 s3 s4:St}{u v w:V}{n k p q:Nat}{hp hp':List O}
theorem c_nes{a:List Nat}:fP .NotEq (.str (toS a)) (.str (toS a)) st=some false:=by
 exact mX (a:=true) ((Ez (st:=st) (a:=a) (b:=a)).trans (congrArg some (beq_self_eq_true a)))
noncomputable def Law2:List S:=[.asg (nm "pairs") (.comp2 (.var (nm "pair")) (nm "number") (.var (nm "numbers")) (nm "pair") (.call 2 [.var (nm "number")])),.asg (nm "spelled") (.meth (.str (⟨#[]⟩:Str)) (nm "join") [.comp (.item (.var (nm "pair")) (.int 0)) (nm "pair") (.var (nm "pairs"))]),.asg (nm "meant") (.comp2 (.tup [.var (nm "sign"),.var (nm "sign")]) (nm "pair") (.var (nm "pairs")) (nm "sign") (.item (.var (nm "pair")) (.int 1)))]
theorem Ds:∀{c:List Nat}{r:List S}(i:st.loc.lookup (nm "numbers")=some (.ref q))(j:st.hp[q]?=some (.list (c.map iV)))(m:∀x∈c,x<=1000000)(h:(c.flatMap ch).length<=1000)(o:(mng (c.flatMap ch)).length<=1000),
 ∃s1 a b,exs (run tabNow (n+1)) (Law2++r) st=exs (run tabNow (n+1)) r s1/\Kept (["pairs","spelled","meant"].map nm) st.loc s1.loc/\s1.loc.lookup (nm "pairs")=some (.ref a)/\s1.hp[a]?=some (.list ((c.flatMap ch).map pv))/\
  s1.loc.lookup (nm "spelled")=some (.str (toS (sgn (c.flatMap ch))))/\s1.loc.lookup (nm "meant")=some (.ref b)/\s1.hp[b]?=some (.list ((own (mng (c.flatMap ch))).map pv))/\Ext st.hp s1.hp:=by
 revert st n q;exists ce5_,st,n,q,c,r;intros;unfold Law2;simp only[je,jN];refine bY (DG (n:=n) i j m h) λa d s f t=>?_;rw[aD s];simp only;rw[aD (Dn (st:=⟨(nm "pairs",.ref a)::st.loc,d⟩) aa f h)];simp only;generalize y:d++[O.list ((List.map (λx:P=>[x.1]) (c.flatMap ch)).map λl=>.str (toS l))]=e;have g:Ext d e:=by rw[<-y];exact Ext.refl.app _
 rw[aD (Cm (st:=⟨(nm "spelled",.str (toS (sgn (c.flatMap ch))))::(nm "pairs",.ref a)::st.loc,e⟩) (ab (by decide) aa) (g.get f) o)];exact⟨_,a,e.length,rfl,((Kept.refl.put (by simp)).put (by simp)).put (by simp),ab (by decide) (ab (by decide) aa),old _ (g.get f),ab (by decide) aa,aa,bQ,(t.trans g).app _⟩
noncomputable def AA(x:String):X:=.meth (.str (⟨#[10]⟩:Str)) (nm "join") [.call 3 [.var (nm x),.var (nm "room"),.var (nm "width"),.var (nm "splitters")]]
noncomputable def qS(e:X):X:=.call 5 [e,.var (nm "room"),.var (nm "width"),.var (nm "splitters")]
noncomputable def Law3:List S:=[.asg (nm "behind") (.call 4 [qS (.var (nm "spelled"))]),.asg (nm "ahead") (qS (.call 4 [.var (nm "spelled")])),.ite (.cmp .NotEq (.var (nm "behind")) (AA "pairs")) [.ret (.bool false)] [],.ret (.cmp .Eq (.var (nm "ahead")) (AA "meant"))]
theorem b6_eq:B6=Law1++(Law2++Law3):=rfl
structure qI (st:St) (room wd:Nat) (spl:List Nat):Prop where
 room:st.loc.lookup (nm "room")=some (.int (room:Int))
 wd:st.loc.lookup (nm "width")=some (.int (wd:Int))
 spl:st.loc.lookup (nm "splitters")=some (.str (toS spl))
theorem qI.put{room wd:Nat}{spl:List Nat}(h:qI st room wd spl){x:String}(a:("room"==x)=false)(b:("width"==x)=false)(c:("splitters"==x)=false)(hp:List O):qI ⟨(nm x,v)::st.loc,hp⟩ room wd spl:=⟨ab a h.room,ab b h.wd,ab c h.spl⟩
theorem AG{x:String}{ps:List P}(c:qI st room wd spl)(g:st.loc.lookup (nm x)=some (.ref p))(hp:st.hp[p]?=some (.list (ps.map pv)))(h:ps.length<=1000)(d:ps≠[])(i:∀x∈ps,x.2.length<=100)(e:spl.length<=100)(a:room<=1000)
 (j:(ay (ag ps) (stC (ag ps) spl room wd (ag ps).length)).all (λp=>bz p.1)=true->(stC (ag ps) spl room wd (ag ps).length).rows≠[])
 (f:(rowsOf (ag ps) spl room wd).length<=1000/\∀x∈rowsOf (ag ps) spl room wd,x.length<=900):
 ∃hp',ev (run tabNow (n+1)) (AA x) st=some (.str (toS (aJ [10] (rowsOf (ag ps) spl room wd))),⟨st.loc,hp'⟩)/\Ext st.hp hp':=by
 refine bY (run3 (n:=n) (wd:=wd) (spl:=spl) hp h d i e (zB a (zH ..):room<=1000000) j) λk b l m o=>?_;have r:ev (run tabNow (n+1)) (.call 3 [.var (nm x),.var (nm "room"),.var (nm "width"),.var (nm "splitters")]) st=some (.ref k,⟨st.loc,b⟩):=
  fK (evs4 (e_var g) (e_var c.room) (e_var c.wd) (e_var c.spl)) l
 have t:=lL (F:=run tabNow (n+1)) (s:=[10]) (ls:=rowsOf (ag ps) spl room wd) (k:=k) (st:=⟨st.loc,b⟩) m (by simp) f.1 f.2;exact⟨b,bU bL r mo_join mo_join t,o⟩
theorem DI:∀{ps:List P}{room wd a b:Nat}{spl:List Nat}(f:gF ps)(G:qI st room wd spl)(s:spl.length<=100)(d:room<=1000)(h1:st.loc.lookup (nm "pairs")=some (.ref a))(h2:st.hp[a]?=some (.list (ps.map pv)))(U:st.loc.lookup (nm "spelled")=some (.str (toS (sgn ps))))(h4:st.loc.lookup (nm "meant")=some (.ref b))(h5:st.hp[b]?=some (.list ((own (mng ps)).map pv))),
 ∃s1,exs (run tabNow (n+6)) Law3 st=some (.ret (.bool true),s1)/\Ext st.hp s1.hp:=by
 revert st n;exists bZ,st,n,ps,room,wd,a,b,spl;intros;have H:=f.len;have y:=oE f;have z:(sgn ps).length=ps.length:=by rw[sgn,zC]
 have hn1:=ig (sgn ps);have I:=ig (iJ (sgn ps));rw[n5 f]at I;have J:ps≠[]:=λe=>by have:=f.ink;rw[e]at this;cases this
 have A:own (mng ps)≠[]:=λe=>by
  refine el12 (ko f) λc W _=>?_;have:mng ps=[]:=by simpa[own] using e
  rw[this]at W;cases W
 have K:∀x∈ps,x.2.length<=100:=λx L=>by have:=(cZ (f.good x L)).2.2.2;exact zB this (zH ..)
 have M:∀x∈own (mng ps),x.2.length<=100:=λx L=>by
  refine el12 (zv.mp L) λc _ N=>?_;subst N;simp
 have Q:(own (mng ps)).length<=1000:=by rw[own,zC];exact zB y (zH ..)
 have B:∀l:List Nat,∀c∈l,(b3 c).length<=100:=λl c _=>by have:=up c;exact zB this (zH ..)
 refine el12 (run5 (n:=n) (hp:=st.hp) (t:=sgn ps) (room:=room) (wd:=wd) (spl:=spl) d (by lia) (fk2 H (zS z))) λh r1 x1=>?_;have e1:ev (run tabNow (n+6)) (qS (.var (nm "spelled"))) st=some (.str (toS (aJ [10] (ee (sgn ps) spl room wd))),⟨st.loc,h⟩):=
  fK (evs4 (e_var U) (e_var G.room) (e_var G.wd) (e_var G.spl)) r1
 obtain⟨vs,r2⟩:=run4 (n:=n+4) (l:=aJ [10] (ee (sgn ps) spl room wd)) (hp:=h) (by have:=CE (spl:=spl) (room:=room) (wd:=wd) (t:=sgn ps) (by lia);exact zB this (zH ..)) (B _);have R:ev (run tabNow (n+6)) (.call 4 [qS (.var (nm "spelled"))]) st=some (.str (toS (iJ (aJ [10] (ee (sgn ps) spl room wd)))),⟨st.loc,h++[.list vs]⟩):=fK (s1:=⟨st.loc,h⟩) (gp e1) r2;rw[rP f]at R;have X:=x1.app [O.list vs];generalize h++[O.list vs]=g at R X;unfold Law3;rw[aD R];simp only;have i:qI ⟨(nm "behind",.str (toS (aJ [10] (rowsOf (ag ps) spl room wd))))::st.loc,g⟩ room wd spl:=G.put (by decide) (by decide) (by decide) _;obtain⟨m,r3⟩:=run4 (n:=n+4) (l:=sgn ps) (hp:=g) (fk2 H (zS z)) (B _);have Y:ev (run tabNow (n+6)) (.call 4 [.var (nm "spelled")]) ⟨(nm "behind",.str (toS (aJ [10] (rowsOf (ag ps) spl room wd))))::st.loc,g⟩=some (.str (toS (iJ (sgn ps))),⟨(nm "behind",.str (toS (aJ [10] (rowsOf (ag ps) spl room wd))))::st.loc,g++[.list m]⟩):=fK (gp (e_var (ab (by decide) U))) r3;have Z:=X.app [O.list m];generalize g++[O.list m]=S at Y Z;have C:(iJ (sgn ps)).length<=120:=by rw[n5 f];exact y
 have D:eT (bq (iJ (sgn ps)))<=4*120:=zB (ig _) (vC _ C);refine el12 (run5 (n:=n) (hp:=S) (t:=iJ (sgn ps)) (room:=room) (wd:=wd) (spl:=spl) d (zu D (by decide)) (zB C (zH ..))) λo r4 x4=>?_;have e4:ev (run tabNow (n+6)) (qS (.call 4 [.var (nm "spelled")])) ⟨(nm "behind",.str (toS (aJ [10] (rowsOf (ag ps) spl room wd))))::st.loc,g⟩=some (.str (toS (aJ [10] (ee (iJ (sgn ps)) spl room wd))),⟨(nm "behind",.str (toS (aJ [10] (rowsOf (ag ps) spl room wd))))::st.loc,o⟩):=
  fK (evs4 Y (e_var i.room) (e_var i.wd) (e_var i.spl)) r4
 rw[xF f]at e4;rw[aD e4];simp only;have j:qI ⟨(nm "ahead",.str (toS (aJ [10] (rowsOf (ag (own (mng ps))) spl room wd))))::(nm "behind",.str (toS (aJ [10] (rowsOf (ag ps) spl room wd))))::st.loc,o⟩ room wd spl:=i.put (by decide) (by decide) (by decide) _;have r:=Z.trans x4;refine el12 (AG (n:=n+5) (x:="pairs") (ps:=ps) j (ab (by decide) (ab (by decide) h1)) (r.get h2) (zB H (zH ..)) J K s d (ps_hw f) (vy f)) λE e5 x5=>?_;have t5:=t_cmp (F:=run tabNow (n+6)) (st:=⟨(nm "ahead",.str (toS (aJ [10] (rowsOf (ag (own (mng ps))) spl room wd))))::(nm "behind",.str (toS (aJ [10] (rowsOf (ag ps) spl room wd))))::st.loc,o⟩) (op:=.NotEq) (e_var (ab (a:="behind") (b:="ahead") (by decide) aa)) e5 c_nes;rw[aR t5];have T:qI ⟨(nm "ahead",.str (toS (aJ [10] (rowsOf (ag (own (mng ps))) spl room wd))))::(nm "behind",.str (toS (aJ [10] (rowsOf (ag ps) spl room wd))))::st.loc,E⟩ room wd spl:=⟨j.room,j.wd,j.spl⟩;refine el12 (AG (n:=n+5) (x:="meant") (ps:=own (mng ps)) T (ab (by decide) (ab (by decide) h4)) ((r.trans x5).get h5) Q A M s d (xW (ko f)) (rp f)) λhp6 e6 x6=>?_;have e7:=Ab (F:=run tabNow (n+6)) (st:=⟨(nm "ahead",.str (toS (aJ [10] (rowsOf (ag (own (mng ps))) spl room wd))))::(nm "behind",.str (toS (aJ [10] (rowsOf (ag ps) spl room wd))))::st.loc,E⟩) (op:=.Eq) (e_var aa) e6 xH;rw[beq_self_eq_true]at e7;rw[cJ e7];exact⟨_,rfl,(r.trans x5).trans x6⟩
theorem DZ(T:Nat):Bg T<=1000:=
 (by decide:∀k<3,([0,2,4]:List Nat).getD k 0<=1000) _ (zt _ (by decide))
theorem EO(T:Nat):(splN T).length<=100:=
 (by decide:∀k<6,(([[32],[46,59,32],[],[59,44,32,9],[9],[44,46]]:List (List Nat)).getD k []).length<=100) _ (zt _ (by decide))
theorem run6:∀{l:List (Int×Nat)}{N:Nat}(hp0:hp[p]?=some (.frozen l N))(j:l.length<=1000),∃hp',run tabNow (n+7) 6 [.ref p] hp=some (.bool true,hp')/\Ext hp hp':=by
 revert n p hp;exists ce5_,n,p,hp,l,N;intros;rw[dr (by rfl) tab6 (loc:=[(nm "script",.ref p)]) (by rfl)];show ∃hp',(exs (run tabNow (n+6)) B6 _).map _=_/\_
 rw[b6_eq];refine el27 (CL (F:=run tabNow (n+6)) (r:=Law2++Law3) hp0 j) λs1 q m o e f g h s=>?_;rw[m];have d:=Eb (qL (nh l)) (xz (cr l));have c:=tn (pq l);generalize numsOf (cr l)=i at e f g h d c;obtain⟨s2,a,b,t,k2,x,y,z,A,B,C⟩:=Ds (n:=n+5) (r:=Law3) o e c (by have:=d.len;exact zB this (zH ..)) (by have:=oE d;exact zB this (zH ..));rw[t];refine el12 (DI (n:=n) d ⟨(k2.at "room" rfl).trans g,(k2.at "width" rfl).trans f,(k2.at "splitters" rfl).trans h⟩ (EO _) (DZ _) x y z A B) λs3 D E=>?_;rw[D];exact⟨s3.hp,rfl,(s.trans C).trans E⟩
end
end Mine.Sm
namespace Mine
open PySem PySem.Calls PyProof.Rows PySem.W PySem.SeqAt
inductive Al {α β:Type} (R:α->β->Prop):List α->List β->Prop
 | nil:Al R [] []
 | cons {a b l m}:R a b->Al R l m->Al R (a::l) (b::m)
noncomputable def ae:Nat->Addr
 | 0=>222|1=>268|2=>273|3=>278|4=>283|5=>290|6=>295
 | 10=>57|11=>64|12=>78|13=>106|14=>113
 | 20=>137|21=>144|22=>152|23=>160|24=>167|25=>174|26=>182|27=>189|28=>197
 | _=>0
noncomputable def dx:Nat->Addr
 | 0=>212|1=>223|_=>43
noncomputable def cn:Addr:=116
noncomputable def aw:Addr:=200
inductive AR:bj->Value->Prop
 | int (i:Int) (t:Tok):AR (.int i) (.int i t)
 | str (s:Str) (t:Tok):AR (.str s) (.str s t)
noncomputable def oR(h:Heap)(a:Addr)(l:List bj):Prop:=∃xs:List Value,IsTup h a xs.toArray/\Al AR l xs
noncomputable abbrev Rho:=List (Addr×Addr)
noncomputable def feet(p:Addr×Addr):List Addr:=if p.1=p.2 then[p.1]else[p.1,p.2]
noncomputable def foot(ρ:Rho):List Addr:=ρ.flatMap feet
noncomputable def VR(h:Heap)(ρ:Rho):V->Value->Prop
 | .none,x=>x=.none
 | .bool b,x=>x=.bool b
 | .int i,x=>∃t,x=.int i t
 | .str s,x=>∃t,x=.str s t
 | .tup l,x=>∃a,x=.ref a/\oR h a l/\a∉foot ρ
 | .ref k,x=>∃p:Addr×Addr,x=.ref p.1/\ρ[k]?=some p
 | .top t,x=>x=.ref (dx t)
noncomputable def wo(h:Heap)(ρ:Rho)(d:Addr)(fs:List (Str×V)):Prop:=
 ∃m,h.Ns1 d m/\(∀n v,fs.lookup n=some v->∃y,m n=some y/\VR h ρ v y)/\∀n,fs.lookup n=Option.none->m n=Option.none
noncomputable def pA(h:Heap)(ρ:Rho)(p:Addr×Addr):O->Prop
 | .list vs=>(∃ob,h.get? p.2=some ob)/\∃xs:List Value,(∃n,h.get? p.1=some {cls:=.type "list",data:=.seq xs.toArray n})/\Al (VR h ρ) vs xs
 | .inst fs=>p.1≠p.2/\(∃sl,h.get? p.1=some {cls:=.ref cn,dict:=some p.2,data:=.plain,slots:=sl})/\wo h ρ p.2 fs
 | .ghost=>p.1=p.2/\∃x y,h.get? p.1=some {cls:=.type "tuple",data:=.seq #[x,y]}
 | .frozen l n=>p.1=p.2/\h.get? p.1=some {cls:=.type "list",data:=.seq (l.map λq=>zl q.1 q.2).toArray n}
 | .acc fs vs=>p.1≠p.2/\∃xs:List Value,(∃n sl,h.get? p.1=some {cls:=.ref aw,dict:=some p.2,data:=.seq xs.toArray n,slots:=sl})/\Al (VR h ρ) vs xs/\wo h ρ p.2 fs
noncomputable def aO:List Addr:=[162,169]
noncomputable def ib(h:Heap):Prop:=∃ps a,h.IsCode 166 162 ps/\h.IsCode 173 169 a/\h.get? 162=some (X.tableObj ps)/\h.get? 169=some (X.tableObj a)
structure oQ (H0:Heap):Prop where
 big:296<=H0.objs.size
 last:∃o,H0.get? (H0.objs.size-1)=some o
 codes:(H0.get? 166).isSome/\(H0.get? 173).isSome
structure Rep (H0:Heap) (ρ:Rho) (hp:List O) (s:Shared):Prop where
 old:∀b o,H0.get? b=some o->b∉aO->s.heap.get? b=some o
 tab:ib s.heap
 gens:AllBare s.gens
 len:ρ.length=hp.length
 obj:∀(k:Nat)(p:Addr×Addr)(o:O),ρ[k]?=some p->hp[k]?=some o->pA s.heap ρ p o
 apart:(foot ρ).Nodup
 above:∀b∈foot ρ,H0.get? b=none/\b∉aO
 lo:oQ H0
structure Step (Ls:List Addr) (ρ ρ':Rho) (s s':Shared):Prop where
 ext:∃δ,ρ'=ρ++δ/\∀b∈foot δ,s.heap.get? b=none
 alive:∀b o,s.heap.get? b=some o->∃o',s'.heap.get? b=some o'
 keep:∀b o,s.heap.get? b=some o->b∉foot ρ->b∉Ls->b∉aO->s'.heap.get? b=some o
 os:s'.os=s.os
noncomputable abbrev pw:Program:=jL
noncomputable abbrev noE:Value->Shared->Prop:=λ_ _=>False
structure cj (A:Around) (n:Nat):Prop where
 handled:A.handled=none
 depth:A.depth+10*n<=905
 units:A.units+1000*n<=9800
 frames:∃l,A.frames=some l
 guards:∃l,A.guards=some l
noncomputable def br:List Nat:=[0,1,2,3,4,5,6,10,11,12,13,14,20,21,22,23,24,25,26,27,28]
structure Top (H0:Heap):Prop where
 size:296<=H0.objs.size
 lim:H0.NoLimit
 fns:∀i∈br,∃o fd,H0.get? (ae i)=some o/\o.data=.func fd
 glob:∃mg,H0.Ns mainGlobals mg/\(∀p∈cp,mg p.1=some (.ref (ae p.2)))/\(mg (nm "_ValueFormatter")=some (.ref cn))/\(mg (nm "_Accumulator")=some (.ref aw))/\
  (∀p∈cm,mg p.1=some (.ref (dx p.2)))/\(∀p∈constNames,∃t,mg p.1=some (.str p.2 t))/\(∀x∈cl++[nm "super",nm "zip",nm "iter",nm "range"],mg x=none)
 blt:∃mb,H0.Ns builtinsNs mb/\mb (nm "len")=some (.builtin "len")/\mb (nm "ord")=some (.builtin "ord")/\mb (nm "chr")=some (.builtin "chr")/\mb (nm "sum")=some (.builtin "sum")/\mb (nm "min")=some (.builtin "min")/\
  mb (nm "str")=some (.type "str")/\mb (nm "super")=some (.type "super")/\mb (nm "zip")=some (.type "zip")/\mb (nm "iter")=some (.builtin "iter")/\mb (nm "range")=some (.type "range")
noncomputable def aC(H0:Heap)(ρ:Rho)(v:V)(hp:List O)(s:Shared):Value->Shared->Prop:=λy s'=>∃a,Step [] ρ a s s'/\Rep H0 a hp s'/\VR s'.heap a v y
noncomputable def gr(w:World)(h:Heap):Prop:=∀(s:Shared)(A:Around)(i:Int)(t:Tok)(Q:Value->Shared->Prop),s.heap.get? 212=h.get? 212->
 Q (.bool (gR.contains i)) {s with toks:=s.toks+1}->wpAny (model pw w) A (compareOp .In (.int i t) (.ref 212)) Q noE s
noncomputable def SF(H0:Heap)(w:World)(F:Fs)(n:Nat):Prop:=
 ∀(A:Around)(s:Shared)(ρ:Rho)(hp:List O)(f:Nat)(as:List V)(ys:List Value)(v:V)(a:List O),cj A n->Rep H0 ρ hp s->Al (VR s.heap ρ) as ys->F f as hp=some (v,a)->
  codeAny (model pw w) A (.call (.ref (ae f)) ⟨ys,[]⟩) (λr s'=>∃y,r=.ok (.ret y)/\aC H0 ρ v a s y s') s
noncomputable def GA(K:Frag)(C:Addr):Prop:=findIn K (.ref C) "__getattribute__"=some (some (.builtin "object.__getattribute__"))\/
 (findIn K (.ref C) "__getattribute__"=some (some (.builtin "list.__getattribute__"))/\subIn K (.ref C) (.type "list")=some true)
noncomputable def cN:List Addr:=[cn,aw]
structure aL (H0:Heap) (K:Frag):Prop where
 inn:K.In H0
 off:∀a∈aO,K.lookup a=none
 ga:∀C∈cN,GA K C
 gat:∀C∈cN,findIn K (.ref C) "__getattr__"=some none
 sat:∀C∈cN,findIn K (.ref C) "__setattr__"=some (some (.builtin "object.__setattr__"))
 fld:∀C∈cN,∀n∈fldNames,findIn K (.ref C) n=some none
 dict:∀C∈cN,∃cd,clsIn K C=some cd/\cd.hasDict=true/\(cd.mro=[.ref C,.type "object"]\/cd.mro=[.ref C,.type "list",.type "object"])
 acMro:∃cd,clsIn K aw=some cd/\cd.mro=[.ref aw,.type "list",.type "object"]
 acL:∀p∈[(nm "__getitem__","list.__getitem__"),(nm "__setitem__","list.__setitem__"),(nm "__iter__","list.__iter__"),(nm "append","list.append")],findIn K (.ref aw) p.1=some (some (.builtin p.2))
 vfM:∀p∈vfMeth,findIn K (.ref cn) p.1=some (some (.ref (ae p.2)))/\typeIn K (.ref (ae p.2))=some (.type "function")
 acM:∀p∈acMeth,findIn K (.ref aw) p.1=some (some (.ref (ae p.2)))/\typeIn K (.ref (ae p.2))=some (.type "function")
structure eQ (H0:Heap):Prop where
 dict:∃o,H0.get? 223=some o/\o.cls=.type "dict"/\o.dict=none
 pat:∃o,H0.get? 43=some o/\o.cls=.type "re.Pattern"/\o.dict=none
structure TC (H0:Heap) (w:World):Prop where
 get:∀(A:Around)(s:Shared)(ρ:Rho)(hp:List O)(i:Int)(t:Tok)(Q:Value->Shared->Prop),A.handled=none->Rep H0 ρ hp s->(∀y T,VR s.heap ρ (b3V i) y->Q y {s with toks:=T})->
  wpAny (model pw w) A (call (.builtin "dict.get") [.ref 223,.int i t]) Q noE s
 split:∀(A:Around)(s:Shared)(ρ:Rho)(hp:List O)(z:Str)(t:Tok)(Q:Value->Shared->Prop),A.handled=none->Rep H0 ρ hp s->z.cps.size<=lid->(dU (z.cps.size+1) z.cps.toList).length<=lid->
  (∀y s',aC H0 ρ (.ref hp.length) (hp++[.list ((dU (z.cps.size+1) z.cps.toList).map λl=>.str (toS l))]) s y s'->Q y s')->wpAny (model pw w) A (call (.builtin "re.Pattern.split") [.ref 43,.str z t]) Q noE s
noncomputable def kn(H0:Heap):Prop:=∀i∈br,∀nm as e body sc a b c,aK i=.FunctionDef nm ⟨[],as,none,[],[],none,e⟩ body [] none [] sc a b c->
 (∃o fd f,H0.get? (ae i)=some o/\o.data=.func fd/\fd.params=⟨[],as,none,[],[],none,e⟩/\fd.body=.stmts body/\fd.scope=sc/\fd.globals=mainGlobals/\fd.builtins=builtinsNs/\
  H0.CodeRec fd.code fd.qualname/\fd.code=.ref f/\f∉aO/\
  ((e=[]/\fd.defaults=.none)\/∃g j T oT d n v,as=[g,j]/\g.arg≠j.arg/\fd.defaults=.ref T/\T∉aO/\H0.get? T=some oT/\oT.data=.seq #[d] n/\dA fc e=some [v]/\(∀h ρ,VR h ρ v d)))/\
 sc.kind=.function/\sc.isCoroutine=false/\sc.isGenerator=false/\(∀x∈sc.names,x.2≠.cell)/\(∀x∈as,sc.names.lookup x.arg=some .local)/\(as.map (·.arg)).Nodup
structure mQ (K:Frag):Prop where
 len:findIn K (.ref aw) "__len__"=some (some (.ref (ae 24)))
 str:findIn K (.ref aw) "__str__"=some (some (.ref (ae 25)))
 bool:findIn K (.ref aw) "__bool__"=some none
 fn:∀i∈br,isFn K (.ref (ae i))=true
noncomputable def ru(K:Frag)(C:Addr):Bool:=match K.lookup C with
 | some ⟨_,_,.cls cd,sl⟩ => !cd.abstract && !cd.hasDel&&(sl.toList[4]?).join==some (.builtin "list.__new__") && !cd.mro.isEmpty&&cd.mro.contains (.ref C)&&cd.mro.contains (.type "list")&&
  specialIn K (.ref C) "__call__"==some (some (.builtin "type.__call__"))&&instIn K (.ref C) (.type "type")==some true
 | _=>false
structure Ad (K:Frag):Prop where
 vf:makesIn K cn=true
 ac:ru K aw=true
 vfI:findIn K (.ref cn) "__init__"=some (some (.ref (ae 10)))
 acI:findIn K (.ref aw) "__init__"=some (some (.ref (ae 20)))
structure iQ (H0:Heap) (K:Frag):Prop where
 fn:∀i∈[20,23,28],∃o fd cd oc vs tf,H0.get? (ae i)=some o/\o.data=.func fd/\fd.closure=[(nm "__class__",124)]/\fd.code=.ref cd/\cd∉aO/\H0.get? cd=some oc/\oc.data=.fields vs/\vs[2]?=some (.str pw.main.file tf)
 cell:H0.IsCell 124 (some (.ref aw))
 stat:nsIn K cStatics "thirdparty.any"=some none
 qual:∃cd,clsIn K aw=some cd/\cd.qualname.toString="_Accumulator"
 ty:typeIn K (.ref aw)=some (.type "type")
 gen:∀p∈[(24,166),(25,173)],∃o fd,H0.get? (ae p.1)=some o/\o.data=.func fd/\fd.code=.ref p.2
 code:∀p∈[(166,162),(173,169)],∃o vs,H0.get? p.1=some o/\o.cls=.type "code"/\o.data=.fields vs/\vs[11]?=some (.ref p.2)
 bi:∃mg bm ob,H0.Ns mainGlobals mg/\mg "__builtins__"=some (.ref bm)/\bm≠builtinsNs/\bm∉aO/\H0.get? bm=some ob/\ob.cls=.type "module"/\ob.dict=some builtinsNs/\ob.data=.plain
noncomputable def code0:Array Nat:=#[14,4,0,1,4294967295,17,0,24,11,1,4294967295,13,6,16,32,16,9,0,1,17,1,1]
open PySem.Builtin.Re in
structure nR (H0:Heap):Prop where
 obj:∃o vs c t1 t2,H0.get? 43=some o/\o.cls=.type "re.Pattern"/\o.data=.fields vs/\vs.getD 2 .none=.int 1 t1/\vs.getD 5 .none=.ref c/\vs.getD 6 .none=.int 0 t2/\c∉aO/\
  ∃oc xs n,H0.get? c=some oc/\oc.data=.seq xs n/\(xs.map reRawOf).map (·.toNat)=code0
structure ie (H0:Heap):Prop where
 map:∀w:World,∃f,H0.MapOf (intKind pw w) 223 f/\∀i:Int,match b3Tab.lookup i with|some z=>∃t,f i=some (.str z t)|none=>f i=none
structure TopLaid (H0:Heap) (w:World) (K:Frag):Prop where
 T:Top H0
 SO:gr w H0
 set:(H0.get? 212).isSome
 k:aL H0 K
 TO:eQ H0
 pat:nR H0
 dict:ie H0
 fo:kn H0
 sp:iQ H0 K
 mko:Ad K
 ak:mQ K
 call:∀C∈cN,∃o cd,H0.get? C=some o/\o.data=.cls cd/\specialIn K (.ref C) "__call__"=some (some (.builtin "type.__call__"))
noncomputable def Told(p:Heap×World×Frag):Prop:=TopLaid p.1 p.2.1 p.2.2->∀n,SF p.1 p.2.1 (run tabNow n) n
theorem ne:Nonempty (Heap×World×Frag):=⟨⟨#[],{}⟩,⟨λ_ _=>0,{strHash:=λ_=>0,shareClass:=λ_=>0,mergeTok:=λ_=>0,idOf:=λ_=>0,idOfShared:=λ_ _=>0,followText:=λ_=>false,idOfImm:=λ_=>0}⟩,[]⟩
noncomputable def ctx:Heap×World×Frag:=@Classical.epsilon _ ne λp=>¬Told p
theorem Bl(h:Told ctx)(p:Heap×World×Frag):Told p:=Classical.byContradiction λa=>(Classical.epsilon_spec_aux ne (λp=>¬Told p) ⟨p,a⟩) h
noncomputable def H0:Heap:=ctx.1
noncomputable def w:World:=ctx.2.1
noncomputable def K:Frag:=ctx.2.2
end Mine
namespace Mine
open PySem PySem.Calls PyProof.Rows PySem.W
namespace Al
variable {α β:Type}{R R':α->β->Prop}
theorem length{l:List α}{m:List β}(h:Al R l m):l.length=m.length:=by
 induction h with
 | nil=>rfl
 | cons _ _ a=>exact congrArg (· + 1) a
theorem mono(c:∀a b,R a b->R' a b){l:List α}{m:List β}(h:Al R l m):Al R' l m:=by
 induction h with
 | nil=>exact .nil
 | cons h _ d=>exact .cons (c _ _ h) d
theorem append{l:List α}{m:List β}(h:Al R l m)(b:Al R l' m'):Al R (l++l') (m++m'):=by
 induction h with
 | nil=>exact b
 | cons a _ c=>exact .cons a c
theorem get{l:List α}{m:List β}(h:Al R l m):∀{i:Nat}{a:α},l[i]?=some a->∃b,m[i]?=some b/\R a b:=by
 induction h with
 | nil=>exactλe=>absurd e (by simp)
 | cons h _ c=>
  intro i a e;cases i with
  | zero=>obtain rfl:=zE e;exact⟨_,rfl,h⟩
  | succ=>exact c e
theorem getR{l:List α}{m:List β}(h:Al R l m):∀{i:Nat}{b:β},m[i]?=some b->∃a,l[i]?=some a/\R a b:=by
 induction h with
 | nil=>exactλe=>absurd e (by simp)
 | cons h _ c=>
  intro i a e;cases i with
  | zero=>obtain rfl:=zE e;exact⟨_,rfl,h⟩
  | succ=>exact c e
theorem take{l:List α}{m:List β}(n:Nat)(h:Al R l m):Al R (l.take n) (m.take n):=by
 induction h generalizing n with
 | nil=>rw[List.take_nil,List.take_nil];exact .nil
 | cons h _ a=>cases n with
  | zero=>exact .nil
  | succ n=>exact .cons h (a n)
theorem drop{l:List α}{m:List β}(n:Nat)(h:Al R l m):Al R (l.drop n) (m.drop n):=by
 induction h generalizing n with
 | nil=>rw[List.drop_nil,List.drop_nil];exact .nil
 | cons h t a=>cases n with
  | zero=>exact .cons h t
  | succ n=>exact a n
theorem set{l:List α}{m:List β}(n:Nat){a:α}{b:β}(h:Al R l m)(r:R a b):Al R (l.set n a) (m.set n b):=by
 induction h generalizing n with
 | nil=>exact .nil
 | cons h t c=>cases n with
  | zero=>exact .cons r t
  | succ n=>exact .cons h (c n)
theorem cons_inv{a:α}{l:List α}{m:List β}(h:Al R (a::l) m):∃b c,m=b::c/\R a b/\Al R l c:=by
 cases h with|cons h t=>exact⟨_,_,rfl,h,t⟩
theorem nil_inv{m:List β}(h:Al R [] m):m=[]:=by cases h;rfl
end Al
theorem aj(ρ a:Rho):foot (ρ++a)=foot ρ++foot a:=by simp[foot]
theorem kL{p:Addr×Addr}(h:p∈ρ):p.1∈foot ρ/\p.2∈foot ρ:=by
 have:p.1∈feet p/\p.2∈feet p:=by unfold feet;split<;>simp_all
 exact⟨ya.mpr ⟨p,h,this.1⟩,ya.mpr ⟨p,h,this.2⟩⟩
namespace VR
variable {h:Heap}{ρ:Rho}
theorem none:VR h ρ .none .none:=rfl
theorem bool(b:Bool):VR h ρ (.bool b) (.bool b):=rfl
theorem int(i:Int)(t:Tok):VR h ρ (.int i) (.int i t):=⟨t,rfl⟩
theorem str(s:Str)(t:Tok):VR h ρ (.str s) (.str s t):=⟨t,rfl⟩
theorem tup{l:List bj}{a:Addr}(x:oR h a l)(y:a∉foot ρ):VR h ρ (.tup l) (.ref a):=⟨a,rfl,x,y⟩
theorem ref{k:Nat}{p:Addr×Addr}(x:ρ[k]?=some p):VR h ρ (.ref k) (.ref p.1):=⟨p,rfl,x⟩
theorem top(t:Nat):VR h ρ (.top t) (.ref (dx t)):=rfl
end VR
section
noncomputable def cC(o:Obj):Prop:=o.cls=.type "tuple"->∀ys n,o.data≠.seq ys n
theorem gi{h a:Heap}{b:Addr}(k:∀o,h.get? b=some o->∃o',a.get? b=some o')(e:a.get? b=none):h.get? b=none:=by
 cases q:h.get? b with
 | none=>rfl
 | some o=>obtain⟨o',c⟩:=k o q;rw[e]at c;cases c
theorem Rep.low{s:Shared}(R:Rep H0 ρ hp s):H0.objs.size<=s.heap.objs.size:=by
 obtain⟨o,e⟩:=R.lo.last;have a:=R.lo.big;have:H0.objs.size-1∉aO:=by
  unfold aO;intro q;rcases zM.mp q with h|q
  ·exact fz3 a (zS h) (sa H0.objs.size 1)
  ·rcases zM.mp q with h|q
   ·exact fz3 a (zS h) (sa H0.objs.size 1)
   ·contradiction
 exact Nat.le_of_pred_lt (yB (R.old _ _ e this))
theorem Step.refl(Ls:List Addr)(ρ:Rho)(s:Shared):Step Ls ρ ρ s s:=⟨⟨[],by simp,by simp[foot]⟩,λ_ o e=>⟨o,e⟩,λ_ _ e _ _ _=>e,rfl⟩
theorem Step.trans:∀{Ls:List Addr}{ρ a c:Rho}{s f s₂:Shared}(x:Step Ls ρ a s f)(y:Step Ls a c f s₂),Step Ls ρ c s s₂:=by
 exists bK,Ls,ρ,a,c,s,f,s₂;intro x y;obtain⟨⟨q,rfl,g⟩,l,k,r⟩:=x;obtain⟨⟨t,rfl,h⟩,i,u,j⟩:=y;refine⟨⟨q++t,by simp,λb d=>?_⟩,λb o e=>let⟨v,w⟩:=l b o e;i b v w,λb o e m n p=>?_,j.trans r⟩
 ·rw[aj]at d;rcases zb.mp d with d|d
  ·exact g b d
  ·exact gi (l b) (h b d)
 ·refine u b o (k b o e m n p) (λd=>?_) n p;rw[aj]at d;rcases zb.mp d with d|d
  ·exact m d
  ·have:=g b d;rw[e]at this;cases this
theorem Step.weaken{s:Shared}(x:Step Ls ρ ρ' s s')(h:∀b∈Ls,b∈Ls'):Step Ls' ρ ρ' s s':=
 ⟨x.ext,x.alive,λb o e a c d=>x.keep b o e a (λq=>c (h b q)) d,x.os⟩
theorem Step.forget{L:Addr}{ρ c:Rho}{s a s':Shared}{Ls:List Addr}(x:Step (L::Ls) ρ c a s')(g:∀b o,s.heap.get? b=some o->∃o',a.heap.get? b=some o')(h:s.heap.get? L=none)
 (k:∀b o,s.heap.get? b=some o->b∉Ls->b∉aO->a.heap.get? b=some o) (l:a.os=s.os):Step Ls ρ c s s':=by
 obtain⟨⟨m,e,d⟩,n,p,f⟩:=x;refine⟨⟨m,e,λb r=>gi (g b) (d b r)⟩,λb o e=>let⟨t,u⟩:=g b o e;n b t u,λb o e v i j=>p b o (k b o e i j) v (λq=>?_) j,f.trans l⟩;rcases zM.mp q with rfl|q
 ·rw[e]at h;cases h
 ·exact i q
theorem oR.keep{a:Addr}{l:List bj}(x:oR h a l)(k:∀o,h.get? a=some o->o.cls=.type "tuple"->(∃ys n,o.data=.seq ys n)->h'.get? a=some o):oR h' a l:=by
 obtain⟨xs,⟨o,e,c,n,d⟩,r⟩:=x;exact⟨xs,⟨o,k o e c ⟨_,n,d⟩,c,n,d⟩,r⟩
theorem VR.mono(b:∀a l,oR h a l->a∉foot ρ->oR h' a l/\a∉foot ρ')(c:∀(k:Nat) p,ρ[k]?=some p->ρ'[k]?=some p){v:V}{x:Value}(r:VR h ρ v x):VR h' ρ' v x:=by
 cases v with
 | tup l=>obtain⟨a,e,h,q⟩:=r;exact⟨a,e,(b _ _ h q).1,(b _ _ h q).2⟩
 | ref k=>obtain⟨p,e,h⟩:=r;exact⟨p,e,c _ _ h⟩
 | _=>exact r
theorem pA.clsOf:∀{h:Heap}{ρ:Rho}{p:Addr×Addr}{o:O}(r:pA h ρ p o),∀b∈feet p,∃ob,h.get? b=some ob:=by
 exists ce4_,h,ρ,p,o;intro r;intro b i;have a:b=p.1\/b=p.2:=by
  unfold feet at i;split at i<;>simp_all
 have dict:∀{d m},h.Ns d m->∃ob,h.get? d=some ob:=λf=>pW f λo es ep e j _=>⟨o,e⟩;cases o with
 | list vs=>
  obtain⟨e,xs,⟨n,c⟩,_⟩:=r;rcases a with rfl|rfl
  ·exact⟨_,c⟩
  ·exact e
 | inst fs=>
  obtain⟨_,⟨sl,c⟩,m,g,_⟩:=r;rcases a with rfl|rfl
  ·exact⟨_,c⟩
  ·exact dict g.ns
 | frozen l n=>
  obtain⟨e,c⟩:=r;rcases a with rfl|rfl
  ·exact⟨_,c⟩
  ·exact⟨_,e▸c⟩
 | ghost=>
  obtain⟨e,x,y,c⟩:=r;rcases a with rfl|rfl
  ·exact⟨_,c⟩
  ·exact⟨_,e▸c⟩
 | acc fs vs=>
  obtain⟨_,xs,⟨n,sl,c⟩,_,m,g,_⟩:=r;rcases a with rfl|rfl
  ·exact⟨_,c⟩
  ·exact dict g.ns
theorem Rep.footObj{s:Shared}(R:Rep H0 ρ hp s){b:Addr}(a:b∈foot ρ):∃ob,s.heap.get? b=some ob:=by
 obtain⟨p,c,a⟩:=ya.mp a;obtain⟨k,f,e⟩:=List.getElem_of_mem c;have d:k<hp.length:=R.len▸f;exact(R.obj k p hp[k] (by rw[<-e];exact zP f) (zP d)).clsOf b a
theorem tabObj:∀{h:Heap}{b:Addr}(x:ib h)(a:b∈aO),∃ob,h.get? b=some ob/\ob.cls=.none:=by
 exists ce2_,h,b;intros;obtain⟨ps,e,_,_,c,d⟩:=x;unfold aO at a;rcases zM.mp a with rfl|a
 ·exact⟨_,c,rfl⟩
 ·rcases zM.mp a with rfl|a
  ·exact⟨_,d,rfl⟩
  ·contradiction
theorem Step.tup{s:Shared}(x:Step Ls ρ ρ' s s')(R:Rep H0 ρ hp s)(j:∀b∈Ls,∀o,s.heap.get? b=some o->cC o){a:Addr}{l:List bj}(t:oR s.heap a l)(h:a∉foot ρ):oR s'.heap a l/\a∉foot ρ':=by
 refine⟨t.keep λo e c f=>dk f λys n d=>x.keep a o e h (λq=>j a q o e c ys n d) λq=>?_,λq=>?_⟩
 ·obtain⟨ob,i,n⟩:=tabObj R.tab q;rw[e]at i;cases i;rw[n]at c;cases c
 ·obtain⟨⟨k,rfl,g⟩,_⟩:=x;rw[aj]at q;rcases zb.mp q with q|q
  ·exact h q
  ·obtain⟨_,⟨o,e,_⟩,_⟩:=t;have:=g a q;rw[e]at this;cases this
theorem Step.ref{s:Shared}(x:Step Ls ρ ρ' s s')(k:Nat)(p:Addr×Addr)(h:ρ[k]?=some p):ρ'[k]?=some p:=by
 obtain⟨⟨b,rfl,_⟩,_⟩:=x;obtain⟨a,e⟩:=zh.mp h;rw[zU a,h]
theorem Step.val{s:Shared}(x:Step Ls ρ ρ' s s')(R:Rep H0 ρ hp s)(a:∀b∈Ls,∀o,s.heap.get? b=some o->cC o){v:V}{y:Value}(r:VR s.heap ρ v y):VR s'.heap ρ' v y:=
 r.mono (λ_ _ t q=>x.tup R a t q) x.ref
noncomputable def ah(H0:Heap)(h:Heap)(ρ:Rho)(L:Addr)(loc:List (Str×V)):Prop:=
 H0.objs.size<=L/\L∉foot ρ/\∃m,h.Ns L m/\∀x v,loc.lookup x=some v->∃y,m x=some y/\VR h ρ v y
theorem gB{h b:Heap}{a:Addr}{m:Str->Option Value}(n:h.Ns a m)(k:∀o,h.get? a=some o->b.get? a=some o):b.Ns a m:=
 wU n λo es ep e r=>⟨o,es,ep,k o e,r⟩
theorem cK(a:296<=H0.objs.size){L:Addr}(b:H0.objs.size<=L):L∉aO:=by
 unfold aO;intro q;rcases zM.mp q with rfl|q
 ·exact fz2 a b
 ·rcases zM.mp q with rfl|q
  ·exact fz2 a b
  ·contradiction
theorem oK(a:296<=H0.objs.size){b:Addr}(h:H0.objs.size<=b):H0.get? b=none/\b∉aO:=⟨uu h,cK a h⟩
noncomputable def xM:List Addr:=[166,162,173,169]
theorem io{b:Addr}(h:b∈xM):b<296:=by
 simp only[xM,zM,yM,or_false]at h;rcases h with rfl|rfl|rfl|rfl<;>decide
theorem pH(a:oQ H0){b:Addr}(h:b∈xM)(q:H0.get? b=none/\b∉aO):False:=by
 simp only[xM,zM,yM,or_false]at h;obtain⟨c1,c2⟩:=a.codes;rcases h with rfl|rfl|rfl|rfl
 ·rw[q.1]at c1;cases c1
 ·exact q.2 (by decide)
 ·rw[q.1]at c2;cases c2
 ·exact q.2 (by decide)
theorem ah.step:∀{ρ a:Rho}{hp:List O}{s s':Shared}{L:Addr}{loc:List (Str×V)}(l:ah H0 s.heap ρ L loc)(x:Step [] ρ a s s')(R:Rep H0 ρ hp s)(h:296<=H0.objs.size),ah H0 s'.heap a L loc:=by
 exists bK,ρ,a,hp,s,s',L,loc;intros;obtain⟨d,f,m,g,i⟩:=l;have j:=cK h d;have k:∀o,s.heap.get? L=some o->s'.heap.get? L=some o:=λo e=>x.keep L o e f (by simp) j;refine⟨d,?_,m,gB g k,λy v e=>?_⟩
 ·obtain⟨⟨u,rfl,c⟩,_⟩:=x;rw[aj];intro q;rcases zb.mp q with q|q
  ·exact f q
  ·obtain⟨o,_,_,n,_⟩:=g;have:=c L q;rw[n]at this;cases this
 ·obtain⟨z,p,r⟩:=i y v e;exact⟨z,p,x.val R (λb t=>by cases t) r⟩
end
structure bt (A:Around) (n m:Nat):Prop where
 handled:A.handled=none
 depth:A.depth+10*n<=900
 units:A.units+1000*n+10*m<=9500
 frames:∃l,A.frames=some l
 guards:∃l,A.guards=some l
theorem bt.in1{n m:Nat}(r:bt A n (m+1)):bt A.in1 n m:=⟨r.handled,r.depth,by have:=r.units;show A.units+1+_+_<=_;exact fk1 this,r.frames,r.guards⟩
structure aN (env:Env) (sc:Scope):Prop where
 kind:env.scope.kind=.function
 names:env.scope.names=sc.names
 glob:env.globals=mainGlobals
 blt:env.builtins=builtinsNs
section
noncomputable def SE(H0:Heap)(w:World)(F:Fs)(n m:Nat)(sc:Scope)(e:Expr)(x:X):Prop:=
 ∀(A:Around)(env:Env)(s:Shared)(ρ:Rho)(st:St)(v:V)(a:St),bt A n m->aN env sc->Rep H0 ρ st.hp s->ah H0 s.heap ρ env.locals st.loc->ev F x st=some (v,a)->
  wpAny (model pw w) A (eval e env) (λy s'=>aC H0 ρ v a.hp s y s'/\a.loc=st.loc) noE s
noncomputable def SB(H0:Heap)(w:World)(F:Fs)(n m:Nat)(sc:Scope)(e:Expr)(x:X):Prop:=
 ∀(A:Around)(env:Env)(s:Shared)(ρ:Rho)(st:St)(b:Bool)(a:St),bt A n m->aN env sc->Rep H0 ρ st.hp s->ah H0 s.heap ρ env.locals st.loc->evT F x st=some (b,a)->
  wpAny (model pw w) A (PySem.isTrue e env (eval e env)) (λd s'=>d=b/\(∃c,Step [] ρ c s s'/\Rep H0 c a.hp s')/\a.loc=st.loc) noE s
theorem Rep.at{s:Shared}(R:Rep H0 ρ hp s)(h:s'.heap=s.heap)(g:s'.gens=s.gens):Rep H0 ρ hp s':=
 ⟨by rw[h];exact R.old,by rw[h];exact R.tab,by rw[g];exact R.gens,R.len,by rw[h];exact R.obj,R.apart,R.above,R.lo⟩
theorem Step.at{s:Shared}(h:s'.heap=s.heap)(o:s'.os=s.os):Step Ls ρ ρ s s':=
 ⟨⟨[],by simp,by simp[foot]⟩,λb ob e=>⟨ob,by rw[h];exact e⟩,λb ob e _ _ _=>by rw[h];exact e,o⟩
theorem aC.here{v:V}{s:Shared}{y:Value}(R:Rep H0 ρ hp s)(h:s'.heap=s.heap)(g:s'.gens=s.gens)(o:s'.os=s.os)(r:VR s.heap ρ v y):aC H0 ρ v hp s y s':=
 ⟨ρ,Step.at h o,R.at h g,by rw[h];exact r⟩
theorem aC.after{v:V}{s:Shared}{y:Value}(x:Step [] ρ ρ₁ s s₁)(p:aC H0 ρ₁ v hp s₁ y s'):aC H0 ρ v hp s y s':=by
 obtain⟨a,st,R,r⟩:=p;exact⟨a,x.trans st,R,r⟩
theorem wo.mono{d:Addr}(x:wo h ρ d fs)(k:∀o,h.get? d=some o->h'.get? d=some o)(c:∀v y,VR h ρ v y->VR h' ρ' v y):wo h' ρ' d fs:=
 let⟨m,n,f,g⟩:=x
 ⟨m,n.at k,λn v e=>let⟨y,a,b⟩:=f n v e;⟨y,a,c _ _ b⟩,g⟩
theorem pA.mono:∀{h f:Heap}{ρ c:Rho}{p:Addr×Addr}{ob:O}(r:pA h ρ p ob)(k:∀b∈feet p,∀o,h.get? b=some o->f.get? b=some o)(g:∀v y,VR h ρ v y->VR f c v y),pA f c p ob:=by
 exists dI,h,f,ρ,c,p,ob;intros;have k1:∀o,h.get? p.1=some o->f.get? p.1=some o:=k p.1 (by unfold feet;split<;>simp);have k2:∀o,h.get? p.2=some o->f.get? p.2=some o:=k p.2 (by unfold feet;split<;>simp_all);cases ob with
 | list vs=>obtain⟨⟨ob,e⟩,xs,⟨n,a⟩,i⟩:=r;exact⟨⟨ob,k2 _ e⟩,xs,⟨n,k1 _ a⟩,i.mono g⟩
 | inst fs=>obtain⟨e,⟨sl,a⟩,d⟩:=r;exact⟨e,⟨sl,k1 _ a⟩,d.mono k2 g⟩
 | ghost=>obtain⟨e,x,y,a⟩:=r;exact⟨e,x,y,k1 _ a⟩
 | frozen l n=>obtain⟨e,a⟩:=r;exact⟨e,k1 _ a⟩
 | acc fs vs=>obtain⟨e,xs,⟨n,sl,a⟩,i,d⟩:=r;exact⟨e,xs,⟨n,sl,k1 _ a⟩,i.mono g,d.mono k2 g⟩
theorem fJ{h:Heap}:h.get? h.objs.size=none:=by
 cases q:h.get? h.objs.size with
 | none=>rfl
 | some o=>exact absurd (yB q) (yu _)
theorem Rep.grow{s:Shared}(R:Rep H0 ρ hp s)(k:∀b ob,s.heap.get? b=some ob->s'.heap.get? b=some ob)(g:AllBare s'.gens)(o:s'.os=s.os):
 Rep H0 ρ hp s'/\Step [] ρ ρ s s':=by
 have st:Step [] ρ ρ s s':=⟨⟨[],by simp,by simp[foot]⟩,λb ob e=>⟨ob,k b ob e⟩,λb ob e _ _ _=>k b ob e,o⟩;refine⟨⟨λb ob e h=>k b ob (R.old b ob e h),?_,g,R.len,λi p ob f j=>(R.obj i p ob f j).mono (λb _ o=>k b o) λv y r=>st.val R (λb l=>by cases l) r,R.apart,R.above,R.lo⟩,st⟩;obtain⟨ps,m,a,b,c,d⟩:=R.tab;exact⟨ps,m,a.keeps k,b.keeps k,k _ _ c,k _ _ d⟩
theorem Rep.push{s:Shared}(R:Rep H0 ρ hp s)(o:Obj)(T:Nat):Rep H0 ρ hp {s with heap:=s.heap.push o,toks:=T}/\Step [] ρ ρ s {s with heap:=s.heap.push o,toks:=T}:=
 R.grow (λb ob e=>zJ o e) R.gens rfl
theorem Rep.newList:∀{ρ:Rho}{hp:List O}{s:Shared}{vs:List V}{xs:List Value}(R:Rep H0 ρ hp s)(m:Al (VR s.heap ρ) vs xs)(T:Nat),
 aC H0 ρ (.ref hp.length) (hp++[.list vs]) s (.ref s.heap.objs.size) {s with heap:=s.heap.push {cls:=.type "list",data:=.seq xs.toArray},toks:=T}:=by
 exists ce5_,ρ,hp,s,vs,xs;intros;obtain⟨h,st⟩:=R.push {cls:=.type "list",data:=.seq xs.toArray} T;have n:∀b∈foot ρ,b<s.heap.objs.size:=λb c=>by obtain⟨ob,e⟩:=R.footObj c;exact yB e
 have k:foot [(s.heap.objs.size,s.heap.objs.size)]=[s.heap.objs.size]:=by simp[foot,feet]
 have g:Step [] ρ (ρ++[(s.heap.objs.size,s.heap.objs.size)]) s {s with heap:=s.heap.push {cls:=.type "list",data:=.seq xs.toArray},toks:=T}:=
  ⟨⟨[(s.heap.objs.size,s.heap.objs.size)],rfl,λb c=>by rw[k]at c;rw[zG.mp c];exact fJ⟩,st.alive,st.keep,rfl⟩
 have l:∀v y,VR s.heap ρ v y->VR (s.heap.push {cls:=.type "list",data:=.seq xs.toArray}) (ρ++[(s.heap.objs.size,s.heap.objs.size)]) v y:=λv y r=>g.val R (λb c=>by cases c) r;refine⟨_,g,⟨h.old,h.tab,h.gens,by simp[R.len],λi p ob d f=>?_,?_,λb c=>?_,h.lo⟩,?_⟩
 ·by_cases j:i<ρ.length
  ·rw[zU j]at d;rw[zU (R.len▸j)]at f;exact(R.obj i p ob d f).mono (λb _ o e=>zJ _ e) l
  ·rw[yg (yU j)]at d;rw[yg (by rw[<-R.len];exact yU j),<-R.len]at f;have:i-ρ.length=0:=by
    have:=(zh.mp d).1;simp at this;exact this
   rw[this]at d f;simp at d f
   subst d f;exact⟨⟨_,zN _ rfl⟩,xs,⟨0,zN _ rfl⟩,m.mono l⟩
 ·rw[aj,k];refine ye.mpr ⟨R.apart,by simp,λa q b c=>?_⟩;simp at c;subst c
  exact zd (n a q)
 ·rw[aj,k]at c;rcases zb.mp c with c|c
  ·exact R.above b c
  ·simp at c;subst c;exact oK R.lo.big R.low
 ·have:(ρ++[(s.heap.objs.size,s.heap.objs.size)])[hp.length]?=some (s.heap.objs.size,s.heap.objs.size):=by
   rw[<-R.len];simp
  exact VR.ref this
end
section
variable {A:Around}{s:Shared}{ρ:Rho}{st st':St}
theorem cB{i:Int}:aH i=true ↔ -bk<=i/\i<=bk:=by simp[aH]
theorem wR{i:Int}{v:V}(h:rJ i=some v):v=.int i /\ -bk<=i/\i<=bk:=ai (show(if _ then _ else none)=_ from h) λq h=>⟨(zE h).symm,cB.mp q⟩
theorem m1{x:Str}{v:V}(h:rS x=some v):v=.str x/\x.length<=lid:=ai (show(if _ then _ else none)=_ from h) λq h=>⟨(zE h).symm,q⟩
theorem be{v:V}(h:fj vs st=some (v,st')):v=.ref st.hp.length/\st'={st with hp:=st.hp++[.list vs]}/\vs.length<=lid:=ai (show(if _ then _ else none)=_ from h) λq h=>⟨(congrArg Prod.fst (zE h)).symm,(congrArg Prod.snd (zE h)).symm,q⟩
@[elab_as_elim] theorem vI{v:V}{i:Int}{P:Value->Prop}{x:Value}(e:v=.int i)(r:VR h ρ v x)(k:∀t,P (.int i t)):P x:=by
 subst e;obtain⟨t,rfl⟩:=r;exact k t
@[elab_as_elim] theorem vS{v:V}{a:Str}{P:Value->Prop}{x:Value}(e:v=.str a)(r:VR h ρ v x)(k:∀t,P (.str a t)):P x:=by
 subst e;obtain⟨t,rfl⟩:=r;exact k t
@[elab_as_elim] theorem vR{v:V}{a:Nat}{P:Value->Prop}{x:Value}(e:v=.ref a)(r:VR h ρ v x)(k:∀p,ρ[a]?=some p->P (.ref p.1)):P x:=by
 subst e;obtain⟨p,rfl,hp⟩:=r;exact k p hp
theorem eS{v:V}{a:Str}{G:Prop}{x:Value}(e:v=.str a)(r:VR h ρ v x)(k:∀t,x=.str a t->G):G:=by
 subst e;exact r.elim k
theorem eR{v:V}{a:Nat}{G:Prop}{x:Value}(e:v=.ref a)(r:VR h ρ v x)(k:∀p,x=.ref p.1->ρ[a]?=some p->G):G:=by
 subst e;exact r.elim λp h=>k p h.1 h.2
@[elab_as_elim] theorem vB{v:V}{b:Bool}{P:Value->Prop}{x:Value}(e:v=.bool b)(r:VR h ρ v x)(k:P (.bool b)):P x:=by
 subst e;cases r;exact k
@[elab_as_elim] theorem vN{v:V}{P:Value->Prop}{x:Value}(e:v=.none)(r:VR h ρ v x)(k:P .none):P x:=by
 subst e;cases r;exact k
theorem bn:lid<=sizeLine:=by decide
theorem VR.list:∀{k:Nat}{x:Value}{vs:List V}{hp:List O}(R:Rep H0 ρ hp s)(r:VR s.heap ρ (.ref k) x)(e:hp[k]?=some (.list vs)),
 ∃(p:Addr×Addr) (xs:List Value) (n:Nat),ρ[k]?=some p/\x=.ref p.1/\IsL s.heap p.1 xs.toArray n/\Al (VR s.heap ρ) vs xs/\∃ob,s.heap.get? p.2=some ob:=by
 revert s ρ;exists dI,s,ρ,k,x,vs,hp;intros;refine el12 r λ_ b a=>?_;subst b;obtain⟨c,xs,⟨n,d⟩,f⟩:=R.obj k _ _ a e;exact⟨_,xs,n,a,rfl,d,f,c⟩
noncomputable def opOf:Bop->Operator
 | .add=>.Add|.sub=>.Sub|.fdiv=>.FloorDiv|.mod=>.Mod
theorem FB{o:Bop}(h:xV op=some o):op=opOf o:=by
 cases op<;>cases h<;>rfl
theorem kx:∀{v:V}{i:Int}(R:Rep H0 ρ st.hp s)(h:(rJ i).map (·,st)=some (v,st'))(t:Tok),aC H0 ρ v st'.hp s (.int i t) {s with toks:=s.toks+1}/\st'.loc=st.loc:=by
 revert s ρ st st';exists dI,s,ρ,st,st',v,i;intro R h t;exact(mE h λu a e=>by
 cases e;obtain⟨rfl,_⟩:=wR a;exact⟨aC.here R rfl rfl rfl (.int _ _),rfl⟩)
theorem xu:∀{m o v:V}{r u:Value}(h:wt m o st=some (v,st'))(R:Rep H0 ρ st.hp s)(f:VR s.heap ρ m r)(g:VR s.heap ρ o u),
 wpAny (model pw w) A (binaryOp .Add r u) (λy s'=>aC H0 ρ v st'.hp s y s'/\st'.loc=st.loc) noE s:=by
 revert A s ρ st st';exists ce10_,A,s,ρ,st,st',m,o,v,r,u;intro h R f g;exact(addE h (λi j c d h=>vI c f λ_=>vI d g λ_=>add_int (kx R h _)) (λa b c d B e=>vS c f λ_=>vS d g λ_=>by
  subst e;obtain⟨rfl,x⟩:=m1 B;refine add_str (λt G=>⟨aC.here R rfl rfl rfl (.str _ _),rfl⟩) ?_;rw[<-Str.length_append];exact zB x bn) λk l a b c d C D h=>by
  obtain⟨rfl,rfl,x⟩:=be h;refine qP (VR.list R (c▸f) C) λp xs n _ q E ax _=>?_;subst q;refine qP (VR.list R (d▸g) D) λp xs n _ q F z _=>?_;subst q;refine P.add_list E F ⟨?_,rfl⟩ ?_
  ·have:=R.newList (ax.append z) s.toks;simpa using this
  ·rw[ze,ze,<-ax.length,<-z.length,<-zF];exact zB x bn)
theorem wT:∀{op:Operator}{o:Bop}{a d v:V}{e f:Value}(g:xV op=some o)(h:km o a d st=some (v,st'))(R:Rep H0 ρ st.hp s)(b:VR s.heap ρ a e)(c:VR s.heap ρ d f),
 wpAny (model pw w) A (binaryOp op e f) (λy s'=>aC H0 ρ v st'.hp s y s'/\st'.loc=st.loc) noE s:=by
 revert A s ρ st st';exists b5,A,s,ρ,st,st',op,o,a,d,v,e,f;intros;obtain rfl:=FB g;cases o with
 | add=>exact xu h R b c
 | sub=>exact bE (show(bW a).bind _=_ from h) λi _ h=>bE h λj _ h=>vI i.2 b λ_=>vI j.2 c λ_=>sub_int (kx R h _)
 | fdiv=>exact bE (show(bW a).bind _=_ from h) λi _ h=>bE h λj _ h=>vI i.2 b λ_=>vI j.2 c λ_=>ai h λk h=>floordiv_int (Int.ne_of_gt k.1) (kx R h _) (.inl (PyProof.noPylong_small (by lia)))
 | mod=>exact bE (show(bW a).bind _=_ from h) λi _ h=>bE h λj _ h=>vI i.2 b λ_=>vI j.2 c λ_=>ai h λk h=>mod_int' (Int.ne_of_gt k) (kx R h _)
theorem wv{i:Int}{x:Value}(R:Rep H0 ρ st.hp s)(r:VR s.heap ρ (.int i) x):wpAny (model pw w) A (unaryOp .USub x) (λy s'=>aC H0 ρ (.int (-i)) st.hp s y s'/\st.loc=st.loc) noE s:=by
 obtain⟨_,rfl⟩:=r;exact neg_int ⟨aC.here R rfl rfl rfl (.int _ _),rfl⟩
theorem eP:∀{i:Int}{n j:Nat}(h:bl i n=some j),aH i=true/\j<n/\((0<=i/\j=i.toNat)\/(i<0 /\ -(n:Int)<=i/\j=(i+n).toNat)):=by
 exists ce3_,i,n,j;intro h;unfold bl at h;by_cases a:aH i=false
 ·rw[if_pos a]at h;exact no h
 ·rw[if_neg a]at h;refine⟨(Bool.not_eq_false _).mp a,?_⟩;by_cases b:0<=i
  ·rw[if_pos b]at h;exact ai h λc e=>by cases e;exact⟨by lia,.inl ⟨b,rfl⟩⟩
  ·rw[if_neg b]at h;exact ai h λc e=>by cases e;exact⟨by lia,.inr ⟨by lia,c,rfl⟩⟩
theorem kM:∀{i:Int}{n j:Nat}(h:bl i n=some j),seqIndex? i n=some j /\ -(2 ^ 63)<=i/\i<2 ^ 63:=by
 exists ce3_,i,n,j;intro h;obtain⟨d,f,q⟩:=eP h;obtain⟨a,b⟩:=cB.mp d;unfold bk at a b;refine⟨?_,jg (by decide) a,Int.lt_of_le_of_lt b (by decide)⟩;rcases q with ⟨c,rfl⟩|⟨c,e,rfl⟩
 ·unfold seqIndex?;split<;>simp_all<;>lia
 ·exact seqIndex_neg c e
end
end Mine
namespace Mine
open PySem PySem.Calls PyProof.Rows PySem.W PySem.SeqAt
section
variable {A:Around}{s:Shared}{ρ:Rho}{st st':St}{n m:Nat}
theorem VR.tupI{l:List bj}{x:Value}(r:VR s.heap ρ (.tup l) x):∃(a:Addr) (xs:List Value),x=.ref a/\IsTup s.heap a xs.toArray/\Al AR l xs:=by
 refine cu r λ_ b h _=>?_;subst b
 ·refine el12 h λxs c d=>?_;exact qW _ xs rfl c d
theorem sG{b:Str}:∀{l:List bj}{xs:List Value},Al AR l xs->(xs.any λy=>match y with|.str a _=>a==b|_=>false)=l.contains (.str b)
 | _,_,.nil=>rfl
 | _,_,.cons h t=>by
  refine List.any_cons.trans ?_;simp only[(sG (b:=b) t),ub];cases h with
  | int i t=>rfl
  | str x t=>
   have:(x==b)=(bj.str b==bj.str x):=by
    refine Decidable.byCases (λc:x=b=>?_) λc=>?_
    ·subst c;simp
    ·have d:¬b=x:=λe=>c e.symm;simp only[beq_eq_false_iff_ne.mpr c,beq_eq_false_iff_ne.mpr (λe=>d (bj.str.inj e):¬bj.str b=bj.str x)]
   refine(?_:((x==b)||_)=_);simp only[this]
theorem Fv{l:List bj}{b:Str}{x:Value}(r:VR s.heap ρ (.tup l) x){Q:Value->Shared->Prop}(h:Q (.bool (l.contains (.str b))) s):
 wpAny (model pw w) A (compareOp .In (.str b t) x) Q noE s:=by
 obtain⟨a,xs,rfl,f,d⟩:=r.tupI;have e:=sG (b:=b) d;refine in_tupleAt (λy=>match y with|.str a _=>a==b|_=>false) f (λy g=>?_) ?_
 ·obtain⟨i,j,e⟩:=List.getElem_of_mem (by simpa using g:y∈xs);obtain⟨c,_,k⟩:=d.getR (i:=i) (b:=y) (by rw[zP j,e]);cases k with
  | int i t=>exact EqAt.int_str _ _ _ _
  | str x t=>exact EqAt.str_str _ _ _ _
 ·simp only[List.any_toArray];rw[e];exact h
theorem xw{l:List bj}{b:Str}{x:Value}(r:VR s.heap ρ (.tup l) x){Q:Value->Shared->Prop}(h:Q (.bool (!l.contains (.str b))) s):
 wpAny (model pw w) A (compareOp .NotIn (.str b t) x) Q noE s:=by
 obtain⟨a,xs,rfl,f,d⟩:=r.tupI;have e:=sG (b:=b) d;refine notIn_tupleAt (λy=>match y with|.str a _=>a==b|_=>false) f (λy g=>?_) ?_
 ·obtain⟨i,j,e⟩:=List.getElem_of_mem (by simpa using g:y∈xs);obtain⟨c,_,k⟩:=d.getR (i:=i) (b:=y) (by rw[zP j,e]);cases k with
  | int i t=>exact EqAt.int_str _ _ _ _
  | str x t=>exact EqAt.str_str _ _ _ _
 ·simp only[List.any_toArray];rw[e];exact h
set_option tactic.hygienic true in
theorem pI:∀{a b:Str}{r:Bool}(h:AO a b=some r),r = !(Builtin.Str.occurrences b a 0 b.length 1).isEmpty:=by
 exists ce3_,a,b,r;intro h;exact(mE h λc _ e=>by
 obtain⟨c,hc⟩:=c;have:a=⟨#[c]⟩:=by
  cases a;rename_i cps;have:=congrArg List.toArray hc;simpa using this
 subst e this;simp only[StrLaws.found_one];simp[uM])
theorem nY{a:Type}[DecidableEq a](l m:List a):((yS (min l.length m.length)).all (λj=>decide (l[j]?=m[j]?))&&l.length==m.length)=(l==m):=by
 rw[uM,yN,beq_iff_eq,beq_iff_eq,yD];constructor
 ·rintro⟨c,d⟩;apply uq;intro i;by_cases b:i<l.length
  ·exact of_decide_eq_true (c i (jn.mpr (by lia)))
  ·refine(yr (yU b)).trans ?_;rw[yr (fk2 (eqg d) (yU b))]
 ·rintro rfl;exact⟨λ_ _=>by simp,rfl⟩
theorem nc:∀{A:Around}{s:Shared}{l m:List bj}{xs ys:List Value}(k:Al AR l xs)(c:Al AR m ys)(o:kS l=true)(p:kS m=true),
 ∀j (d:j<xs.toArray.size) (f:j<ys.toArray.size),EqAt A s xs.toArray[j] ys.toArray[j] (decide (l[j]?=m[j]?)):=by
 exists dI,A,s,l,m,xs,ys;intro k c o p;have q:∀{l:List bj},kS l=true->∀{j:Nat}{a:bj},l[j]?=some a->∃x,a=.str x:=λ{l} h {j a} B=>by
  have:=yD.mp h a (yT B);cases a with
  | int=>cases this
  | str x=>exact⟨x,rfl⟩
 intro j d f;simp only[ze]at d f;simp only[List.getElem_toArray];refine el12 (k.getR (i:=j) (zP d)) λa r t=>?_;refine el12 (c.getR (i:=j) (zP f)) λb w z=>?_;obtain⟨x,rfl⟩:=q o r;obtain⟨y,rfl⟩:=q p w;simp only[r,w];generalize xs[j]=v at t;generalize ys[j]=u at z;obtain⟨_,rfl⟩:=t;obtain⟨_,rfl⟩:=z;have:decide (some (bj.str x)=some (bj.str y))=(x==y):=by
  by_cases g:x=y
  ·subst g;simp
  ·have:¬some (bj.str x)=some (bj.str y):=λe=>g (bj.str.inj (zE e));refine(decide_eq_false this).trans ?_;rw[beq_eq_false_iff_ne.mpr g]
 simp only[this];exact EqAt.str_str _ _ _ _
theorem pn:∀{B C:V}{c:Bool}{t u:Value}{Q:Value->Shared->Prop}(d:eqV B C st=some c)(R:Rep H0 ρ st.hp s)(v:VR s.heap ρ B t)(x:VR s.heap ρ C u)(o:A.units+2<cLine),
 (Q (.bool c) s->wpAny (model pw w) A (compareOp .Eq t u) Q noE s)/\(Q (.bool (!c)) s->wpAny (model pw w) A (compareOp .NotEq t u) Q noE s):=by
 revert A s ρ st;exists ce10_,A,s,ρ,st,B,C,c,t,u,Q;intros;refine bo d (λd=>bE d λi _ d=>mE d λj _ e=>vI i.2 v λ_=>vI j.2 x λ_=>e▸⟨λq=>eq_int q,λq=>ne_int q⟩) λd=>
  bo d (λd=>bE d λi _ d=>mE d λj _ e=>vS i.2 v λ_=>vS j.2 x λ_=>e▸⟨λq=>PyProof.Rows.eq_str q,λq=>PyProof.Rows.ne_str q⟩) λd=>
  bo d (λd=>bE d λl _ d=>bE d λH _ d=>ai d λe d=>?_) λd=>bE d λk _ d=>bE d λl _ d=>bE d λa _ d=>bE d λb _ d=>ai d λL d=>?_
 ·refine(zE d)▸?_;obtain⟨I,J⟩:=yN.mp e;refine bY (VR.tupI (l.2▸v)) λa xs f K D=>?_;subst f;refine bY (VR.tupI (H.2▸x)) λM ys f r g=>?_;subst f;have E:=nY l.1 H.1;simp only[D.length,g.length]at E;exact⟨λq=>RcAt.tuples K r (zu (zW ..) o) (nc D g I J) pw w noE Q (by simp only[ze];exact E▸q),
   λq=>RcNeAt.tuples K r (zu (zW ..) o) (nc D g I J) pw w noE Q (by simp only[ze];exact E▸q)⟩
 ·refine(zE d)▸?_;refine qP (VR.list R (k.2▸v) a.2) λp xs n _ h y ax _=>?_;subst h;refine qP (VR.list R (l.2▸x) b.2) λq ys N _ h z F _=>?_;subst h
  replace F:=(List.isEmpty_iff.mp L)▸F
  cases F.nil_inv;generalize a.1=a at ax;cases ax with
  | nil=>
   exact⟨λq=>RcAt.lists ⟨_,y,rfl,_,rfl⟩ ⟨_,z,rfl,_,rfl⟩ rfl (zu (zW ..) o) (e:=λ_=>true) (λj G=>absurd G (Nat.not_lt_zero _)) pw w noE Q q,
    λq=>RcNeAt.lists ⟨_,y,rfl,_,rfl⟩ ⟨_,z,rfl,_,rfl⟩ rfl (zu (zW ..) o) (e:=λ_=>true) (λj G=>absurd G (Nat.not_lt_zero _)) pw w noE Q q⟩
  | cons=>
   exact⟨λq=>RcAt.lists_lengths ⟨_,y,rfl,_,rfl⟩ ⟨_,z,rfl,_,rfl⟩ rfl (zu (zW ..) o) pw w noE Q q,
    λq=>RcNeAt.lists_lengths ⟨_,y,rfl,_,rfl⟩ ⟨_,z,rfl,_,rfl⟩ rfl (zu (zW ..) o) pw w noE Q q⟩
theorem pj:∀{k f:V}{c:Bool}{g h:Value}{Q:Value->Shared->Prop}(SO:gr w H0)(d:inV k f=some c)(o:VR s.heap ρ k g)(j:VR s.heap ρ f h)(p:s.heap.get? 212=H0.get? 212),
 ((∀T,Q (.bool c) {s with toks:=T})->wpAny (model pw w) A (compareOp .In g h) Q noE s)/\((∀T,Q (.bool (!c)) {s with toks:=T})->(∀t,f≠.top t)->wpAny (model pw w) A (compareOp .NotIn g h) Q noE s):=by
 revert A s ρ;exists cc,A,s,ρ,k,f,c,g,h,Q;intros;refine bo d (λd=>bE d λa _ d=>vS a.2 o λ_=>bo d (λd=>bE d λb _ d=>vS b.2 j λ_=>?_) λd=>mE d λl _ e=>e▸⟨λq=>Fv (l.2▸j) (q s.toks),λq _=>xw (l.2▸j) (q s.toks)⟩)
  λd=>bE d λi _ d=>bE d λt _ d=>ai d λr d=>?_
 ·refine(zE d)▸?_;have u:f=.top 0:=t.2.trans (congrArg V.top r);subst u;subst j;exact vI i.2 o λ_=>⟨λq=>SO s A _ _ Q p (q _),λq e=>absurd rfl (e 0)⟩
 ·refine(pI d)▸?_;exact⟨λq=>PyProof.Rows.in_str (q s.toks),λq _=>PyProof.Rows.notIn_str (q s.toks)⟩
theorem pf:∀{d g:V}{b:Bool}{a f:Value}{Q:Value->Shared->Prop}(c:isV d g=some b)(i:VR s.heap ρ d a)(o:VR s.heap ρ g f),
 (Q (.bool b) s->wpAny (model pw w) A (compareOp .Is a f) Q noE s)/\(Q (.bool (!b)) s->wpAny (model pw w) A (compareOp .IsNot a f) Q noE s):=by
 revert A s ρ;exists cc,A,s,ρ,d,g,b,a,f,Q;intros;exact(bE c λj _ c=>by
 have j:=j.1;subst j;subst o;have l:PySem.plainIs a .none=true/\a≠.none->some false=some b->(Q (.bool b) s->wpAny (model pw w) A (compareOp .Is a .none) Q noE s)/\(Q (.bool (!b)) s->wpAny (model pw w) A (compareOp .IsNot a .none) Q noE s):=λh e=>by
  cases e;exact⟨λq=>wpAny_is_other h.1 h.2 q,λq=>wpAny_isNot_other h.1 h.2 q⟩
 cases d with
 | none=>cases c;subst i;exact⟨λq=>wpAny_is_self rfl q,λq=>wpAny_isNot_self rfl q⟩
 | str|int=>obtain⟨_,rfl⟩:=i;exact l ⟨rfl,λe=>by cases e⟩ c
 | ref=>refine el12 i λ_ k _=>?_;subst k;exact l ⟨rfl,λe=>by cases e⟩ c
 | _=>exact no c)
theorem ix{f:Int->Int->Bool}{b:Bool}(e:ltV f v1 v2=some b)(a:VR h ρ v1 x1)(c:VR h ρ v2 x2){G:Bool->Value->Value->Prop}(k:∀i j t u,G (f i j) (.int i t) (.int j u)):G b x1 x2:=
 bE e λi _ e=>mE e λj _ e=>e▸vI i.2 a λ_=>vI j.2 c λ_=>k _ _ _ _
theorem m0:∀{op:CmpOp}{k l:V}{b:Bool}{a d:Value}{Q:Value->Shared->Prop}(SO:gr w H0)(h:fP op k l st=some b)(R:Rep H0 ρ st.hp s)(f:VR s.heap ρ k a)(g:VR s.heap ρ l d)(u:bt A n m)(r:s.heap.get? 212=H0.get? 212)(p:∀T,Q (.bool b) {s with toks:=T}),
 wpAny (model pw w) A (compareOp op a d) Q noE s:=by
 revert A s ρ st n m;exists ce13_,A,s,ρ,st,n,m,op,k,l,b,a,d,Q;intros;have t:A.units+2<cLine:=by have:=u.units;unfold cLine;exact fk1 this
 have q:Q (.bool b) s:=p s.toks;cases op with
 | Eq=>exact(pn h R f g t).1 q
 | NotEq=>exact mE (h:(eqV k l st).map _=_) λc o e=>by subst e;exact(pn o R f g t).2 q
 | In=>exact(pj SO h f g r).1 p
 | NotIn=>exact dl (h:(if _ then none else _)=_) (λ_ h=>no h) λv h=>mE h λc o e=>by subst e;exact(pj SO o f g r).2 p λ_ e=>by subst e;exact v rfl
 | Is=>exact(pf h f g).1 q
 | IsNot=>exact mE (h:(isV k l).map _=_) λc o e=>by subst e;exact(pf o f g).2 q
 | Lt=>exact ix (G:=λb a d=>Q (.bool b) s->wpAny (model pw w) A (compareOp .Lt a d) Q noE s) (show ltV (λi j=>decide (i<j)) k l=_ from h) f g (λ_ _ _ _ q=>lt_int q) q
 | LtE=>exact ix (G:=λb a d=>Q (.bool b) s->wpAny (model pw w) A (compareOp .LtE a d) Q noE s) (show ltV (λi j=>decide (i<=j)) k l=_ from h) f g (λ_ _ _ _ q=>le_int q) q
 | Gt=>exact ix (G:=λb a d=>Q (.bool b) s->wpAny (model pw w) A (compareOp .Gt a d) Q noE s) (show ltV (λi j=>decide (j<i)) k l=_ from h) f g (λ_ _ _ _ q=>gt_int q) q
 | GtE=>exact ix (G:=λb a d=>Q (.bool b) s->wpAny (model pw w) A (compareOp .GtE a d) Q noE s) (show ltV (λi j=>decide (j<=i)) k l=_ from h) f g (λ_ _ _ _ q=>ge_int q) q
end
section
variable {A:Around}{s:Shared}{ρ:Rho}{st st':St}{n m:Nat}
theorem Br(a:Expr)(o i:Value):∃b,subscripted a false o i=operate b (getItem o i):=by
 cases a with
 | Slice c d st p=>cases st with
  | none=>exact⟨_,rfl⟩
  | some=>exact⟨_,rfl⟩
 | _=>exact⟨_,rfl⟩
theorem ol{b a:Expr}{o i:Value}{T id:String}{Q:Value->Shared->Prop}(c:s.TypeIs o T)(d:typeLookup (.type T) "__getitem__"=pure (some (.builtin id)))
 (h:wpAny (model pw w) A (getItem o i) Q noE s):wpAny (model pw w) A (subscriptTail b a o i) Q noE s:=by
 unfold subscriptTail getitemInPython;refine zA (zA (uh c d ?_));refine zD ?_;obtain⟨f,e⟩:=Br a o i;rw[e];exact zA (wpAny_operating (zQ h (λv s' q=>zA (wpAny_letTemporaryGo (zD q))) λ_ _ e=>e))
noncomputable def ky(H0:Heap)(w:World):Prop:=∀(A:Around)(s:Shared)(ρ:Rho)(hp:List O)(n m:Nat)(p:Addr×Addr)(k:Nat)(fs:List (Str×V))(vs:List V)(i:Int)(t:Tok)(j:Nat)(v:V)(a b:Expr)(Q:Value->Shared->Prop),
 bt A n m->Rep H0 ρ hp s->ρ[k]?=some p->hp[k]?=some (.acc fs vs)->bl i vs.length=some j->vs[j]?=some v->(∀y,VR s.heap ρ v y->Q y s)->
  wpAny (model pw w) A (subscriptTail a b (.ref p.1) (.int i t)) Q noE s
theorem oV{a:bj}{x:Value}(r:AR a x):VR h ρ (ofA a) x:=by
 cases r with
 | int i t=>exact .int i t
 | str s t=>exact .str s t
theorem sK(AI:ky H0 w){a b:Expr}{I J v:V}{K L:Value}(h:dp I J st=some v)(R:Rep H0 ρ st.hp s)(B:VR s.heap ρ I K)(D:VR s.heap ρ J L)(U:bt A n m)
 {Q:Value->Shared->Prop} (g:∀y T,VR s.heap ρ v y->Q y {s with toks:=T}):
 wpAny (model pw w) A (subscriptTail a b K L) Q noE s:=by
 refine EG h (λi k o vs j r M N W d O=>?_) (λi l j c r X d E e=>?_) λi x j c r ex d E e=>?_
 ·refine vI r D λt=>?_;rcases W with rfl|⟨fs,rfl⟩
  ·refine qP (VR.list R (M▸B) N) λp xs n _ q F ax _=>?_;subst q;refine el12 (ax.get O) λy C f=>?_;have G:s.heap.IsList p.1 xs.toArray:=⟨_,F,rfl,_,rfl⟩;refine ol G.typeIs slot_list_getitem.lookup ?_;obtain⟨_,u,z⟩:=kM d;obtain⟨_,Y,q⟩:=eP d;rcases q with ⟨H,rfl⟩|⟨H,Z,rfl⟩
   ·exact wpAny_getItem_list G H z (by simpa using C) (g _ s.toks f)
   ·have e:xs.toArray.size=vs.length:=by simp[ax.length]
    exact wpAny_getItem_list_neg G H (by rw[e];exact Z) u (by rw[e];simpa using C) (g _ s.toks f)
  ·exact vR M B λp hp=>AI A s ρ _ n m p k fs vs i t j v a b Q U R hp N d O λy f=>g y s.toks f
 ·subst e;refine vI r D λt=>?_;refine bY (VR.tupI (X▸B)) λa' xs q P S=>?_;subst q;refine el12 (S.get E) λy C f=>?_;refine ol P.typeIs slot_tuple_getitem.lookup ?_;obtain⟨e,u,z⟩:=kM d;exact getItem_tuple P u z (by rw[ze,<-S.length];exact e) (by simpa using C) (g _ s.toks (oV f))
 ·subst e;refine vI r D λt=>vS ex B λ_=>ol (T:="str") (id:="str.__getitem__") rfl slot_str_getitem.lookup ?_;obtain⟨e,u,z⟩:=kM d;refine getItem_str (by simp;exact⟨u,z⟩) (c:=c) ?_ (g _ (s.toks+1) (.str _ _));show((seqIndex? i x.cps.size).bind _)=_
  rw[e];exact E
end
section
variable {F:Fs}{n m:Nat}{sc:Scope}
theorem Step.nilVal{s:Shared}(x:Step [] ρ ρ' s s')(R:Rep H0 ρ hp s){v:V}{y:Value}(r:VR s.heap ρ v y):VR s'.heap ρ' v y:=x.val R (λb a=>by cases a) r
theorem SE.use{e:Expr}{x:X}(h:SE H0 w F n m sc e x)(T:Top H0){A:Around}{env:Env}{s:Shared}{ρ:Rho}{st:St}{v:V}{b:St}(d:bt A n m)(f:aN env sc)(R:Rep H0 ρ st.hp s)(l:ah H0 s.heap ρ env.locals st.loc)
 (g:ev F x st=some (v,b)) {Q:Value->Shared->Prop} (k:∀y s1 a,Step [] ρ a s s1->Rep H0 a b.hp s1->VR s1.heap a v y->ah H0 s1.heap a env.locals b.loc->b.loc=st.loc->Q y s1):
 wpAny (model pw w) A (eval e env) Q noE s:=
 zQ (h A env s ρ st v b d f R l g) (λy s1 ⟨⟨a,x,i,r⟩,c⟩=>k y s1 a x i r (by rw[c];exact l.step x R T.size) c) λ_ _ e=>e
theorem SB.use{e:Expr}{x:X}(h:SB H0 w F n m sc e x)(T:Top H0){A:Around}{env:Env}{s:Shared}{ρ:Rho}{st:St}{b:Bool}{a:St}(f:bt A n m)(g:aN env sc)(R:Rep H0 ρ st.hp s)(l:ah H0 s.heap ρ env.locals st.loc)
 (i:evT F x st=some (b,a)) {Q:Bool->Shared->Prop} (k:∀s1 c,Step [] ρ c s s1->Rep H0 c a.hp s1->ah H0 s1.heap c env.locals a.loc->a.loc=st.loc->Q b s1):
 wpAny (model pw w) A (PySem.isTrue e env (eval e env)) Q noE s:=
 zQ (h A env s ρ st b a f g R l i) (λy s1 ⟨j,⟨c,x,o⟩,d⟩=>by subst j;exact k s1 c x o (by rw[d];exact l.step x R T.size) d) λ_ _ e=>e
noncomputable def SEs(H0:Heap)(w:World)(F:Fs)(n m:Nat)(sc:Scope)(es:List Expr)(xs:List X):Prop:=
 ∀(A:Around)(env:Env)(s:Shared)(ρ:Rho)(st:St)(vs:List V)(a:St)(pos:Pos),bt A n m->aN env sc->Rep H0 ρ st.hp s->ah H0 s.heap ρ env.locals st.loc->evs F xs st=some (vs,a)->
  wpAny (model pw w) A (spliced (backTo pos (starEach es env))) (λys s'=>∃b,Step [] ρ b s s'/\Rep H0 b a.hp s'/\Al (VR s'.heap b) vs ys/\ah H0 s'.heap b env.locals a.loc/\a.loc=st.loc) noE s
noncomputable def cg(e:Expr):Bool := !(e.ctorIdx==22)
theorem cG{e:Expr}(h:cg e=true):starEach (e::rest) env=(false,eval e env)::starEach rest env:=by
 cases e<;>first|rfl|cases h
theorem SEs.nil:SEs H0 w F n m sc [] []:=λA env s ρ st vs a pos c d R l b=>by
 cases(show some _=_ from b);exact wpAny_items_nil ⟨ρ,Step.refl _ _ _,R,.nil,l,rfl⟩
theorem SEs.cons{e:Expr}{x:X}{xs:List X}(T:Top H0)(hp:cg e=true)(h:SE H0 w F n m sc e x)(t:SEs H0 w F n m sc es xs):SEs H0 w F n m sc (e::es) (x::xs):=λA env s ρ st vs p pos i j R l b=>by
 refine bP b λv st1 q b=>?_;refine mP b λr c u b=>?_;cases b;refine wpAny_items_cons (h.use T i j R l q λy s1 d z k B C D=>?_) (cG hp);refine zQ (t A env s1 d st1 r c pos i j k C u) (λys s2 a=>ws a λf o E G l2 g=>?_) λ_ _ e=>e;exact⟨f,z.trans o,E,.cons (o.nilVal k B) G,l2,g.trans D⟩
theorem Ct{k pos}:SE H0 w F n m sc (.Constant .none k pos) .none:=λA env s ρ st v a c d R l b=>by
 cases(show some _=_ from b);exact wpAny_Constant_none ⟨aC.here R rfl rfl rfl .none,rfl⟩
theorem CD{b k pos}:SE H0 w F n m sc (.Constant (.bool b) k pos) (.bool b):=λA env s ρ st v a d e R l c=>by
 cases(show some _=_ from c);exact wpAny_Constant_bool ⟨aC.here R rfl rfl rfl (.bool _),rfl⟩
theorem BX{i k pos}:SE H0 w F n m sc (.Constant (.int i) k pos) (.int i):=λA env s ρ st v a c d R l b=>by
 cases(show some _=_ from b);exact wpAny_Constant_int ⟨aC.here R rfl rfl rfl (.int _ _),rfl⟩
theorem rA{x k pos}:SE H0 w F n m sc (.Constant (.str x) k pos) (.str x):=λA env s ρ st v a c d R l b=>by
 cases(show some _=_ from b);exact wpAny_Constant_str ⟨aC.here R rfl rfl rfl (.str _ _),rfl⟩
theorem dE{x:Str}(h:ap sc x=true):sc.names.lookup x=some .local/\(x==("__debug__":Str))=false:=by
 unfold ap at h;obtain⟨a,b⟩:=yN.mp h;exact⟨beq_iff_eq.mp a,by simpa[nm] using b⟩
theorem cA{x:Str}(h:bx sc x=true):sc.names.lookup x=some .globalImplicit/\(x==("__debug__":Str))=false:=by
 unfold bx at h;obtain⟨a,b⟩:=yN.mp h;exact⟨beq_iff_eq.mp a,by simpa[nm] using b⟩
theorem aN.loc(a:aN env sc){x:Str}(h:sc.names.lookup x=some .local):env.kindOf x=some .local:=by
 unfold Env.kindOf;rw[a.names];exact h
theorem oi:∀{x:Str}{pos:Pos}(a:ap sc x=true),SE H0 w F n m sc (.Name x pos) (.var x):=by
 revert F n m sc;exists dI,F,n,m,sc,x,pos;intro a;exists bK,A,env,s,ρ,st,v,d;intro i c R l b;refine mE b λu e b=>?_;cases b;obtain⟨_,_,j,f,g⟩:=l;obtain⟨y,h,r⟩:=g x _ e;exact wpAny_Name (jU c.kind (c.loc (dE a).1) f h ⟨aC.here R rfl rfl rfl r,rfl⟩) (dE a).2
theorem FZ{l r:Expr}{o:Bop}{a b:X}(T:Top H0)(q:xV op=some o)(t:SE H0 w F n m sc l a)(x:SE H0 w F n m sc r b):SE H0 w F n m sc (.BinOp l op r pos) (.bin o a b):=λA env s ρ st v B h i R C d=>by
 refine bP d λP st1 D d=>?_;refine bP d λQ E G d=>?_;refine wpAny_BinOp (t.use T h i R C D λy s1 H I j J K f=>x.use T h i j K G λz s2 L k M N l2 g=>?_);exact zQ (wT q d M (k.nilVal j J) N) (λu s3 c=>aA c λp O=>⟨(p.after (I.trans k)),O.trans (g.trans f)⟩) λ_ _ e=>e
theorem Gg{e:Expr}{a:X}(T:Top H0)(f:SE H0 w F n m sc e a):SE H0 w F n m sc (.UnaryOp .USub e pos) (.neg a):=λA env s ρ st v g h j R k c=>by
 refine bP c λx st1 l c=>?_;refine mE c λi _ c=>?_;cases c;refine wpAny_UnaryOp (f.use T h j R k l λy s1 o q r t z d=>?_);exact zQ (wv r (i.2▸t)) (λu s3 b=>aA b λp B=>⟨p.after q,d⟩) λ_ _ e=>e
theorem DH{a i:Expr}(T:Top H0)(AI:ky H0 w)(k:SE H0 w F n m sc a xa)(l:SE H0 w F n m sc i xi):SE H0 w F n m sc (.Subscript a i pos) (.item xa xi):=λA env s ρ st v o c f R p b=>by
 refine bP b λJ st1 q b=>?_;refine bP b λK t x b=>?_;refine mE b λu B b=>?_;cases b;refine Subscript_ (k.use T c f R p q λy s1 C D g E G d=>l.use T c f g G x λz s2 H h j I l2 e=>?_);exact sK AI B j (h.nilVal g E) I c λu T r=>⟨(aC.here (s':={s2 with toks:=T}) j rfl rfl rfl r).after (D.trans h),e.trans d⟩
theorem Gh{xs:List X}(h:SEs H0 w F n m sc es xs):SE H0 w F n m sc (.List es pos) (.lst xs):=λA env s ρ st v d f g R i b=>by
 refine bP b λvs st1 j b=>?_;obtain⟨rfl,rfl,k⟩:=be b;refine wpAny_List_spliced (zQ (h A env s ρ st vs st1 pos f g R i j) (λys s1 a=>ws a λl o p c r q=>⟨?_,?_,q⟩) λ_ _ e=>e)
 ·have:=bn;rw[<-c.length];exact zB k this
 ·exact(p.newList c s1.toks).after o
theorem lO:∀{xs:List X}{st a:St}{vs:List V},evs F xs st=some (vs,a)->vs.length=xs.length
 | [],st,a,vs,h=>by cases(show some _=_ from h);rfl
 | x::xs,st,a,vs,h=>by
  refine bE h λp _ h=>?_;refine mP h λc b e h=>?_;cases h;exact congrArg (· + 1) (lO e)
theorem qy:∀{vs:List V}{l:List bj}{h:Heap}{ρ:Rho}{ys:List Value},dA toA vs=some l->Al (VR h ρ) vs ys->Al AR l ys
 | [],l,h,ρ,ys,e,al=>by obtain rfl:=zE e;rw[al.nil_inv];exact .nil
 | v::vs,l,h,ρ,ys,e,al=>by
  refine bE (show(toA v).bind _=_ from e) λa d e=>?_;refine mE e λj f e=>?_;subst e;refine bY al.cons_inv λy g b r c=>?_;subst b;exact .cons (bo d (λh=>mE h λi _ e=>e▸vI i.2 r λt=>.int _ t) (λh=>mE h λi _ e=>e▸vS i.2 r λt=>.str _ t)) (qy f c)
theorem Bp{xs:List X}{k:Nat}(i:xs.length<=100)(h:SEs H0 w F n m sc es xs):SE H0 w F n m sc (.Tuple es k pos) (.tup xs):=λA env s ρ st v j o p R r b=>by
 refine bP b λvs st1 d b=>?_;refine mE b λl t b=>?_;cases b;refine wpAny_Tuple_spliced (zQ (h A env s ρ st vs st1 pos o p R r d) (λys s1 a=>ws a λc u f g C x=>⟨?_,?_,x⟩) λ_ _ e=>e)
 ·have:=lO d;have y:(100:Nat)<=sizeLine:=by decide
  rw[<-g.length];exact fk3 i (zS this) y
 ·refine aA (f.push {cls:=.type "tuple",data:=.seq ys.toArray} s1.toks) λz B=>?_;exact⟨c,u.trans B,z,.tup ⟨ys,⟨_,zN _ rfl,rfl,_,rfl⟩,qy t g⟩ λq=>by obtain⟨ob,e⟩:=f.footObj q;exact absurd (yB e) (yu _)⟩
end
structure AC (H0:Heap) (w:World) (F:Fs) (n:Nat):Prop where
 item:ky H0 w
 truth:∀(A:Around)(s:Shared)(ρ:Rho)(hp hp':List O)(m:Nat)(p:Addr×Addr)(k:Nat)(fs:List (Str×V))(vs:List V)(i:Int)(Q:Bool->Shared->Prop),
  bt A n m->Rep H0 ρ hp s->ρ[k]?=some p->hp[k]?=some (.acc fs vs)->F 24 [.ref k] hp=some (.int i,hp')->0<=i->aH i=true->
  (∀s' ρ',Step [] ρ ρ' s s'->Rep H0 ρ' hp' s'->Q (i != 0) s')->wpAny (model pw w) A (truthy (.ref p.1)) Q noE s
section
variable {F:Fs}{n m:Nat}{sc:Scope}
theorem Rep.toks{s:Shared}(R:Rep H0 ρ hp s)(T:Nat):Rep H0 ρ hp {s with toks:=T}:=R.at rfl rfl
theorem Step.toks{s:Shared}(T:Nat):Step Ls ρ ρ s {s with toks:=T}:=Step.at rfl rfl
theorem dY:∀{A:Around}{s:Shared}{ρ:Rho}{st a:St}{v:V}{x:Value}{b:Bool}{Q:Bool->Shared->Prop}(AI:AC H0 w F n)(h:a7 F v st=some (b,a))(R:Rep H0 ρ st.hp s)(r:VR s.heap ρ v x)(o:bt A n m)(f:∀s' c,Step [] ρ c s s'->Rep H0 c a.hp s'->a.loc=st.loc->Q b s'),
 wpAny (model pw w) A (truthy x) Q noE s:=by
 revert F n m;exists b5,F,n,m,A,s,ρ,st,a,v,x,b,Q;intros;refine Fp h (λev e=>?_) (λi ev d e=>?_) (λg ev j d e=>?_) (λk vs ev l j d e=>?_) λk fs vs i t ev l u y z d e=>?_
 ·exact vB ev r (wpAny_truthy_bool (f s ρ (Step.refl _ _ _) (e▸R) (e▸rfl)))
 ·subst e d;exact vI ev r λ_=>PyProof.Rows.truthy_int (f s ρ (Step.refl _ _ _) R rfl)
 ·subst e d;refine vS ev r λ_=>P.truthy_str (by unfold lid at j;lia) ?_;have e:(((Str.length g:Nat):Int) != 0)=(g.cps.size != 0):=by
   show(((g.cps.size:Nat):Int) != 0)=_
   rw[uM,bne_iff_ne,bne_iff_ne];simp +arith
  rw[e];exact f _ ρ (Step.toks _) (R.toks _) rfl
 ·subst e d;refine qP (VR.list R (ev▸r) l) λp xs n _ q B ax _=>?_;subst q;refine wpAny_truthy_list ⟨_,B,rfl,_,rfl⟩ (by rw[ze,<-ax.length];unfold lid at j;lia) ?_;have:(!xs.toArray.isEmpty) = !vs.isEmpty:=by cases ax<;>rfl
  rw[this];exact f _ ρ (Step.toks _) (R.toks _) rfl
 ·subst e d ev;exact vR rfl r λp hp=>AI.truth A s ρ _ _ m p k fs vs i Q o R hp l u y z λs' c x C=>f s' c x C rfl
theorem Top.get{T:Top H0}{s:Shared}(R:Rep H0 ρ hp s){a:Addr}{o:Obj}(h:H0.get? a=some o)(b:a∉aO):s.heap.get? a=some o:=R.old a o h b
theorem EW{l r:Expr}{a b:X}(T:Top H0)(SO:gr w H0)(q:(H0.get? 212).isSome)(t:behindInMarks op r=false)(u:SE H0 w F n m sc l a)(x:SE H0 w F n m sc r b):SE H0 w F n m sc (.Compare l [op] [r] pos) (.cmp op a b):=λA env s ρ st v B e i R C d=>by
 refine bP d λO st1 D d=>?_;refine bP d λP E G d=>?_;refine mE d λc H d=>?_;cases d;refine wpAny_Compare1 (u.use T e i R C D λy s1 I J j K L f=>x.use T e i j L G λz s2 M k g N l2 h=>?_) t;obtain⟨o,p⟩:=uQ.mp q;exact m0 SO H g (k.nilVal j K) N e (by rw[g.old _ _ p (by decide),p]) λT=>⟨(aC.here (s':={s2 with toks:=T}) g rfl rfl rfl (.bool _)).after (J.trans k),h.trans f⟩
theorem xZ:∀{l r:Expr}{op:CmpOp}{a b:X}{pos:Pos}(T:Top H0)(SO:gr w H0)(t:(H0.get? 212).isSome)(u:behindInMarks op r=false)(x:SE H0 w F n m sc l a)(B:SE H0 w F n m sc r b),SB H0 w F n m sc (.Compare l [op] [r] pos) (.cmp op a b):=by
 revert F n m sc;exists ce10_,F,n,m,sc,l,r,op,a,b,pos;intros;exists bK,A,env,s,ρ,st,v,C;intro e j R D d;refine bP d λO st1 E d=>?_;refine bP d λP G H d=>?_;refine mE d λc I d=>?_;cases d;refine wpAny_isTrue_Compare1 (x.use T e j R D E λy s1 J K k L M f=>B.use T e j k M H λz s2 g p h N l2 i=>?_) u;obtain⟨o,q⟩:=uQ.mp t;exact m0 SO I h (p.nilVal k L) N e (by rw[h.old _ _ q (by decide),q]) λT=>wpAny_truthy_bool ⟨rfl,⟨g,(K.trans p).trans (Step.toks T),h.toks T⟩,i.trans f⟩
theorem Gf{e:Expr}{a:X}(T:Top H0)(f:SB H0 w F n m sc e a):SB H0 w F n m sc (.UnaryOp .Not e pos) (.not a):=λA env s ρ st v g h i R j b=>by
 refine mP b λp st1 k b=>?_;cases b;exact wpAny_isTrue_Not (f.use T h i R j k λs1 c l o q d=>⟨rfl,⟨c,l,o⟩,d⟩)
theorem Ft:∀{d h:Expr}{a b:X}{pos:Pos}(T:Top H0)(r:SB H0 w F n m sc d a)(t:SB H0 w F n m sc h b),SB H0 w F n m sc (.BoolOp .And [d,h] pos) (.and a b):=by
 revert F n m sc;exists cc,F,n,m,sc,d,h,a,b,pos;intros;exists bK,A,env,s,ρ,st,v,u;intro k l R x g;refine bP g λy st1 d g=>?_;refine wpAny_isTrue_BoolOp (wpAny_allTrue_And_cons (r.use T k l R x d λs1 i j o z c=>?_));cases y with
 | false=>obtain⟨rfl,rfl⟩:=yz (zE g);exact⟨rfl,⟨i,j,o⟩,c⟩
 | true=>
  rw[if_pos rfl];refine wpAny_allTrue_And_cons (t.use T k l o z g λs2 e p q l2 f=>?_);cases v with
  | false=>exact⟨rfl,⟨e,j.trans p,q⟩,f.trans c⟩
  | true=>rw[if_pos rfl];exact wpAny_allTrue_And_nil ⟨rfl,⟨e,j.trans p,q⟩,f.trans c⟩
theorem sb_or:∀{d h:Expr}{a b:X}{pos:Pos}(T:Top H0)(r:SB H0 w F n m sc d a)(t:SB H0 w F n m sc h b),SB H0 w F n m sc (.BoolOp .Or [d,h] pos) (.or a b):=by
 revert F n m sc;exists cc,F,n,m,sc,d,h,a,b,pos;intros;exists bK,A,env,s,ρ,st,v,u;intro k l R x g;refine bP g λy st1 d g=>?_;refine wpAny_isTrue_BoolOp (wpAny_allTrue_Or_cons (r.use T k l R x d λs1 i j o z c=>?_));cases y with
 | true=>obtain⟨rfl,rfl⟩:=yz (zE g);exact⟨rfl,⟨i,j,o⟩,c⟩
 | false=>
  rw[if_neg (by simp)];refine wpAny_allTrue_Or_cons (t.use T k l o z g λs2 e p q l2 f=>?_);cases v with
  | true=>exact⟨rfl,⟨e,j.trans p,q⟩,f.trans c⟩
  | false=>rw[if_neg (by simp)];exact wpAny_allTrue_Or_nil ⟨rfl,⟨e,j.trans p,q⟩,f.trans c⟩
theorem Gw{e:Expr}{x:X}(T:Top H0)(AI:AC H0 w F n)(g:SE H0 w F n m sc e x)(h:∀st,evT F x st=(ev F x st).bind λr=>a7 F r.1 r.2)
 (i:∀env,PySem.isTrue e env (eval e env)=(do let v<-eval e env;standAt e.pos;holding [v] (truthy v))):SB H0 w F n m sc e x:=λA env s ρ st v j f k R l a=>by
 rw[h]at a;refine bP a λC st1 o a=>?_;refine wpAny_isTrue_value (g.use T f k R l o λy s1 p q t u D b=>?_) (i env);exact dY AI a t u f λs2 c z B d=>⟨rfl,⟨c,q.trans z,B⟩,d.trans b⟩
theorem FE{e:Expr}{a:X}(T:Top H0)(AI:AC H0 w F n)(h:SE H0 w F n m sc e a):SE H0 w F n m sc (.UnaryOp .Not e pos) (.not a):=λA env s ρ st v i g j R k b=>by
 refine bP b λC st1 l b=>?_;refine mP b λc o p b=>?_;cases b;refine wpAny_UnaryOp (h.use T g j R k l λy s1 q r t u D d=>not_of (dY AI p t u g λs2 x z B f=>?_));exact⟨(aC.here B rfl rfl rfl (.bool _)).after (r.trans z),f.trans d⟩
theorem Gv:∀{l r:Expr}{a b:X}{pos:Pos}(T:Top H0)(AI:AC H0 w F n)(B:SE H0 w F n m sc l a)(C:SE H0 w F n m sc r b),SE H0 w F n m sc (.BoolOp .And [l,r] pos) (.and a b):=by
 revert F n m sc;exists cc,F,n,m,sc,l,r,a,b,pos;intros;exists bK,A,env,s,ρ,st,v,D;intro i q R E e;refine bP e λN st1 G e=>?_;refine bP e λc j H e=>?_;refine wpAny_And2 (B.use T i q R E G λy s1 I t k u J f=>dY AI H k u i λs2 g h x d=>?_);have l2:ah H0 s2.heap g env.locals j.loc:=by rw[d];exact J.step h k T.size
 cases c with
 | false=>obtain⟨rfl,rfl⟩:=yz (zE e);exact⟨⟨g,t.trans h,x,h.nilVal k u⟩,d.trans f⟩
 | true=>rw[if_pos rfl];exact C.use T i q x l2 e λz s3 o K L M O p=>⟨⟨o,(t.trans h).trans K,L,M⟩,p.trans (d.trans f)⟩
theorem se_or:∀{l r:Expr}{a b:X}{pos:Pos}(T:Top H0)(AI:AC H0 w F n)(B:SE H0 w F n m sc l a)(C:SE H0 w F n m sc r b),SE H0 w F n m sc (.BoolOp .Or [l,r] pos) (.or a b):=by
 revert F n m sc;exists cc,F,n,m,sc,l,r,a,b,pos;intros;exists bK,A,env,s,ρ,st,v,D;intro i q R E e;refine bP e λN st1 G e=>?_;refine bP e λc j H e=>?_;refine wpAny_Or2 (B.use T i q R E G λy s1 I t k u J f=>dY AI H k u i λs2 g h x d=>?_);have l2:ah H0 s2.heap g env.locals j.loc:=by rw[d];exact J.step h k T.size
 cases c with
 | true=>obtain⟨rfl,rfl⟩:=yz (zE e);exact⟨⟨g,t.trans h,x,h.nilVal k u⟩,d.trans f⟩
 | false=>rw[if_neg (by simp)];exact C.use T i q x l2 e λz s3 o K L M O p=>⟨⟨o,(t.trans h).trans K,L,M⟩,p.trans (d.trans f)⟩
theorem Cz{b e:Expr}(T:Top H0)(r:SB H0 w F n m sc t xt)(u:SE H0 w F n m sc b xb)(x:SE H0 w F n m sc e xe):SE H0 w F n m sc (.IfExp t b e pos) (.cond xt xb xe):=λA env s ρ st v y h i R B g=>by
 refine bP g λc st1 C g=>?_;refine wpAny_IfExp (r.use T h i R B C λs1 D o p q f=>?_);cases c with
 | true=>rw[if_pos rfl];exact u.use T h i p q g λz s3 a j k l E d=>⟨⟨a,o.trans j,k,l⟩,d.trans f⟩
 | false=>rw[if_neg (by simp)];exact x.use T h i p q g λz s3 a j k l E d=>⟨⟨a,o.trans j,k,l⟩,d.trans f⟩
end
section
variable {F:Fs}{n m:Nat}{sc:Scope}
theorem GC(x:Int):(max 0 x).toNat=x.toNat:=by
 refine(Int.le_total 0 x).elim (λh=>?_) λh=>?_
 ·exact congrArg _ (Int.max_eq_right h)
 ·simp only[Int.max_eq_left h,Int.toNat_of_nonpos h];rfl
theorem Fi(i:Int)(n:Nat):(min i n).toNat=min i.toNat n:=by
 rcases Int.le_total i n with h|h
 ·rw[Int.min_eq_left h,jv (Int.toNat_le.mpr h)]
 ·rw[Int.min_eq_right h,Nat.min_eq_right (by lia)];rfl
theorem BK(n:Nat)(i:Int):clipAt n i=cut n i:=by
 unfold clipAt cut;rw[GC];by_cases h:i<0
 ·rw[if_pos h,if_pos h,Int.min_eq_left (ik1 h)]
 ·rw[if_neg h,if_neg h,Fi]
theorem ew{n d:Nat}{v:V}{i:Nat}{y:Value}(e:gJ n d v=some i)(r:VR h ρ v y):∃k,IsPart y k/\k.elim d (clipAt n)=i:=
 bo e (λe=>mE e λq _ e=>vN q.1 r (av none .none e)) (λe=>mE e λq _ e=>vI q.2 r λt=>(av (some q.1) (.int q.1 t) ((BK _ _).trans e)))
noncomputable def lK(H0:Heap)(w:World):Prop:=∀(A:Around)(s:Shared)(ρ:Rho)(hp:List O)(n m:Nat)(p:Addr×Addr)(k:Nat)(fs:List (Str×V))(vs:List V)(c d:V)(e f:Value)(i j:Nat)(sl:Addr)(a b:Expr)(Q:Value->Shared->Prop),
 bt A n m->Rep H0 ρ hp s->ρ[k]?=some p->hp[k]?=some (.acc fs vs)->VR s.heap ρ c e->VR s.heap ρ d f->s.heap.IsSliceOf sl e f .none->gJ vs.length 0 c=some i->gJ vs.length vs.length d=some j->vs.length<=lid->(part vs i j).length<=lid->
  (∀y s',aC H0 ρ (.ref hp.length) (hp++[.list (part vs i j)]) s y s'->Q y s')->wpAny (model pw w) A (subscriptTail a b (.ref p.1) (.ref sl)) Q noE s
theorem qV{R:V->Value->Prop}{xs:List Value}(a:Al R vs xs)(i j:Nat):Al R (part vs i j) ((xs.drop i).take (j-i)):=(a.drop i).take (j-i)
theorem pT:lid<=sizeLine:=bn
noncomputable def SP(H0:Heap)(w:World)(F:Fs)(n m:Nat)(sc:Scope)(e:Option Expr)(x:X):Prop:=match e with
 | some e=>SE H0 w F n m sc e x
 | none=>x=.none
theorem SP.use{e:Option Expr}{x:X}(h:SP H0 w F n m sc e x)(T:Top H0){A:Around}{env:Env}{s:Shared}{ρ:Rho}{st:St}{v:V}{a:St}(d:bt A n m)(f:aN env sc)(R:Rep H0 ρ st.hp s)(l:ah H0 s.heap ρ env.locals st.loc)
 (c:ev F x st=some (v,a)) {Q:Value->Shared->Prop} (k:∀y s1 b,Step [] ρ b s s1->Rep H0 b a.hp s1->VR s1.heap b v y->ah H0 s1.heap b env.locals a.loc->a.loc=st.loc->Q y s1):
 wpAny (model pw w) A (evalPart e env) Q noE s:=by
 cases e with
 | some e=>simp only[evalPart_some];exact SE.use h T d f R l c k
 | none=>
  have:x=.none:=h;subst this;cases(c:some _=_);simp only[evalPart_none];exact zD (k _ _ ρ (Step.refl _ _ _) R .none l rfl)
theorem tm:∀l:List (Int×Nat),Al (VR h ρ) (l.map λp=>V.int p.1) (l.map λq=>zl q.1 q.2)
 | []=>.nil
 | a::r=>.cons (.int _ _) (tm r)
theorem tA:∀{A:Around}{s:Shared}{ρ:Rho}{st d:St}{vs:List V}{xs:List Value}{q a:Addr}{C:Nat}{h k v:V}{l o:Value}{b c:Expr}(e:oy vs h k st=some (v,d))(R:Rep H0 ρ st.hp s)(D:IsL s.heap q xs.toArray C)(ax:Al (VR s.heap ρ) vs xs)(E:s.heap.IsSliceOf a l o .none)(G:VR s.heap ρ h l)(H:VR s.heap ρ k o),
 wpAny (model pw w) A (subscriptTail b c (.ref q) (.ref a)) (λy s'=>aC H0 ρ v d.hp s y s'/\d.loc=st.loc) noE s:=by
 exists cc,A,s,ρ,st,d,vs,xs,q,a;exists bZ,C,h,k,v,l,o,b,c;intro e R D ax E G H;exact(ai (e:(if _ then _ else none)=_) λp e=>bE e λi r e=>bE e λj t e=>by
  refine cE (be e) λu x J=>?_;subst u;subst x;refine el12 (ew r G) λK pl z=>?_;refine el12 (ew t H) λL I B=>?_;have f:s.heap.IsList q xs.toArray:=⟨_,D,rfl,_,rfl⟩;have g:xs.toArray.size=vs.length:=ze.trans ax.length.symm;refine ol f.typeIs slot_list_getitem.lookup (wpAny_getItem_list_slice f E pl I .none (by decide) ?_ (by rw[g];exact zB p bn));rw[slicePick_plain,g,z,B];exact⟨R.newList (qV ax i j) s.toks,rfl⟩)
theorem Ai:∀{a:Expr}{B C:Option Expr}{D E G:X}{p pos:Pos}(T:Top H0)(AS:lK H0 w)(h1:SE H0 w F n m sc a D)(h2:SP H0 w F n m sc B E)(h3:SP H0 w F n m sc C G),
 SE H0 w F n m sc (.Subscript a (.Slice B C none p) pos) (.slice D E G):=by
 revert F n m sc;exists b5,F,n,m,sc,a,B,C,D,E,G,p,pos;intros;exists bK,A,env,s,ρ,st,v,st';intro z H R l0 b;refine bP b λv1 st1 e1 b=>?_;refine bP b λv2 st2 e2 b=>?_;refine bP b λv3 I e3 b=>?_;refine Subscript_ (h1.use T z H R l0 e1 λy1 s1 ρ1 x1 R1 r1 l1 J=>wpAny_Slice (h2.use T z H R1 l1 e2 λt s2 ρ2 x2 K r2 l2 L=>h3.use T z H K l2 e3 λu s3 c M R3 r3 l3 N=>?_));simp only[evalPart_none];refine zD ?_;refine aA (R3.push {cls:=.type "slice",data:=.fields #[t,u,.none]} s3.toks) λx x4=>?_;have O:∀{v y},VR s3.heap c v y->VR (s3.heap.push {cls:=.type "slice",data:=.fields #[t,u,.none]}) c v y:=λr=>x4.nilVal R3 r;have d:=O (M.nilVal K (x2.nilVal R1 r1));have g:=O (M.nilVal K r2);have h:=O r3;have Q:(s3.heap.push {cls:=.type "slice",data:=.fields #[t,u,.none]}).IsSliceOf s3.heap.objs.size t u .none:=(cy _ (zN _ rfl) rfl rfl);have step:Step [] ρ c s {s3 with heap:=s3.heap.push {cls:=.type "slice",data:=.fields #[t,u,.none]}}:=((x1.trans x2).trans M).trans x4;have S:I.loc=st.loc:=N.trans (L.trans J);refine bE (show(du v1).bind _=_ from b) λk _ b=>bo b (λb=>bE b λvs _ b=>?l) λb=>bo b (λb=>bE b λo _ b=>ai (b:(if _ then _ else none)=_) λU b=>bE b λi V b=>bE b λj W b=>?a) (λb=>bE b λf _ b=>?f)
 case l=>
  refine qP (VR.list x (k.2▸d) vs.2) λq xs nn _ Y Z ax _=>?_;subst Y;exact zQ (tA b x Z ax Q g h) (λy s' P=>⟨P.1.after step,P.2.trans S⟩) λ_ _ e=>e
 case a=>
  refine cE (be b) λq0_ q1_ hl=>?_;subst q0_;subst q1_;exact vR k.2 d λp hp=>AS A _ c _ n m p k.1 o.1.1 o.1.2 _ _ t u i j _ _ _ _ z x hp o.2 g h Q V W U hl λy s' P=>⟨P.after step,S⟩
 case f=>
  refine vR k.2 d λq hρ=>?_;refine aA (x.obj _ _ _ hρ f.2) λ_ Z=>?_;exact zQ (tA b x Z (tm f.1.1) Q g h) (λy s' P=>⟨P.1.after step,P.2.trans S⟩) λ_ _ e=>e
end
theorem Bt:(Manifest.canonical "list.__getattribute__" != "object.__getattribute__")=false:=by decide +kernel
section
variable {prog:Program}{A:Around}{E:Value->Shared->Prop}{s:Shared}{x C:Addr}{ox:Obj}{od:Option Obj}{name:Str}{expr:Bool}{Q:Value->Shared->Prop}
theorem nF:∀(X:K.In s.heap)(I:InstAt s.heap x ox C od)(b:findIn K (.ref C) "__getattribute__"=some (some (.builtin "list.__getattribute__")))(d:subIn K (.ref C) (.type "list")=some true)(f:findIn K (.ref C) "__getattr__"=some none) (h:wpAny (model prog w) A.in1 (Builtin.«object.__getattribute__» ⟨[.ref x,.str name s.toks],[]⟩)
 (λa s'=>match a with|.done (.ret v)=>wpAny (model prog w) A (handedOut v) Q E s'|_=>False) (λ_ _=>False) {s with toks:=s.toks+1}),
 wpAny (model prog w) A (getAttr (.ref x) name expr) Q E s:=by
 revert prog A E s x C ox od name expr Q;exists ck,prog,A,E,s,x,C,ox,od,name,expr,Q;intros;have c:=I.type (M:=model prog w);have g:=jD (M:=model prog w) X b;have i:=looks_hook (M:=model prog w) (mc:=.ref C) (r:=none) X (by rw[if_pos (by rfl)];exact f);unfold getAttr getAttrBy;refine zA (wpAny_mkText (yJ (zA (c _ _ _ _ (λ_ _ e=>e) (zA (g _ _ _ _ (λ_ _ e=>e) ?_))))));dsimp only;rw[show(onTheHeap (.ref C)&&Value.builtin "list.__getattribute__"==Value.builtin "object.__getattribute__")=false from by rw[show(Value.builtin "list.__getattribute__"==Value.builtin "object.__getattribute__")=false from by decide +kernel,uH],if_neg (by decide)];refine zA (i _ _ _ _ (λ_ _ e=>e) (zA (wpAny_attempt (yJ ?_))));unfold callGetattribute;rw[show(expr&&onTheHeap (Value.builtin "list.__getattribute__"))=false from uH _,if_neg (by decide)];unfold boundAndCalled;rw[PySem.F.slot_list_getattribute.bind];refine zA (zD ?_);show wpAny _ _ (call (.builtin "list.__getattribute__") [.ref x,.str name s.toks]) _ _ _
 refine uR ?_;refine codeAny_call_builtin PySem.F.slot_list_getattribute.plain PySem.F.entry_list_ga ?_;refine @check_slot (model prog w) _ _ {s with toks:=s.toks+1} "list.__getattribute__" "list" "__getattribute__" (.ref x) [.str name s.toks] [] _ (by decide +kernel) (by decide +kernel) (c.andThen (looks_subIn X d)) (PySem.F.args_list_getattribute_2 _ _) ?_;refine zQ h (λa s' z=>?_) λ_ _ z=>z.elim;rcases a with (_|_|_|_)|_<;>first|exact z|exact z.elim
theorem lb:∀{v:Value}(X:K.In s.heap)(I:InstAt s.heap x ox C od)(b:GA K C)(e:findIn K (.ref C) "__getattr__"=some none)(c:findObj K C od name=some (.value v))(d:handedIn v=true)(h:Q v {s with toks:=s.toks+1}),wpAny (model prog w) A (getAttr (.ref x) name expr) Q E s:=by
 revert prog A E s x C ox od name expr Q;exists b5,prog,A,E,s,x,C,ox,od,name,expr,Q,v;intros;rcases b with b|⟨b,f⟩
 ·exact get_value X I b c d h
 refine nF X I b f e ?_;have g:=I.type (M:=model prog w);have i:=looks_find (M:=model prog w) X I c;unfold Builtin.«object.__getattribute__»;refine zA (zr (a:=(.ref x,[.str name s.toks])) (by rfl) ?_);refine zA (zD (zA (g.at (zA (i.at ?_)))));refine zD ?_;show wpAny _ _ (handedOut v) _ _ _
 rw[handedOut_of d];exact zD h
theorem wK:∀{g a:Value}(X:K.In s.heap)(I:InstAt s.heap x ox C od)(b:GA K C)(c:findObj K C od name=some (.bind g a))(d:findIn K (.ref C) "__getattr__"=some none)(h:wpAny (model prog w) A.in1 (call g [a,.ref x,.ref C]) (λv s'=>wpAny (model prog w) A (handedOut v) Q E s') (λ_ _=>False) {s with toks:=s.toks+1}),
 wpAny (model prog w) A (getAttr (.ref x) name expr) Q E s:=by
 revert prog A E s x C ox od name expr Q;exists ce13_,prog,A,E,s,x,C,ox,od,name,expr,Q,g,a;intros;rcases b with b|⟨b,e⟩
 ·exact get_bind X I b c d (zQ h (λ_ _ z=>z) λ_ _ z=>z.elim)
 refine nF X I b e d ?_;have f:=I.type (M:=model prog w);have i:=looks_find (M:=model prog w) X I c;unfold Builtin.«object.__getattribute__»;refine zA (zr (a:=(.ref x,[.str name s.toks])) (by rfl) ?_);refine zA (zD (zA (f.at (zA (i.at ?_)))));show wpAny _ _ (Builtin.ObjectAttr.bindTo g a (.ref x) (.ref C)) _ _ _
 unfold Builtin.ObjectAttr.bindTo;exact zA (yJ (zQ h (λv s' z=>zD z) λ_ _ z=>z))
variable {pl:Sem Bool}{R:Value×List Value->Shared->Prop}
theorem lf:∀{f:Addr}(X:K.In s.heap)(I:InstAt s.heap x ox C od)(c:GA K C)(i:findIn K (.ref C) "__getattr__"=some none)(j:findIn K (.ref C) name=some (some (.ref f)))(k:typeIn K (.ref f)=some (.type "function"))(l:shadowIn od name=some false)(h:R (.ref f,[.ref x]) s),
 wpAny (model prog w) A (getMethod (.ref x) name pl) R E s:=by
 revert prog A E s x C ox od name pl R;exists b5,prog,A,E,s,x,C,ox,od,name,pl,R,f;intros;rcases c with c|⟨c,m⟩
 ·exact method_fn X I c i j k l h
 have d:=Bt;dsimp only[getMethod,specialOf];refine zA (zA (I.type.here ((jD X c).here ?_)));dsimp only;rw[d,if_neg (by decide)];refine zA (zA (I.type.here ((jD X i).here ?_)));refine zA (zA (I.type.here ((jD X j).here (zA ((looks_typeIn X k).here ?_)))));rw[if_neg (by decide +kernel)];refine zA (uW I.at_ ?_);have g:=I.dict;cases e:ox.dict with
 | none=>exact zA (jw (zD h))
 | some n=>
  cases od with
  | none=>rw[e]at g;exact g.elim
  | some o=>
   rw[e]at g;refine mE l λr a b=>?_;refine zA (zA (uW g ?_));rw[nsLook_of a];refine zD ?_;rw[b];exact zA (jw (zD h))
theorem pR:∀{id:String}(X:K.In s.heap)(I:InstAt s.heap x ox C od)(c:GA K C)(g:findIn K (.ref C) "__getattr__"=some none)(i:findIn K (.ref C) name=some (some (.builtin id)))(j:typeOf (.builtin id)=pure (.type "method_descriptor"))(k:shadowIn od name=some false)(h:R (.builtin id,[.ref x]) s),
 wpAny (model prog w) A (getMethod (.ref x) name pl) R E s:=by
 revert prog A E s x C ox od name pl R;exists b5,prog,A,E,s,x,C,ox,od,name,pl,R,id;intros;unfold getMethod specialOf;have go:∀ga:String,(Manifest.canonical ga != "object.__getattribute__")=false->findIn K (.ref C) "__getattribute__"=some (some (.builtin ga))->wpAny (model prog w) A (getMethod (.ref x) name pl) R E s:=λga d c=>by
  dsimp only[getMethod,specialOf];refine zA (zA (I.type.here ((jD X c).here ?_)));dsimp only;rw[d,if_neg (by decide)];refine zA (zA (I.type.here ((jD X g).here ?_)));refine zA (zA (I.type.here ((jD X i).here (zA (zr j ?_)))));rw[if_neg (by decide +kernel)];refine zA (uW I.at_ ?_);have f:=I.dict;cases e:ox.dict with
  | none=>exact zA (jw (zD h))
  | some l=>
   cases od with
   | none=>rw[e]at f;exact f.elim
   | some o=>
    rw[e]at f;refine mE k λr a b=>?_;refine zA (zA (uW f ?_));rw[nsLook_of a];refine zD ?_;rw[b];exact zA (jw (zD h))
 rcases c with c|⟨c,m⟩
 ·exact go _ PySem.F.canon_object_ga c
 ·exact go _ Bt c
end
section
variable {F:Fs}{n m:Nat}{sc:Scope}
theorem aL.here(k:aL H0 K){s:Shared}(R:Rep H0 ρ hp s):K.In s.heap:=λa o e=>
 R.old a o (k.inn a o e) λh=>by rw[k.off a h]at e;exact no e
theorem qp:nsFind es name=(es.toList.find? (·.key.isStr name)).map (·.val):=by
 unfold nsFind findBy;rw[<-Array.find?_toList]
theorem fX{o:Obj}{h:Heap}{d:Addr}{c:Str->Option Value}(i:h.get? d=some o)(j:h.Ns d c)(name:Str):lookIn name o=some (c name):=by
 obtain⟨o',es,ep,e,k,l,p⟩:=j;rw[i]at e;obtain rfl:=zE e;have b:=p name;rw[qp]at b;unfold lookIn;rw[k];dsimp only;cases f:es.toList.find? (·.key.isStr name)with
 | some g=>rw[f]at b;dsimp only;rw[<-b];rfl
 | none=>
  rw[f]at b;dsimp only;rw[<-b];rw[if_neg]
  ·rfl
  ·simp only[List.any_eq_true,not_exists,not_and];intro g r;obtain⟨a,t,q⟩:=l g (by simpa using r);unfold DictEntry.refKey;rw[q];simp
structure Own (H0:Heap) (s:Shared) (ρ:Rho) (p:Addr×Addr) (C:Addr) (fs:List (Str×V)) (ox od:Obj):Prop where
 mem:C∈cN
 inst:InstAt s.heap p.1 ox C (some od)
 dct:ox.dict=some p.2
 rep:∃mm,s.heap.get? p.2=some od/\s.heap.Ns1 p.2 mm/\(∀n v,fs.lookup n=some v->∃y,mm n=some y/\VR s.heap ρ v y)/\∀n,fs.lookup n=none->mm n=none
theorem gY:∀{ρ:Rho}{hp:List O}{s:Shared}{k:Nat}{p:Addr×Addr}{fs:List (Str×V)}(R:Rep H0 ρ hp s)(a:ρ[k]?=some p)(e:hp[k]?=some (.inst fs)),∃f b,Own H0 s ρ p cn fs f b:=by
 exists dI,ρ,hp,s,k,p,fs;intros;obtain⟨g,⟨sl,h⟩,i,c,j,l⟩:=R.obj k p _ a e;obtain⟨b,_,_,d,_⟩:=c.ns;exact⟨_,b,by simp[cN],⟨h,rfl,rfl,d⟩,rfl,i,d,c,j,l⟩
theorem cq:∀{ρ:Rho}{hp:List O}{s:Shared}{k:Nat}{p:Addr×Addr}{fs:List (Str×V)}{vs:List V}(R:Rep H0 ρ hp s)(a:ρ[k]?=some p)(e:hp[k]?=some (.acc fs vs)),∃f b,Own H0 s ρ p aw fs f b:=by
 exists bK,ρ,hp,s,k,p,fs,vs;intros;obtain⟨g,xs,⟨o,sl,h⟩,_,i,c,j,l⟩:=R.obj k p _ a e;obtain⟨b,_,_,d,_⟩:=c.ns;exact⟨_,b,by simp[cN],⟨h,rfl,rfl,d⟩,rfl,i,d,c,j,l⟩
theorem VR.handed{v:V}{y:Value}(r:VR h ρ v y):handedIn y=true:=by
 cases v with
 | int|str=>obtain⟨_,rfl⟩:=r;rfl
 | tup|ref=>obtain⟨_,rfl,_⟩:=r;rfl
 | _=>obtain rfl:=r;rfl
theorem Own.read:∀{ρ:Rho}{hp:List O}{s:Shared}{A:Around}{p:Addr×Addr}{C:Addr}{fs:List (Str×V)}{b c:Obj}{x:Str}{v:V}{Q:Value->Shared->Prop}(k:aL H0 K)(R:Rep H0 ρ hp s)(o:Own H0 s ρ p C fs b c)(d:x∈fldNames)(e:fs.lookup x=some v)(h:∀y T,VR s.heap ρ v y->Q y {s with toks:=T}),wpAny (model pw w) A (getAttr (.ref p.1) x true) Q noE s:=by
 exists b5,ρ,hp,s,A,p,C,fs,b,c,x,v,Q;intros;obtain⟨q,f,g,i,_⟩:=o.rep;obtain⟨y,j,r⟩:=i x v e;obtain⟨t,l,a,_⟩:=k.dict C o.mem;refine lb (k.here R) o.inst (k.ga C o.mem) (k.gat C o.mem) ?_ r.handed (h y _ r);unfold findObj;rw[l,zp,k.fld C o.mem x d,zp];dsimp only[zp];unfold PySem.W.ownOf;rw[a,if_pos rfl];dsimp only;rw[fX f g.ns,j];rfl
theorem oP{o:Expr}(h:fx o=true)(a:Str)(env:Env)(t:Sem Value):attributeBase o a env t=t:=by
 cases o with
 | Call f as ks p=>cases f with
  | Name=>cases as with
   | nil=>cases ks with
    | nil=>cases h
    | cons=>rfl
   | cons=>rfl
  | _=>rfl
 | _=>rfl
theorem Ed{a:Str}{s:Shared}{E:Value->Shared->Prop}{Q:Value->Shared->Prop}(c:fx value=true)
 (h:wpAny (model pw w) A (eval value env) (λo b=>wpAny (model pw w) A (getAttr o a true) Q E b) E s):wpAny (model pw w) A (eval (.Attribute value a pos) env) Q E s:=
 Attribute_any_ h (by rw[arm_eval_Attribute,oP c])
theorem DW{a:Expr}{x:Str}(T:Top H0)(k:aL H0 K)(z:fx a=true)(q:x∈fldNames)(B:SE H0 w F n m sc a xa):SE H0 w F n m sc (.Attribute a x pos) (.attr xa x):=λA env s ρ st v C D E R G b=>by
 refine bP b λN st1 H b=>?_;refine mE b λu I b=>?_;cases b;refine Ed z (B.use T D E R G H λy s1 e J c t O f=>?_);have d:∀y T,VR s1.heap e v y->aC H0 ρ v st1.hp s y {s1 with toks:=T}/\st1.loc=st.loc:=λy T r=>⟨(aC.here (s':={s1 with toks:=T}) c rfl rfl rfl r).after J,f⟩;exact Fe I (λj fs g i l=>vR g t λp hp=>(gY c hp i).elim λL h=>h.elim λM o=>o.read k c q l d) (λj fs vs g i l=>vR g t λp hp=>(cq c hp i).elim λL h=>h.elim λM o=>o.read k c q l d)
end
section
variable {F:Fs}{n m:Nat}{sc:Scope}
theorem ib.but(x:ib h)(k:∀b,b∈xM->∀ob,h.get? b=some ob->h'.get? b=some ob):ib h':=by
 refine kX x λps e a b c d=>?_;exact⟨ps,e,a.at2 (k _ (by decide)) (k _ (by decide)),b.at2 (k _ (by decide)) (k _ (by decide)),k _ (by decide) _ c,k _ (by decide) _ d⟩
theorem Rep.but{s:Shared}(T:Top H0)(R:Rep H0 ρ hp s)(k:∀b ob,s.heap.get? b=some ob->b∉Ls->s'.heap.get? b=some ob)(z:∀b o,s.heap.get? b=some o->∃o',s'.heap.get? b=some o')(g:AllBare s'.gens)(o:s'.os=s.os)
 (a:∀b∈Ls,H0.objs.size<=b/\b∉foot ρ) (f:∀b∈Ls,∀o,s.heap.get? b=some o->cC o):Rep H0 ρ hp s'/\Step Ls ρ ρ s s':=by
 have st:Step Ls ρ ρ s s':=⟨⟨[],by simp,by simp[foot]⟩,z,λb ob e _ h _=>k b ob e h,o⟩;have j:=T.size;refine⟨⟨λb ob e h=>k b ob (R.old b ob e h) λq=>absurd (yB e) (vJ.mpr (a b q).1),?_,g,R.len,λi p ob d l=>(R.obj i p ob d l).mono (λb c o e=>k b o e λq=>(a b q).2 (ya.mpr ⟨p,yT d,c⟩)) λv y r=>st.val R f r,R.apart,R.above,R.lo⟩,st⟩;exact R.tab.but λb c ob e=>k b ob e λq=>absurd (zR (io c) j) (vJ.mpr (a b q).1)
theorem ah.noSeq:∀{h:Heap}{ρ:Rho}{L:Addr}{loc:List (Str×V)}(l:ah H0 h ρ L loc),∀b∈[L],∀o,h.get? b=some o->cC o:=by
 exists ce4_,h,ρ,L,loc;intro l;obtain⟨_,_,f,⟨o',es,ep,e,c,_⟩,_⟩:=l;intro b d o a _ ys n q;rw[zG.mp d]at a;rw[a]at e;obtain rfl:=zE e;rw[c]at q;cases q
theorem ah.mem{L:Addr}{loc:List (Str×V)}(l:ah H0 h ρ L loc):∀b∈[L],H0.objs.size<=b/\b∉foot ρ:=λb a=>by rw[zG.mp a];exact⟨l.1,l.2.1⟩
theorem gH{loc:List (Str×V)}{x y:Str}{v:V}:(put loc x v).lookup y=if y=x then some v else loc.lookup y:=by
 unfold put;simp only[yY];split<;>split<;>simp_all
theorem mq{h:Heap}{a:Addr}{b:Str->Option Value}(x:h.Ns a b):∃o,h.get? a=some o:=wU x λo _ _ e _=>⟨o,e⟩
theorem wV{a:Addr}(sb:jl a h h')(x:∃o,h'.get? a=some o):∀b o,h.get? b=some o->∃o',h'.get? b=some o':=λb o e=>by
 by_cases c:b=a
 ·subst c;exact x
 ·exact⟨o,by rw[sb.2 b c];exact e⟩
set_option tactic.hygienic true in
theorem eZ:∀{A:Around}{env:Env}{s:Shared}{ρ:Rho}{hp:List O}{loc:List (Str×V)}{x:Str}{v:V}{y:Value}{Q:Unit->Shared->Prop}(T:Top H0)(eo:aN env sc)(hx:ap sc x=true)(R:Rep H0 ρ hp s)(l:ah H0 s.heap ρ env.locals loc)(r:VR s.heap ρ v y)(h:∀s',Step [env.locals] ρ ρ s s'->Rep H0 ρ hp s'->ah H0 s'.heap ρ env.locals (put loc x v)->Q () s'),wpAny (model pw w) A (storeName env x y) Q noE s:=by
 revert sc;exists ck,sc,A,env,s,ρ,hp,loc,x,v,y,Q;intro T eo hx R l r h;obtain⟨l1,l2,mm,hn,hv⟩:=id l;refine wpAny_storeName_local (eo.loc (dE hx).1) hn (λh' n1 sb=>?_) (by rw[eo.kind];rfl);obtain⟨R',st⟩:=R.but (s':={s with heap:=h',toks:=s.toks+1}) T (λb ob e hb=>by show h'.get? b=_;rw[sb.2 b (by simpa using hb)];exact e) (wV sb (mq n1)) R.gens rfl l.mem l.noSeq;refine h _ st R' ⟨l1,l2,_,n1,λz u e=>?_⟩;rw[gH]at e;dsimp only;split at e
 ·rename_i hz;obtain rfl:=zE e;rw[if_pos hz];exact⟨y,rfl,st.val R l.noSeq r⟩
 ·rename_i hz;rw[if_neg hz];obtain⟨q,e1,r1⟩:=hv z u e;exact⟨q,e1,st.val R l.noSeq r1⟩
inductive FR (h:Heap) (ρ:Rho):R->Flow->Prop
 | next:FR h ρ .next .next
 | brk:FR h ρ .brk .brk
 | cont:FR h ρ .cont .cont
 | ret {v:V}{y:Value}:VR h ρ v y->FR h ρ (.ret v) (.ret y)
noncomputable def dK(H0:Heap)(L:Addr)(ρ:Rho)(r:R)(b:St)(s:Shared):Flow->Shared->Prop:=λf s'=>∃a,Step [L] ρ a s s'/\Rep H0 a b.hp s'/\ah H0 s'.heap a L b.loc/\FR s'.heap a r f
theorem dK.after{L:Addr}{r:R}{s:Shared}{f:Flow}(x:Step [L] ρ ρ₁ s s₁)(p:dK H0 L ρ₁ r st' s₁ f s'):dK H0 L ρ r st' s f s':=by
 obtain⟨a,st,b⟩:=p;exact⟨a,x.trans st,b⟩
theorem Step.wide{s:Shared}(x:Step [] ρ ρ' s s'):Step Ls ρ ρ' s s':=x.weaken (λb a=>by cases a)
noncomputable def SS(H0:Heap)(w:World)(F:Fs)(n m:Nat)(sc:Scope)(e:Stmt)(x:S):Prop:=
 ∀(A:Around)(env:Env)(s:Shared)(ρ:Rho)(st:St)(r:R)(a:St),bt A n m->aN env sc->Rep H0 ρ st.hp s->ah H0 s.heap ρ env.locals st.loc->ex F x st=some (r,a)->
  wpAny (model pw w) A (exec e env) (dK H0 env.locals ρ r a s) noE s
noncomputable def SSs(H0:Heap)(w:World)(F:Fs)(n m:Nat)(sc:Scope)(e:List Stmt)(x:List S):Prop:=
 ∀(A:Around)(env:Env)(s:Shared)(ρ:Rho)(st:St)(r:R)(a:St),bt A n m->aN env sc->Rep H0 ρ st.hp s->ah H0 s.heap ρ env.locals st.loc->exs F x st=some (r,a)->
  wpAny (model pw w) A (execs e env) (dK H0 env.locals ρ r a s) noE s
theorem SSs.nil:SSs H0 w F n m sc [] []:=λA env s ρ st r a c d R l b=>by
 cases(show some _=_ from b);exact wpAny_execs_nil ⟨ρ,Step.refl _ _ _,R,l,.next⟩
theorem SSs.cons:∀{e:Stmt}{x:S}{es:List Stmt}{xs:List S}(h:SS H0 w F n m sc e x)(t:SSs H0 w F n m sc es xs),SSs H0 w F n m sc (e::es) (x::xs):=by
 revert F n m sc;exists bZ,F,n,m,sc,e,x,es,xs;intro h t;exists bK,A,env,s,ρ,st,r,j;intro k o R l c;refine bP c λq st1 u c=>?_;refine wpAny_execs_cons (zQ (h A env s ρ st q st1 k o R l u) (λf s1 b=>lB b λa d g i y=>?_) λ_ _ e=>e);cases y with
 | next=>exact zQ (t A env s1 a st1 r j k o g i c) (λf s2 p=>p.after d) λ_ _ e=>e
 | brk=>obtain⟨rfl,rfl⟩:=yz (zE c);exact⟨a,d,g,i,.brk⟩
 | cont=>obtain⟨rfl,rfl⟩:=yz (zE c);exact⟨a,d,g,i,.cont⟩
 | ret v=>obtain⟨rfl,rfl⟩:=yz (zE c);exact⟨a,d,g,i,.ret v⟩
theorem aN.quiet(a:aN env sc):interactive env=false:=by
 unfold interactive;rw[a.kind];rfl
theorem eF{e:Expr}(h:bV e=true)(t:Option Expr)(k:Nat)(env:Env):swapsWith e t k env=pure false:=by
 unfold swapsWith;cases e<;>first|rfl|cases h
theorem Dq{e:Expr}{x:X}(T:Top H0)(d:bV e=true)(h:SE H0 w F n m sc e x):SS H0 w F n m sc (.Expr e pos) (.expr x):=λA env s ρ st r f g c R l a=>by
 refine mP a λq st1 i a=>?_;cases a;exact wpAny_Expr_any (h.use T g c R l i λy s1 b j k t o p=>⟨b,j.wide,k,o,.next⟩) c.quiet (eF d _ _ _)
theorem Fj{e:Expr}{x:X}(T:Top H0)(h:SE H0 w F n m sc e x):SS H0 w F n m sc (.Return (some e) pos) (.ret x):=λA env s ρ st r c d f R l a=>by
 refine mP a λq st1 g a=>?_;cases a;exact wpAny_Return_some (h.use T d f R l g λy s1 b i j k o p=>⟨b,i.wide,j,o,.ret k⟩)
theorem ri:SS H0 w F n m sc (.Return none pos) (.ret .none):=λA env s ρ st r a c d R l b=>by
 cases(show some _=_ from b);exact wpAny_Return_none ⟨ρ,Step.refl _ _ _,R,l,.ret .none⟩
theorem FM:SS H0 w F n m sc (.Break pos) .brk:=λA env s ρ st r a c d R l b=>by
 cases(show some _=_ from b);exact wpAny_Break ⟨ρ,Step.refl _ _ _,R,l,.brk⟩
theorem Dy:SS H0 w F n m sc (.Continue pos) .cont:=λA env s ρ st r a c d R l b=>by
 cases(show some _=_ from b);exact wpAny_Continue ⟨ρ,Step.refl _ _ _,R,l,.cont⟩
theorem DA:SS H0 w F n m sc (.Pass pos) .pass:=λA env s ρ st r a c d R l b=>by
 cases(show some _=_ from b);exact wpAny_Pass ⟨ρ,Step.refl _ _ _,R,l,.next⟩
theorem Fa{b o:List Stmt}(T:Top H0)(h:SB H0 w F n m sc t xt)(v:SSs H0 w F n m sc b xb)(x:SSs H0 w F n m sc o xo):SS H0 w F n m sc (.If t b o pos) (.ite xt xb xo):=λA env s ρ st r a i j R l g=>by
 refine bP g λc st1 y g=>?_;refine wpAny_If (h.use T i j R l y λs1 d k q u z=>?_);cases c with
 | true=>rw[if_pos rfl];exact zQ (v A env s1 d st1 r a i j q u g) (λf s2 p=>p.after k.wide) λ_ _ e=>e
 | false=>rw[if_neg (by simp)];exact zQ (x A env s1 d st1 r a i j q u g) (λf s2 p=>p.after k.wide) λ_ _ e=>e
theorem EU{x:Str}{e:Expr}{p:Pos}(T:Top H0)(d:ap sc x=true)(f:bV e=true)(h:SE H0 w F n m sc e xe):SS H0 w F n m sc (.Assign [.Name x p] e pos) (.asg x xe):=λA env s ρ st r g i c R l a=>by
 refine mP a λB st1 j a=>?_;cases a;refine wpAny_Assign_Name (h.use T i c R l j λy s1 b k o q t u=>?_) (eF f _ _ _);exact eZ T c d o t q λs2 v z l2=>⟨b,k.wide.trans v,z,l2,.next⟩
end
section
variable {F:Fs}{n m:Nat}{sc:Scope}
theorem gA:∀{ρ:Rho},(foot ρ).Nodup->∀{i j:Nat}{p q:Addr×Addr},i≠j->ρ[i]?=some p->ρ[j]?=some q->∀b∈feet p,b∉feet q
 | [],_,i,j,p,q,_,e,_=>by simp at e
 | r::ρ,nd,i,j,p,q,hij,e1,e2=>by
  have c:(feet r++foot ρ).Nodup:=nd;refine cE (ye.mp c) λk g f=>?_;have mem:∀{i:Nat}{p:Addr×Addr}{b:Addr},ρ[i]?=some p->b∈feet p->b∈foot ρ:=λe a=>ya.mpr (av _ (yT e) a);intro b a d;cases i with
  | zero=>
   cases j with
   | zero=>exact hij rfl
   | succ j=>
    simp at e1 e2;subst e1
    exact f b a b (mem e2 d) rfl
  | succ i=>
   cases j with
   | zero=>
    simp at e1 e2;subst e2
    exact f b d b (mem e1 a) rfl
   | succ j=>
    simp at e1 e2
    exact gA g (λh=>hij (congrArg _ h)) e1 e2 b a d
theorem Rep.turn{s:Shared}{k:Nat}{p:Addr×Addr}(R:Rep H0 ρ hp s)(a:ρ[k]?=some p)(keep:∀b ob,s.heap.get? b=some ob->b∉feet p->s'.heap.get? b=some ob)
 (alive:∀b o,s.heap.get? b=some o->∃o',s'.heap.get? b=some o') (g:AllBare s'.gens) (t:s'.os=s.os) (new:(∀v y,VR s.heap ρ v y->VR s'.heap ρ v y)->pA s'.heap ρ p o'):
 Rep H0 ρ (hp.set k o') s'/\Step [] ρ ρ s s':=by
 have sub:∀b∈feet p,b∈foot ρ:=λb c=>ya.mpr (av p (yT a) c);have st:Step [] ρ ρ s s':=⟨(av [] ((zo _).symm) (by simp[foot])),alive,λb ob e h _ _=>keep b ob e λq=>h (sub b q),t⟩;have l:∀v y,VR s.heap ρ v y->VR s'.heap ρ v y:=λv y r=>st.val R (λb c=>by cases c) r;have low:∀b∈feet p,H0.get? b=none/\b∉aO:=λb c=>R.above b (sub b c);refine⟨⟨λb ob e h=>keep b ob (R.old b ob e h) (λq=>by replace e:=(((low b q).1).symm).trans e;exact no e),R.tab.but λb c ob e=>keep b ob e λq=>pH R.lo c (low b q),g,by simp[R.len],λi q ob f d=>?_,R.apart,R.above,R.lo⟩,st⟩;by_cases j:i=k
 ·subst j;rw[a]at f;refine(zE f)▸?_;rw[List.getElem?_set_self (R.len▸((zh.mp a).1):i<hp.length)]at d;refine(zE d)▸?_;exact new l
 ·replace d:=((List.getElem?_set_ne (λh=>j h.symm)).symm).trans d
  exact(R.obj i q ob f d).mono (λb c o e=>keep b o e (gA R.apart j f a b c)) l
set_option tactic.hygienic true in
theorem dt:∀{fs:List (Str×V)}{x y:Str}{v:V},(setField fs x v).lookup y=if y=x then some v else fs.lookup y
 | [],x,y,v=>by
  delta setField
  simp only[yY];split<;>split<;>simp_all
 | (z,u)::r,x,y,v=>by
  dsimp only[setField];split
  ·rename_i h;have h:=beq_iff_eq.mp h;subst h;simp only[yY];split<;>split<;>simp_all
  ·rename_i h;simp only[yY];split
   ·rename_i q;have q:=beq_iff_eq.mp q;subst q;rw[if_neg (λq=>h (beq_iff_eq.mpr q))]
   ·exact dt
theorem pQ(self:Value):refuseLoop self "__setattr__" [.type "list",.type "object"]=pure ():=by kernel_rfl
theorem isObj{C:Addr}{a:ClassData}(b:a.mro=[.ref C,.type "object"]\/a.mro=[.ref C,.type "list",.type "object"]):a.mro.isEmpty=false/\a.mro.contains (.type "object")=true/\∀self,refuseLoop self "__setattr__" a.mro=pure ():=by
 rcases b with h|h<;>rw[h]<;>refine⟨rfl,rfl,λself=>?_⟩<;>rw[refuseLoop_ref]
 ·exact PySem.F.store_object.passes self
 ·exact pQ self
open Builtin Builtin.ObjectAttr in
set_option tactic.hygienic true in
theorem nN:∀{ρ:Rho}{hp:List O}{s:Shared}{A:Around}{p:Addr×Addr}{C:Addr}{fs:List (Str×V)}{ox od:Obj}{x:Str}{y:Value}{Q:Unit->Shared->Prop}(k:aL H0 K)(R:Rep H0 ρ hp s)(o:Own H0 s ρ p C fs ox od)(hlen:fs.length<=100)(hx:x∈fldNames)(h:∀s',(∀b ob,s.heap.get? b=some ob->b≠p.2->s'.heap.get? b=some ob)->(∀mm,s.heap.Ns1 p.2 mm->s'.heap.Ns1 p.2 (λz=>if z=x then some y else mm z))->s'.gens=s.gens->s'.os=s.os->Q () s'),
 wpAny (model pw w) A (setAttr (.ref p.1) x y) Q noE s:=by
 exists b5,ρ,hp,s,A,p,C,fs,ox,od,x,y,Q;intro k R o hlen hx h;refine lB o.rep λmm hd hn h1 h2=>?_;refine cu (k.dict C o.mem) λcd hc hhd hm=>?_;refine cE (isObj hm) λne hobj hpass=>?_;have X:=k.here R;have I:=o.inst;refine set_plain X I (k.sat C o.mem) ?_;have SF:=PySem.F.store_object;have L:∀{s1:Shared},s1.heap=s.heap->∀{α}{t:Sem α}{r:α},Looks (model pw w) s.heap t r->Looks (model pw w) s1.heap t r:=λe _ _ _ l=>e▸l;refine codeAny_call_builtin SF.slot.plain SF.entry (@check_slot (model pw w) _ _ {s with toks:=s.toks+1} "object.__setattr__" "object" "__setattr__" (.ref p.1) [.str x s.toks,y] [] _ SF.kind SF.split (I.type.andThen (looks_mroIn X (by unfold mroIn;rw[hc,zp,if_neg (by rw[ne];decide),hobj])):Looks (model pw w) s.heap (isInstance (.ref p.1) (.type "object")) true) (SF.args (.ref p.1) (.str x s.toks) y) ?_);simp only[osa_eq,refuse_eq];refine zA (zA (Looks.here (s:={s with toks:=s.toks+1}) I.type (zA (Looks.here (s:={s with toks:=s.toks+1}) ((looks_clsIn X hc).andThen .now:Looks (model pw w) s.heap (mroOf (.ref C)) cd.mro) ?_))));simp only[hpass];refine zD (zA (Looks.here (s:={s with toks:=s.toks+1}) I.type (zA (Looks.here (s:={s with toks:=s.toks+1}) (jD X (k.fld C o.mem x hx)) ?_))));refine zA (zD ?_);have hcl:=I.cls;have hdct:=o.dct;obtain⟨oc,odi,oda,osl⟩:=ox;dsimp only at hcl hdct;subst hcl hdct;refine zA (zD (zA (zA (uW (I.at_) (zA (Looks.here (s:={s with toks:=s.toks+1}) (looks_clsIn X hc) ?_))))));refine(hhd).symm▸?_;refine zD (a:=some p.2) (zA (zD (zA ?_)));refine wpAny_nsSet1 (s:={s with toks:=s.toks+1}) hn λh' n1 sb=>?_;refine pW (id n1) λo' es ep e' ed _=>?_;have wi:Within (λz=>if z=x then some y else mm z) (x::fs.map (·.1)):=by
  intro z hz;by_cases hzx:z=x
  ·exact zM.mpr (.inl hzx)
  ·refine zM.mpr (.inr ?_);dsimp only at hz;rw[if_neg hzx]at hz;cases q:fs.lookup z with
   | none=>exact absurd (h2 z q) hz
   | some u=>
    have:∀{l:List (Str×V)},l.lookup z=some u->z∈l.map (·.1):=by
     intro l
     induction l with
     | nil=>intro e;exact no e
     | cons a r ih=>
      obtain⟨a1,a2⟩:=a;intro e;simp only[yY]at e;split at e
      ·rename_i q;simp[beq_iff_eq.mp q]
      ·exact zM.mpr (.inr (ih e))
    exact this q
 refine pW (n1.count wi) λo'' es' ep' e'' ed' hsz=>?_;rw[e']at e'';cases e'';rw[ed]at ed';cases ed';have hsl:es.size<=sizeLine+1:=by
  simp at hsz
  have:(200:Nat)<=sizeLine:=by decide
  exact fk3 hlen hsz this
 refine zA (wpAny_lookBehind (o:=o') e' (by rw[ed];exact pastItsLine_dict hsl) ?_);refine zD (h _ (λb ob e hb=>?_) (λmm' hn'=>?_) rfl rfl)
 ·refine(?_:h'.get? b=_);exact(sb.2 b hb).trans e
 ·have:mm'=mm:=by funext z;exact hn'.ns.agree hn.ns z
  exact this▸n1
theorem tD{x:Str}{a:Str->Option Value}(c:∀z u,fs.lookup z=some u->∃y,a z=some y/\VR h ρ u y)(d:∀z,fs.lookup z=none->a z=none)(f:VR h ρ v2 x2)(b:∀u y,VR h ρ u y->VR h' ρ u y):
 (∀z u,(setField fs x v2).lookup z=some u->∃y,(if z=x then some x2 else a z)=some y/\VR h' ρ u y)/\∀z,(setField fs x v2).lookup z=none->(if z=x then some x2 else a z)=none:=by
 constructor
 ·intro z u e;rw[dt]at e;by_cases q:z=x
  ·replace e:=((if_pos q).symm).trans e;cases e;exact(if_pos q)▸(av _ rfl (b _ _ f))
  ·rw[if_neg q]at e;exact(if_neg q)▸((c z u e).imp λy h=>⟨h.1,b _ _ h.2⟩)
 ·intro z e
  replace e:=dt.symm.trans e
  by_cases q:z=x
  ·replace e:=((if_pos q).symm).trans e;cases e
  ·rw[if_neg q]at e;exact(if_neg q).trans (d z e)
theorem pG{s s':Shared}{p:Addr×Addr}{c:Str->Option Value}(d:∀b ob,s.heap.get? b=some ob->b≠p.2->s'.heap.get? b=some ob)(n:s'.heap.Ns1 p.2 c):∀b o,s.heap.get? b=some o->∃o',s'.heap.get? b=some o':=λb o e=>by
 by_cases a:b=p.2
 ·subst a;exact mq n.ns
 ·exact⟨o,d b o e a⟩
theorem wG:∀{A:Around}{s:Shared}{ρ:Rho}{y i:V}{z B:Value}{st d:St}{x:Str}{Q:Unit->Shared->Prop}(k:aL H0 K)(N:x∈fldNames)(e:et y x i st=some d)(R:Rep H0 ρ st.hp s)(O:VR s.heap ρ y z)(P:VR s.heap ρ i B)(h:∀s',Step [] ρ ρ s s'->Rep H0 ρ d.hp s'->d.loc=st.loc->Q () s'),wpAny (model pw w) A (setAttr z x B) Q noE s:=by
 exists ck,A,s,ρ,y,i,z,B,st,d,x,Q;intros;refine xk e (λj fs C l D e=>?_) λj fs vs C l D e=>?_
 ·refine vR C O λp a=>dk (gY R a l) λS T o=>?_;obtain⟨c,⟨sl,E⟩,r,t,G,H⟩:=R.obj _ _ _ a l;refine nN k R o D N λs' f u g I=>?_;refine aA (R.turn (s':=s') (o':=.inst (setField fs x i)) a (λb ob e J=>f b ob e λq=>J (by unfold feet;rw[if_neg c];simp[q])) (pG f (u r t)) (by rw[g];exact R.gens) I λv=>
   ⟨c,⟨sl,f _ _ E c⟩,_,u r t,tD G H P v⟩) λL x=>?_
  exact h s' x (e▸L) (e▸rfl)
 ·refine vR C O λp a=>dk (cq R a l) λS T o=>?_;obtain⟨c,xs,⟨M,sl,E⟩,ax,r,t,G,H⟩:=R.obj _ _ _ a l;refine nN k R o D N λs' f u g I=>?_;refine aA (R.turn (s':=s') (o':=.acc (setField fs x i) vs) a (λb ob e J=>f b ob e λq=>J (by unfold feet;rw[if_neg c];simp[q])) (pG f (u r t)) (by rw[g];exact R.gens) I λv=>
   ⟨c,xs,⟨M,sl,f _ _ E c⟩,ax.mono v,_,u r t,tD G H P v⟩) λL x=>?_
  exact h s' x (e▸L) (e▸rfl)
end
structure LL (w:World) (h:Heap) (a:Addr):Prop where
 inst:Looks (model pw w) h (isInstance (.ref a) (.type "list")) true
 key:∀k name,Looks (model pw w) h (sequenceKey (.ref a) k name) k
 get:Looks (model pw w) h (specialOf (.ref a) "__getitem__") (some (.builtin "list.__getitem__"))
 set:Looks (model pw w) h (specialOf (.ref a) "__setitem__") (some (.builtin "list.__setitem__"))
section
variable {A:Around}{s:Shared}{E:Value->Shared->Prop}
theorem LL.of_list{a:Addr}{xs:Array Value}(h:s.heap.IsList a xs):LL w s.heap a:=by
 obtain⟨o,e,c,n,d⟩:=h;have ty:Looks (model pw w) s.heap (typeOf (.ref a)) (.type "list"):=c▸(Looks.ld e).andThen .now;have g:∀{f:Shared},(∀b o,s.heap.get? b=some o->f.heap.get? b=some o)->f.TypeIs (.ref a) "list":=λk=>(av o (k _ _ e) c);refine⟨ty.andThen (ul (by rw[isSubtype_type];kernel_rfl)),λk name A Q E s' i q=>wpAny_sequenceKey (g i) (by decide) q,?_,?_⟩
 ·exact ty.andThen (ul slot_list_getitem.lookup)
 ·exact ty.andThen (ul slot_list_setitem.lookup)
theorem eN{a:Addr}{id n:String}{b:Builtin}{rest:List Value}{Q:Value->Shared->Prop}(L:LL w s.heap a)(l:builtinKind id=some .slot\/builtinKind id=some .method)(g:splitId id=some ("list",n))(hp:plainId id=true)
 (m:entryFor table id=some b) (i:argsOk id ⟨.ref a::rest,[]⟩) (j:wpAny (model pw w) A.in1 (b ⟨.ref a::rest,[]⟩) (λc s'=>∃v,c=.done (.ret v)/\Q v s') E s):
 wpAny (model pw w) A (call (.builtin id) (.ref a::rest)) Q E s:=by
 have o:=zQ j (Q':=λc s'=>match c with|.done (.ret v)=>Q v s'|_=>False) (λc s' d=>el12 d λv e q=>by subst e;exact q) λ_ _ e=>e;refine uR (codeAny_call_builtin hp m ?_);have c:=zQ j (Q':=λc s'=>match c with|.done f=>(match(Except.ok f:Result)with|.ok (.ret v)=>Q v s'|.ok _=>False|.error e=>E e s')|.again k=>k.quiet=true/\codeAny (model pw w) A k (λr s'=>match r with|.ok (.ret v)=>Q v s'|.ok _=>False|.error e=>E e s') s') (λc s' d=>el12 d λv e q=>by subst e;exact q) λ_ _ e=>e;rcases l with h|h
 ·exact check_slot h g L.inst i c
 ·exact kfo_check h g L.inst i c
theorem iw{a:Addr}{name:Str}{id:String}{args:List Value}{Q:Option Value->Shared->Prop}(h:Looks (model pw w) s.heap (specialOf (.ref a) name) (some (.builtin id)))(b:∀self,bindSpecial (.builtin id) self=pure (.builtin id,[self]))
 (c:wpAny (model pw w) A (call (.builtin id) (.ref a::args)) (λv=>Q (some v)) E s):wpAny (model pw w) A (callSpecial? (.ref a) name args) Q E s:=by
 unfold callSpecial?;refine zA (h.here ?_)
 skip
 refine yJ (zA ?_);rw[b];exact zD (zA (zQ c (λv s' q=>zD q) λ_ _ e=>e))
theorem LL.getItem{a:Addr}{i:Value}{Q:Value->Shared->Prop}(L:LL w s.heap a)(c:wpAny (model pw w) A.in1 (Builtin.«list.__getitem__» ⟨[.ref a,i],[]⟩) (λb s'=>∃v,b=.done (.ret v)/\Q v s') E s):
 wpAny (model pw w) A (getItem (.ref a) i) Q E s:=by
 unfold PySem.getItem;refine yJ (zA ((L.key _ _).here (zA (iw L.get slot_list_getitem.bind ?_))));exact eN L (.inr (by decide +kernel)) (n:="__getitem__") (by decide +kernel) slot_list_getitem.plain entry_list_getitem (args_list_getitem _ _) (zQ c (λb s' ⟨v,e,q⟩=>⟨v,e,zD q⟩) λ_ _ e=>e)
theorem LL.setItem{a:Addr}{i v:Value}{Q:Unit->Shared->Prop}(L:LL w s.heap a)(c:wpAny (model pw w) A.in1 (Builtin.«list.__setitem__» ⟨[.ref a,i,v],[]⟩) (λb s'=>∃v,b=.done (.ret v)/\Q () s') E s):
 wpAny (model pw w) A (setItem (.ref a) i v) Q E s:=by
 unfold PySem.setItem;refine yJ (zA ((L.key _ _).here (zA (iw L.set slot_list_setitem.bind ?_))));exact eN L (.inl (by decide +kernel)) (n:="__setitem__") (by decide +kernel) slot_list_setitem.plain entry_list_setitem (args_list_setitem _ _ _) (zQ c (λb s' ⟨v,e,q⟩=>⟨v,e,zD q⟩) λ_ _ e=>e)
theorem Ev:∀{a:Addr}{o:Obj}{xs:Array Value}{n:Nat}{k:Int}{t:Tok}{j:Nat}{x:Value}{Q:Value->Shared->Prop}(i:s.heap.get? a=some o)(l:o.data=.seq xs n)(c:bl k xs.size=some j)(m:xs[j]?=some x)(h:Q x s),
 wpAny (model pw w) A (Builtin.«list.__getitem__» ⟨[.ref a,.int k t],[]⟩) (λd s'=>∃v,d=.done (.ret v)/\Q v s') E s:=by
 revert A s E;exists b5,A,s,E,a,o,xs,n,k,t,j,x,Q;intros;show wpAny _ _ (jA (.int k t)>>=_) _ _ s
 refine cE (kM c) λp e f=>?_;refine cE (eP c) λ_ r q=>?_;rcases q with ⟨b,rfl⟩|⟨b,u,rfl⟩
 ·refine zA (uX (fitsIndex_of b f) ?_);clear p e f c;obtain⟨j,rfl⟩:=Int.eq_ofNat_of_zero_le b
  skip
  refine zA (zA (wpAny_seqItemAt i l (zD ?_)));have g:xs[j]?=some x:=m;rw[g];exact zD (av x rfl h)
 ·refine zA (uX (fitsIndex_neg b e) ?_);clear p e f c;obtain⟨j,rfl⟩:∃j:Nat,k=Int.negSucc j:=by
   cases k with
   | ofNat n=>exact absurd b (ua.mpr (zX n))
   | negSucc n=>exact⟨n,rfl⟩
  skip
  refine zA (zA (uA i l (zD ?_)));rw[(PySem.seqIndex_neg b u)];simp only[zp,m,jO];exact zD (av x rfl h)
theorem B_set:∀{a:Addr}{o:Obj}{xs:Array Value}{n:Nat}{k:Int}{t:Tok}{j:Nat}{y:Value}{Q:Shared->Prop}(e:s.heap.get? a=some o)(f:o.data=.seq xs n)(g:bl k xs.size=some j)(h:Q {s with heap:=s.heap.update a (zw (·.setIfInBounds j y))}),
 wpAny (model pw w) A (Builtin.«list.__setitem__» ⟨[.ref a,.int k t,y],[]⟩) (λi s'=>∃v,i=.done (.ret v)/\Q s') E s:=by
 revert A s E;exists b5,A,s,E,a,o,xs,n,k,t,j,y,Q;intros;show wpAny _ _ (jA (.int k t)>>=_) _ _ s
 refine cE (kM g) λp l m=>?_;refine cE (eP g) λ_ c q=>?_;rcases q with ⟨b,rfl⟩|⟨b,u,rfl⟩
 ·refine zA (uX (fitsIndex_of b m) ?_);clear p l m g;obtain⟨j,rfl⟩:=Int.eq_ofNat_of_zero_le b;have d:j<xs.size:=c;refine(?_:wpAny _ _ ((seqItemAt a j>>=λr=>pure (r.map (j,·)))>>=_) _ _ s);refine zA (zA (wpAny_seqItemAt e f (zD ?_)));refine(uK d)▸?_;exact zA (wpAny_setSeqItemAt e f (zD ⟨.none,rfl,h⟩))
 ·refine zA (uX (fitsIndex_neg b l) ?_);clear p l m g;obtain⟨j,rfl⟩:∃j:Nat,k=Int.negSucc j:=by
   cases k with
   | ofNat n=>exact absurd b (ua.mpr (zX n))
   | negSucc n=>exact⟨n,rfl⟩
  skip
  refine zA (zA (uA e f (zD ?_)));refine(PySem.seqIndex_neg b u)▸?_;simp only[zp,uK c,jO];show wpAny _ _ (setSeqItemAt a _ y>>=_) _ _ s
  exact zA (wpAny_setSeqItemAt e f (zD ⟨.none,rfl,h⟩))
end
section
variable {A:Around}{s:Shared}{E:Value->Shared->Prop}
theorem pF{sl:Addr}{Q:Value×Value×Value->Shared->Prop}(c:s.heap.IsSliceOf sl yl yh .none)(pl:IsPart yl kl)(d:IsPart yh kh)(h:Q (rawPart kl,rawPart kh,.none) s):
 wpAny (model pw w) A (Builtin.List.listSliceParts (.ref sl)) Q E s:=by
 refine cu c λf a e b=>?_;rw[listSliceParts_eq];refine zA (yv a b (x:=.none) rfl (zA (wpAny_listPart (k:=none) .none ?_)));rw[if_neg (show ¬((rawPart none==rawInt 0)=true)from uG)];refine zA (yv a b (x:=yl) rfl (zA (wpAny_listPart pl ?_)));exact zA (yv a b (x:=yh) rfl (zA (wpAny_listPart d (zD h))))
theorem fi{sl:Addr}{c d st:Value}{Q:Option Int->Shared->Prop}(e:s.heap.IsSliceOf sl c d st)(h:Q none s):wpAny (model pw w) A (jA (.ref sl)) Q E s:=by
 refine cu e λf a b g=>?_;dsimp only[jA];refine zA (uh ((av f a b):s.TypeIs (.ref sl) "slice") slice_no_index ?_);dsimp only[Option.isNone_none,if_true];exact zD h
theorem CX:∀{a sl:Addr}{o:Obj}{xs:Array Value}{n:Nat}{d e:Value}{b c:Option Int}{Q:Value->Shared->Prop}(k:s.heap.get? a=some o)(l:o.data=.seq xs n)(f:s.heap.IsSliceOf sl d e .none)(pl:IsPart d b)(m:IsPart e c)(p:xs.size<=sizeLine)(h:Q (.ref s.heap.objs.size) {s with heap:=s.heap.push {cls:=.type "list",data:=.seq (slicePick xs b c none)}}),
 wpAny (model pw w) A (Builtin.«list.__getitem__» ⟨[.ref a,.ref sl],[]⟩) (λg s'=>∃v,g=.done (.ret v)/\Q v s') E s:=by
 revert A s E;exists ce13_,A,s,E,a,sl,o,xs,n,d,e,b,c,Q;intros;show wpAny _ _ (jA (.ref sl)>>=_) _ _ s
 refine zA (fi f ?_);refine cu (id f) λq i j r=>?_;refine zA (wpAny_typeOf ((av q i j):s.TypeIs (.ref sl) "slice") ?_);rw[if_neg (by decide)];refine zA (pF f pl m ?_);refine zA (uA k l ?_);refine zA (zr (sliceIndices_raw b c none xs.size (by decide)) ?_);exact zA (jH (zD (av _ rfl h)) (zB (slicePick_size_le xs b c none) p))
theorem sL(n:Nat)(a b:Option Int):(sliceBounds a b none n).1.toNat=a.elim 0 (clipAt n)/\(max (sliceBounds a b none n).1 (sliceBounds a b none n).2.1).toNat=max (a.elim 0 (clipAt n)) (b.elim n (clipAt n))/\(sliceBounds a b none n).2.2=1:=by
 rw[sliceBounds_plain];refine⟨by dsimp only;rfl,by dsimp only;lia,rfl⟩
theorem sB:∀{a sl b:Addr}{o ob:Obj}{xs ys:Array Value}{n x:Nat}{j k:Value}{c d:Option Int}{Q:Shared->Prop}(f:s.heap.get? a=some o)(g:o.data=.seq xs n)(l:s.heap.get? b=some ob)(m:ob.cls=.type "list")(e:ob.data=.seq ys x)(p:s.heap.IsSliceOf sl j k .none)(pl:IsPart j c)(C:IsPart k d)(i:xs.size+ys.size<=sizeLine)(h:Q {s with heap:=s.heap.update a (zw λzs=>zs.extract 0 (c.elim 0 (clipAt xs.size))++ys++zs.extract (max (c.elim 0 (clipAt xs.size)) (d.elim xs.size (clipAt xs.size))) zs.size)}),
 wpAny (model pw w) A (Builtin.«list.__setitem__» ⟨[.ref a,.ref sl,.ref b],[]⟩) (λr s'=>∃v,r=.done (.ret v)/\Q s') E s:=by
 revert A s E;exists cc,A,s,E,a,sl,b,o,ob,xs;exists bZ,ys,n,x,j,k,c,d,Q;intros;show wpAny _ _ (jA (.ref sl)>>=_) _ _ s
 refine zA (fi p ?_);refine cu (id p) λD t u F=>?_;refine zA (wpAny_typeOf ((av D t u):s.TypeIs (.ref sl) "slice") ?_);rw[if_neg (by decide)];refine zA (pF p pl C ?_);have items:∀{Q':Array Value->Shared->Prop},Q' ys s->wpAny (model pw w) A (Builtin.List.listAllItems (.ref b) "must assign iterable to extended slice") Q' E s:=by
  intro Q' q;unfold Builtin.List.listAllItems;refine zA (wpAny_typeOf (T:="list") (av ob l m) ?_);rw[if_pos (by decide)];exact uA l e q
 refine cE (sL xs.size c d) λy z B=>?_;dsimp only;split
 ·refine zA (uA l e ?_);refine zA (uA f g ?_);refine zA (zr (sliceIndices_raw c d none xs.size (by simp)) ?_);rw[if_pos (by rw[B];decide)];refine zA (jw ?_);rw[if_neg (by unfold vG;simpa using i)];rw[y,z];refine zA (listUpdate_at f g ?_ (zB (zW ..) i) (by simp only[Array.size_append,Array.size_extract];lia));exact zA (uC (zD ⟨.none,rfl,h⟩))
 ·refine zA (items ?_);refine zA (uA f g ?_);refine zA (zr (sliceIndices_raw c d none xs.size (by simp)) ?_);rw[if_pos (by rw[B];decide)];refine zA (jw ?_);rw[if_neg (by unfold vG;simpa using i)];rw[y,z];refine zA (listUpdate_at f g ?_ (zB (zW ..) i) (by simp only[Array.size_append,Array.size_extract];lia));exact zA (uC (zD ⟨.none,rfl,h⟩))
end
noncomputable def dS:O->Option (List V)
 | .list vs=>some vs
 | .acc _ vs=>some vs
 | .inst _=>none
 | .ghost=>none
 | .frozen _ _=>none
noncomputable def ku:O->List V->O
 | .list _,ys=>.list ys
 | .acc fs _,ys=>.acc fs ys
 | o,_=>o
section
variable {F:Fs}{n m:Nat}{sc:Scope}
theorem LL.of_acc(k:aL H0 K){s:Shared}(R:Rep H0 ρ hp s){p:Addr×Addr}(o:Own H0 s ρ p aw fs ox od):LL w s.heap p.1:=by
 refine el12 k.acMro λd e c=>?_;have X:=k.here R;have ty:Looks (model pw w) s.heap (typeOf (.ref p.1)) (.ref aw):=o.inst.type;have sub:∀b,mroIn K aw b=some (d.mro.contains b):=λb=>by unfold mroIn;simp only[e,zp];exact if_neg (by rw[c];simp)
 have sp:∀p∈[(nm "__getitem__","list.__getitem__"),(nm "__setitem__","list.__setitem__"),(nm "__iter__","list.__iter__"),(nm "append","list.append")],∀a,Looks (model pw w) s.heap (typeOf a) (.ref aw)->Looks (model pw w) s.heap (specialOf a p.1) (some (.builtin p.2)):=λq f a h=>h.andThen (jD X (k.acL q f));refine⟨ty.andThen (looks_mroIn X (by rw[sub,c];rfl)),λv name=>?_,sp (nm "__getitem__","list.__getitem__") (zj) _ ty,sp (nm "__setitem__","list.__setitem__") (.tail _ (.head _)) _ ty⟩
 skip
 refine ty.andThen ?_;have:Looks (model pw w) s.heap (seqItemTypes.anyM λn=>isSubtype (.ref aw) (.type n)) false:=anyM_none X (by
  unfold seqItemTypes;simp only[uB,List.all_nil,Bool.and_true];show(mroIn K aw (.type "collections.deque")==some false)=true
  rw[sub,c];rfl)
 refine this.andThen ?_;exact ul rfl
theorem fg:∀{ρ:Rho}{hp:List O}{s:Shared}{j:Nat}{p:Addr×Addr}{ob:O}{vs:List V}(k:aL H0 K)(R:Rep H0 ρ hp s)(g:ρ[j]?=some p)(u:hp[j]?=some ob)(x:dS ob=some vs),
 ∃o xs n,LL w s.heap p.1/\s.heap.get? p.1=some o/\o.data=.seq (List.toArray xs) n/\Al (VR s.heap ρ) vs xs/\((∃l,ob=.list l)->o.cls=.type "list")/\
  ∀(f:Array Value->Array Value) r ys,f xs.toArray=List.toArray r->Al (VR s.heap ρ) ys r->Rep H0 ρ (hp.set j (ku ob ys)) {s with heap:=s.heap.update p.1 (zw f)}/\Step [] ρ ρ s {s with heap:=s.heap.update p.1 (zw f)}:=by
 exists bK,ρ,hp,s,j,p,ob,vs;intro k R g u x;cases ob with
 | inst fs=>contradiction
 | ghost=>contradiction
 | frozen l n=>contradiction
 | list l=>
  refine(zE x)▸?_;obtain⟨⟨A,e⟩,xs,⟨h,t⟩,y⟩:=R.obj j p _ g u;refine in36 _ xs h (LL.of_list (xs:=xs.toArray) ⟨_,t,rfl,h,rfl⟩) t rfl y (λ_=>rfl) (λf r ys z i=>?_);have self:=jI (zw f) t rfl;refine R.turn g (λb ob e c=>?_) (λb o e=>?_) R.gens rfl λv=>⟨?_,r,⟨if(f xs.toArray).size==xs.toArray.size then h else h+1,?_⟩,i.mono v⟩
  ·show(s.heap.update p.1 (zw f)).get? b=_
   exact(yR _ _ (λq=>c (by unfold feet;split<;>simp[q]))).trans e
  ·show ∃o',(s.heap.update p.1 (zw f)).get? b=some o'
   by_cases c:p.1=b
   ·subst c;exact⟨_,self⟩
   ·exact((yR _ _ c).symm)▸⟨o,e⟩
  ·show ∃o',(s.heap.update p.1 (zw f)).get? p.2=some o'
   by_cases c:p.1=p.2
   ·exact c▸⟨_,self⟩
   ·exact((yR _ _ c).symm)▸⟨_,e⟩
  ·refine(?_:(s.heap.update p.1 (zw f)).get? p.1=_);refine self.trans ?_;unfold zw;dsimp only;rw[z]
 | acc fs l=>
  refine(zE x)▸?_;obtain⟨ne,xs,⟨h,sl,t⟩,y,d⟩:=R.obj j p _ g u;refine dk (cq R g u) λC D o=>?_;refine in36 _ xs h (LL.of_acc k R o) t rfl y (λB=>eD B λ_ q=>(by cases q)) (λf r ys z i=>?_);have self:=jI (zw f) t rfl;have a:∀b,p.1≠b->(s.heap.update p.1 (zw f)).get? b=s.heap.get? b:=λb c=>yR _ _ c;refine R.turn g (λb ob e c=>?_) (λb o e=>?_) R.gens rfl λv=>⟨ne,r,⟨if(f xs.toArray).size==xs.toArray.size then h else h+1,sl,?_⟩,i.mono v,d.mono (λo e=>?_) v⟩
  ·show(s.heap.update p.1 (zw f)).get? b=_
   exact(a b (λq=>c (by unfold feet;split<;>simp[q]))).trans e
  ·show ∃o',(s.heap.update p.1 (zw f)).get? b=some o'
   by_cases c:p.1=b
   ·subst c;exact⟨_,self⟩
   ·exact(a b c)▸⟨o,e⟩
  ·skip
   refine self.trans ?_;unfold zw;dsimp only;rw[z]
  ·refine(?_:(s.heap.update p.1 (zw f)).get? p.2=_);exact(a p.2 ne).trans e
theorem Bh{s:Shared}{a:Addr}{b:Expr}{i:Value}{Q:Value->Shared->Prop}(L:LL w s.heap a)(h:wpAny (model pw w) A (getItem (.ref a) i) Q noE s):wpAny (model pw w) A (subscriptTail value b (.ref a) i) Q noE s:=by
 skip
 refine zA (zA (L.get.here ?_));refine zD ?_;obtain⟨c,e⟩:=Br b (.ref a) i;exact e▸(zA (wpAny_operating (zQ h (λv s' q=>zA (wpAny_letTemporaryGo (zD q))) λ_ _ e=>e)))
theorem Cb(k:aL H0 K):ky H0 w:=λA s ρ hp n m p j fs vs i t e v a b Q z R c f g l h=>by
 refine mJ (fg k R c f rfl) λo xs B L q u d _ _=>?_;refine el12 (d.get l) λy x r=>?_;refine Bh L (L.getItem (Ev q u (j:=e) ?_ (by simpa using x) (h y r)));simp only[ze,<-d.length];exact g
theorem xf(k:aL H0 K):lK H0 w:=λA s ρ hp n m p j fs vs E G H I i r sl a b Q J R c t u v x d e f M h=>by
 refine mJ (fg k R c t rfl) λo xs N L y z g _ _=>?_;refine el12 (ew d u) λB pl l=>?_;refine el12 (ew e v) λC D q=>?_;refine Bh L (L.getItem (CX y z x pl D ?_ ?_))
 ·have:=bn;simp only[ze,<-g.length];exact zB f this
 ·have es:slicePick xs.toArray B C none=((xs.drop i).take (r-i)).toArray:=by
   simp only[slicePick_plain];have:xs.toArray.size=vs.length:=by simp[g.length]
   simp only[this,l,q]
  exact es▸(h _ _ (R.newList (qV g i r) s.toks))
end
section
variable {F:Fs}{n m:Nat}{sc:Scope}
theorem mr{o e:Expr}{x:Str}{p:Pos}(T:Top H0)(k:aL H0 K)(q:x∈fldNames)(t:bV e=true)(u:SE H0 w F n m sc o xo)(v:SE H0 w F n m sc e xe):
 SS H0 w F n m sc (.Assign [.Attribute o x p] e pos) (.asgAttr xo x xe):=λA env s ρ st r B d f R l a=>by
 refine bP a λS st1 C a=>?_;refine bP a λU D E a=>?_;refine mE a λG H a=>?_;cases a;refine plainObj_wpAny_Assign_Attribute (v.use T d f R l C λy s1 I J g L M N=>u.use T d f g M E λz s2 b h i O l2 P=>?_) (eF t _ _ _);refine wG k q H i O (h.nilVal g L) λs3 j Q c=>(rU b (((J.trans h).trans j).wide) Q ?_ .next);simp only[c];exact l2.step j i T.size
theorem n4{ts:List Expr}{e:Expr}(h:hM e=true):swappedStores [.Tuple ts kk tp] e env=pure none:=by
 cases e<;>first|rfl|cases h
theorem CT:∀{A:Around}{env:Env}{s:Shared}{ρ:Rho}{hp:List O}{loc:List (Str×V)}{x y:Str}{p1 p2 g:Pos}{i:Nat}{a b:bj}{z:Value}{Q:Unit->Shared->Prop}(T:Top H0)(p:A.handled=none)(j:aN env sc)(B:ap sc x=true)(C:ap sc y=true)(R:Rep H0 ρ hp s)(l:ah H0 s.heap ρ env.locals loc)(r:VR s.heap ρ (.tup [a,b]) z)(h:∀s',Step [env.locals] ρ ρ s s'->Rep H0 ρ hp s'->ah H0 s'.heap ρ env.locals (put (put loc x (ofA a)) y (ofA b))->Q () s'),
 wpAny (model pw w) A (assign (.Tuple [.Name x p1,.Name y p2] i g) env z) Q noE s:=by
 revert sc;exists cc,sc,A,env,s,ρ,hp,loc,x,y;exists bZ,p1,p2,g,i,a,b,z,Q;intros;refine bY r.tupI λt xs f D d=>?_;subst f;obtain⟨u,E,rfl,G,d⟩:=d.cons_inv;obtain⟨v,k,rfl,H,d⟩:=d.cons_inv;cases d.nil_inv;simp only[arm_assign_Tuple];refine zA (jX ?_)
 skip
 refine zA (yJ (unpackItems_tuple (items:=#[u,v]) p D λI J=>?_));refine aA (R.grow (s':={s with heap:=I}) (λc ob e=>J c ob (λq=>absurd (yB e) (q▸(yu _))) e) R.gens rfl) λK o=>?_;refine uS (ju ?_);refine eZ T j B K (l.step o R T.size) (oV G) λs2 L M l2=>?_;refine uS (ju ?_);refine eZ T j C M l2 (oV H) λs3 N P S=>?_;exact wpAny_assignInOrder_none (h s3 (o.wide.trans (L.trans N)) P S)
theorem Di{e:Expr}{x y:Str}{p1 p2:Pos}(T:Top H0)(i:ap sc x=true)(j:ap sc y=true)(k:bV e=true)(o:hM e=true)(h:SE H0 w F n m sc e xe):
 SS H0 w F n m sc (.Assign [.Tuple [.Name x p1,.Name y p2] kk tp] e pos) (.asg2 x y xe):=λA env s ρ st r p c d R l a=>by
 refine bP a λt st1 u a=>?_;refine bE a λf _ a=>mE a λq _ a=>?_;cases a;refine Assign_Tuple (h.use T c d R l u λz s1 b v B g C D=>?_) (by unfold swapsWithSole;exact eF k _ _ _) (n4 o);refine CT T c.handled d i j B C ?_ λs2 E G l2=>(rU b (v.wide.trans E) G l2 .next);have H:t=.tup f.1:=f.2;rw[H,q.2]at g;exact g
theorem hK:∀{ρ:Rho}{hp:List O}{s:Shared}{v:V}{x:Value}{vs:List V}{st:St}(R:Rep H0 ρ hp s)(a:st.hp=hp)(r:VR s.heap ρ v x)(h:items? st v=some vs),
 ∃b xs n,x=.ref b/\s.heap.get? b=some {cls:=.type "list",data:=.seq (List.toArray xs) n}/\Al (VR s.heap ρ) vs xs:=by
 exists bK,ρ,hp,s,v,x,vs,st;intros;refine bE h λk _ h=>mE h λd _ e=>vR k.2 r λp c=>?_;subst e;obtain⟨_,xs,⟨n,f⟩,g⟩:=R.obj _ p _ c (by rw[<-a];exact d.2);exact in33 p.1 xs n rfl f g
theorem slice_list{new:List V}{i j:Nat}{xs ys:List Value}{R:V->Value->Prop}(a:Al R vs xs)(b:Al R new ys):Al R (vs.take i++new++vs.drop (max i j)) (xs.take i++ys++xs.drop (max i j)):=((a.take i).append b).append (a.drop _)
theorem wH(xs ys:List Value)(i j:Nat):(xs.toArray.extract 0 i++ys.toArray++xs.toArray.extract (max i j) xs.toArray.size)=(xs.take i++ys++xs.drop (max i j)).toArray:=by
 apply Array.ext';simp[yX]
theorem qJ:∀{o e:Expr}{I t:Option Expr}{J M N P:X}{p1 p2 pos:Pos}(T:Top H0)(k:aL H0 K)(hc:bV e=true)(h1:SE H0 w F n m sc o J)(h2:SP H0 w F n m sc I M)(h3:SP H0 w F n m sc t N)(h4:SE H0 w F n m sc e P),
 SS H0 w F n m sc (.Assign [.Subscript o (.Slice I t none p1) p2] e pos) (.asgSlice J M N P):=by
 revert F n m sc;exists bZ,F,n,m,sc,o,e,I,t;exists bK,J,M,N,P,p1,p2,pos;intros;exists bK,A,env,s,ρ,st,r,u;intro D E R l a;refine bP a λv1 st1 e1 a=>?_;refine bP a λv2 st2 e2 a=>?_;refine bP a λv3 st3 e3 a=>?_;refine bP a λv4 c e4 a=>?_;refine bE a λnew e5 a=>?_;refine wpAny_Assign_Subscript (h4.use T D E R l e1 λy1 s1 ρ1 x1 R1 r1 l1 el1=>h1.use T D E R1 l1 e2 λy2 s2 ρ2 x2 Q r2 l2 el2=>
  wpAny_Slice (h2.use T D E Q l2 e3 λv s3 ρ3 S G r3 l3 el3=>h3.use T D E G l3 e4 λx d y H h r4 l4 el4=>?_)) (eF hc _ _ _)
 simp only[evalPart_none];refine zD ?_;refine aA (h.push {cls:=.type "slice",data:=.fields #[v,x,.none]} d.toks) λU q=>?_;have hs:(d.heap.push {cls:=.type "slice",data:=.fields #[v,x,.none]}).IsSliceOf d.heap.objs.size v x .none:=(cy _ (zN _ rfl) rfl rfl);have step:Step [] ρ y s {d with heap:=d.heap.push {cls:=.type "slice",data:=.fields #[v,x,.none]}}:=(((x1.trans x2).trans S).trans H).trans q;have W:=q.nilVal h (H.nilVal G (S.nilVal Q (x2.nilVal R1 r1)));have Y:=q.nilVal h (H.nilVal G (S.nilVal Q r2));have Z:=q.nilVal h (H.nilVal G r3);have r4':=q.nilVal h r4;refine pW (hK U (st:=c) rfl W e5) λb ys nb q3_ hb an=>?_;subst q3_;have go:∀(g:Nat)(ob:O)(vs:List V)(f:List V->O),v2=.ref g->c.hp[g]?=some ob->dS ob=some vs->(∀us,ku ob us=f us)->gc c g f vs v3 v4 new=some (r,u)->
  wpAny (model pw w) A (setItem y2 (.ref d.heap.objs.size) (.ref b)) (λ_=>dK H0 env.locals ρ r u s .next) noE {d with heap:=d.heap.push {cls:=.type "slice",data:=.fields #[v,x,.none]}}:=λg ob vs f z B hso hf a=>by
  refine EX a λi j t hj hl er es=>?_;subst er es;refine vR z Y λp hρ=>?_;refine mJ (fg k U hρ B hso) λoo xs nn L ho hd al _ turn=>?_;refine el12 (ew t Z) λkl pl kle=>?_;refine el12 (ew hj r4') λkh ph khe=>?_;have C:xs.toArray.size=vs.length:=by simp[al.length]
  refine L.setItem (sB ho hd hb rfl rfl hs pl ph (by have:=bn;simp only[C,(by simp[an.length]:ys.toArray.size=new.length)];exact zB hl this) ?_);rw[C,kle,khe];refine aA (turn (λzs=>zs.extract 0 i++ys.toArray++zs.extract (max i j) zs.size) _ _ (wH xs ys i j) (slice_list al an)) λR6 x6=>?_;rw[hf]at R6;exact rU y ((step.trans x6).wide) R6 ((l4.step q h T.size).step x6 U T.size) .next
 exact aslE (show aslV c v2 v3 v4 new=_ from a) (λg vs z B a=>go g _ vs _ z B rfl (λ_=>rfl) a) (λg fs vs z B a=>go g _ vs _ z B rfl (λ_=>rfl) a)
noncomputable def ij(e:Expr):Bool := !(e.ctorIdx==26)
theorem Dp{i:Expr}(h:ij i=true)(a b new:Value):augStore i a b new=(do holding [new,a,b] (setItem a b new);release [new,a,b] [];pure .next):=by
 cases i<;>first|rfl|cases h
theorem sw:∀{o i e:Expr}{I J M:X}{p pos:Pos}(T:Top H0)(k:aL H0 K)(hi:ij i=true)(h1:SE H0 w F n m sc o I)(h2:SE H0 w F n m sc i J)(h3:SE H0 w F n m sc e M),
 SS H0 w F n m sc (.AugAssign (.Subscript o i p) .Add e pos) (.augItem I J M):=by
 revert F n m sc;exists b5,F,n,m,sc,o,i,e,I,J,M,p,pos;intros;exists bK,A,env,s,ρ,st,r,st';intro N d R l c;refine bP c λv1 st1 e1 c=>?_;refine bP c λv2 P e2 c=>?_;refine bE c λold B c=>?_;refine bP c λv4 S e4 c=>?_;dsimp only at B;refine augE (show augV S old v4 v1 v2=_ from c) λa b kk U vs j d eb W Y hk C hv f er es=>?_;subst d eb W Y er es;refine wpAny_AugAssign_SubscriptAny (h1.use T N d R l e1 λy1 s1 ρ1 x1 R1 r1 l1 el1=>h2.use T N d R1 l1 e2 λy2 s2 Z x2 D r2 l2 el2=>?_) (Dp hi);have u:=x2.nilVal R1 r1;obtain⟨t,rfl⟩:=r2;have got:∀{Q:Value->Shared->Prop},(∀y,VR s2.heap Z (.str a) y->Q y s2)->wpAny (model pw w) A (getItem y1 (.int U t)) Q noE s2:=λ{Q} hQ=>by
  refine el12 u λp g h=>?_;subst g;have v:∀{ob:O}{E:List V},P.hp[kk]?=some ob->dS ob=some E->(bl U E.length).bind (E[·]?)=some (.str a)->wpAny (model pw w) A (getItem (.ref p.1) (.int U t)) Q noE s2:=λhus hsq B=>bE B λjj hjj hu=>by
   refine mJ (fg k D h hus hsq) λoo xs nn L ho hd x _ _=>?_;refine el12 (x.get hu) λy hy G=>?_;exact L.getItem (Ev ho hd (j:=jj) (by simp only[ze,<-x.length];exact hjj) (by simpa using hy) (hQ y G))
  exact EG B (λi k' o E j Y W d hv C hx=>by
   cases Y;cases W;rcases hv with rfl|⟨fs,rfl⟩
   ·exact v d rfl (Sm.bS C hx)
   ·exact v d rfl (Sm.bS C hx)) (λ_ _ _ _ _ e=>nomatch e) (λ_ _ _ _ _ e=>nomatch e)
 refine got λy G=>h3.use T N d D l2 e4 λy4 s4 q x4 R4 r4 l4 el4=>?_;have ry':=x4.nilVal D G;obtain⟨t1,rfl⟩:=G;obtain⟨t2,rfl⟩:=r4;rw[Str.length_append]at f;refine PyProof.Rows.iadd_str (λt' H=>?_) (by have:=bn;have e:(a++b).length=a.length+b.length:=Str.length_append a b;exact zB f this);have x5:Step [] q q s4 {s4 with toks:=H}:=Step.toks H;have z:=x4.nilVal D u;refine el12 z λp g h=>?_;subst g;refine mJ (fg (s:={s4 with toks:=H}) k (R4.toks H) h hk rfl) λoo xs nn L ho hd x _ turn=>?_;refine L.setItem (B_set ho hd (j:=j) (by simp only[ze,<-x.length];exact C) ?_);obtain⟨R6,x6⟩:=turn (·.setIfInBounds j (.str (a++b) t')) (xs.set j (.str (a++b) t')) (vs.set j (.str (a++b))) (by simp) (x.set j (.str _ _));exact rU q ((((x1.trans x2).trans x4).trans (x5.trans x6)).wide) R6 (l4.step (x5.trans x6) R4 T.size) .next
end
section
variable {F:Fs}{n m:Nat}{sc:Scope}
set_option tactic.hygienic true in
theorem mem_lookup{α β:Type}[BEq α][LawfulBEq α]{x:α}{v:β}:∀{l:List (α×β)},l.lookup x=some v->(x,v)∈l
 | [],h=>by exact no h
 | (a,b)::r,h=>by
  simp only[yY]at h;split at h
  ·rename_i q;obtain rfl:=zE h;rw[beq_iff_eq.mp q];exact zj ..
  ·exact zy _ (mem_lookup h)
theorem Rep.ns{s:Shared}(R:Rep H0 ρ hp s){a:Addr}{b:Str->Option Value}(h:H0.Ns a b)(c:a∉aO):s.heap.Ns a b:=gB h λo e=>R.old a o e c
theorem eE{s:Shared}{x:Str}{p:Pos}{v:Value}{b:Str->Option Value}(a:aN env sc)(c:bx sc x=true)(R:Rep H0 ρ hp s)(d:H0.Ns mainGlobals b)(e:b x=some v)
 {Q:Value->Shared->Prop} (h:Q v s):wpAny (model pw w) A (eval (.Name x p) env) Q noE s:=
 uv a.kind (by unfold Env.kindOf;rw[a.names];exact(cA c).1) (loadGlobal_global (by rw[a.glob];exact R.ns d (by decide)) e h) (cA c).2
theorem fE{s:Shared}{x:Str}{p:Pos}{v:Value}{b c:Str->Option Value}(a:aN env sc)(d:bx sc x=true)(R:Rep H0 ρ hp s)(e:H0.Ns mainGlobals b)(f:b x=none)
 (g:H0.Ns builtinsNs c) (i:c x=some v) {Q:Value->Shared->Prop} (h:Q v s):wpAny (model pw w) A (eval (.Name x p) env) Q noE s:=
 uv a.kind (by unfold Env.kindOf;rw[a.names];exact(cA d).1) (loadGlobal_builtin (by rw[a.glob];exact R.ns e (by decide)) f (by rw[a.blt];exact R.ns g (by decide)) i h) (cA d).2
theorem Fd:∀{x:Str}{t:Nat}{p:Pos}(T:Top H0)(a:bx sc x=true)(b:cm.lookup x=some t),SE H0 w F n m sc (.Name x p) (.top t):=by
 revert F n m sc;exists bK,F,n,m,sc,x,t,p;intros;exists bK,A,env,s,ρ,st,v,c;intro g d R l e;cases(show some _=_ from e);obtain⟨i,f,_,_,_,h,_⟩:=T.glob;exact eE d a R f (h _ (mem_lookup b)) ⟨aC.here R rfl rfl rfl (.top t),rfl⟩
theorem z3:∀{x:Str}{c:Str}{p:Pos}(T:Top H0)(b:bx sc x=true)(a:constNames.lookup x=some c),SE H0 w F n m sc (.Name x p) (.str c):=by
 revert F n m sc;exists bK,F,n,m,sc,x,c,p;intros;exists bK,A,env,s,ρ,st,v,d;intro i e R l f;cases(show some _=_ from f);obtain⟨j,g,_,_,_,_,h,_⟩:=T.glob;obtain⟨t,a⟩:=h _ (mem_lookup a);exact eE e b R g a ⟨aC.here R rfl rfl rfl (.str c t),rfl⟩
theorem eX:∀{es:List Expr},es.all cg=true->backTo pos (starEach es env)=es.map λe=>(false,eval e env)
 | [],_=>rfl
 | e::es,h=>by
  obtain⟨a,b⟩:=yN.mp (uB▸h);rw[cG a];show(false,eval e env)::backTo pos (starEach es env)=_
  rw[eX b];rfl
theorem iz(h:es.all cg=true):(backTo pos (starEach es env)).any (·.1)=false:=by
 rw[eX h];simp
theorem iZ:∀{A:Around}{env:Env}{s:Shared}{ρ:Rho}{st c:St}{f:Value}{es:List Expr}{xs:List X}{vs:List V}{pos:Pos}{Q:Args->Shared->Prop}(hp:es.all cg=true)(x:es.length=xs.length)(h:SEs H0 w F n m sc es xs)(o:bt A n m)(p:aN env sc)(R:Rep H0 ρ st.hp s)(l:ah H0 s.heap ρ env.locals st.loc)(i:evs F xs st=some (vs,c))(k:∀ys s1 d,Step [] ρ d s s1->Rep H0 d c.hp s1->Al (VR s1.heap d) vs ys->ah H0 s1.heap d env.locals c.loc->c.loc=st.loc->Q ⟨ys,[]⟩ s1),
 wpAny (model pw w) A (evalArgs f true (backTo pos (starEach es env)) []) Q noE s:=by
 revert F n m sc;exists bZ,F,n,m,sc,A,env,s,ρ;exists bZ,st,c,f,es,xs,vs,pos,Q;intros;have j:=h A env s ρ st vs c pos o p R l i;cases es with
 | nil=>
  cases xs with
  | cons _ _=>contradiction
  | nil=>
   cases(show some _=_ from i);exact PySem.evalArgs_none (k [] s ρ (Step.refl _ _ _) R .nil l rfl)
 | cons e es=>
  obtain⟨a,b⟩:=yN.mp (uB▸hp);rw[cG a]at j⊢;exact evalArgs_plain (zQ j (λys s1 g=>ws g λd q r t u v=>k ys s1 d q r t u v) λ_ _ e=>e)
theorem fn_id:∀{x:Str}{i:Nat}(h:cp.lookup x=some i),i∈br:=by
 exists ce2_,x,i;intro h;have:=mem_lookup h;revert this;unfold cp;simp only[zM,Prod.mk.injEq,yM,or_false];unfold br;intro q;rcases q with q|q|q|q|q|q|q<;>rw[q.2]<;>decide
theorem lI:∀i∈br,ae i∉aO:=by decide
theorem pX{A:Around}{s:Shared}{ρ:Rho}{st:St}{i:Nat}{vs:List V}{ys:List Value}{v:V}{b:St}(sf:SF H0 w F n)(c:bt A n m)(R:Rep H0 ρ st.hp s)(f:Al (VR s.heap ρ) vs ys)(d:cF F i vs st=some (v,b))
 {Q:Value->Shared->Prop} (k:∀y s1 a,Step [] ρ a s s1->Rep H0 a b.hp s1->VR s1.heap a v y->b.loc=st.loc->Q y s1):wpAny (model pw w) A (call (.ref (ae i)) ys) Q noE s:=by
 unfold cF at d;refine mP d λu hp e d=>?_;cases d;refine uR (jm (sf A s ρ st.hp i vs ys _ hp ⟨c.handled,by have:=c.depth;exact zB this (zH ..),by have:=c.units;exact fk1 this,c.frames,c.guards⟩ R f e) λr s' ⟨y,g,a,h,j,l⟩=>?_);subst g;exact k y s' a h j l rfl
theorem i3{s:Shared}{i:Nat}{Q:Value->Shared->Prop}(T:Top H0)(b:i∈br)
 (h:wpAny (model pw w) A (evalArgs (.ref (ae i)) true args []) (λx a=>(∃ρ hp,Rep H0 ρ hp a)/\wpAny (model pw w) A (call (.ref (ae i)) (first++x.pos) x.kw) Q noE a) noE s):
 wpAny (model pw w) A (callWith pos (.ref (ae i)) first args []) Q noE s:=by
 obtain⟨o,fd,c,d⟩:=T.fns i b;exact callWith_function (o:=o) (fd:=fd) (zQ h (λx s1 ⟨⟨ρ,hp,R⟩,q⟩=>⟨⟨R.old _ _ c (lI i b),d⟩,q⟩) λ_ _ e=>e)
theorem CH{x:Str}{i:Nat}{xs:List X}(T:Top H0)(sf:SF H0 w F n)(o:bx sc x=true)(f:cp.lookup x=some i)(hp:es.all cg=true)(p:es.length=xs.length)(h:SEs H0 w F n m sc es xs):
 SE H0 w F n m sc (.Call (.Name x np) es [] pos) (.call i xs):=λA env s ρ st v q g j R l a=>by
 refine bP a λvs st1 r a=>?_;obtain⟨G,t,b,_⟩:=T.glob;refine jf (eE j o R t (b _ (mem_lookup f)) (i3 T (fn_id f) ?_));refine iZ hp p h g j R l r λys s1 u z k B H c=>⟨⟨_,_,k⟩,?_⟩;exact pX sf g k B a λy s2 d C D E e=>⟨⟨d,z.trans C,D,E⟩,e.trans c⟩
end
structure BC (H0:Heap) (w:World) (F:Fs) (n:Nat):Prop where
 min:∀(A:Around)(s:Shared)(ρ:Rho)(st:St)(m:Nat)(x:Value)(a:V)(vs:List V)(l:List (Int×Int))(p:Int×Int)(Q:Value->Shared->Prop),bt A n m->Rep H0 ρ st.hp s->VR s.heap ρ a x->items? st a=some vs->gE vs=some l->mD l=some p->
  (∀y s',aC H0 ρ (.tup [.int p.1,.int p.2]) st.hp s y s'->Q y s')->wpAny (model pw w) A (call (.builtin "min") [x]) Q noE s
 len:∀(A:Around)(s:Shared)(ρ:Rho)(st st':St)(m:Nat)(x:Value)(k:Nat)(fs:List (Str×V))(vs:List V)(i:Int)(Q:Value->Shared->Prop),bt A n m->Rep H0 ρ st.hp s->VR s.heap ρ (.ref k) x->st.hp[k]?=some (.acc fs vs)->cF F 24 [.ref k] st=some (.int i,st')->0<=i->aH i=true->
  (∀y s',aC H0 ρ (.int i) st'.hp s y s'->Q y s')->wpAny (model pw w) A (call (.builtin "len") [x]) Q noE s
 str:∀(A:Around)(s:Shared)(ρ:Rho)(st st':St)(m:Nat)(x:Value)(k:Nat)(fs:List (Str×V))(vs:List V)(c:Str)(Q:Value->Shared->Prop),bt A n m->Rep H0 ρ st.hp s->VR s.heap ρ (.ref k) x->st.hp[k]?=some (.acc fs vs)->cF F 25 [.ref k] st=some (.str c,st')->
  (∀y s',aC H0 ρ (.str c) st'.hp s y s'->Q y s')->wpAny (model pw w) A (call (.type "str") [x]) Q noE s
section
variable {F:Fs}{n m:Nat}{sc:Scope}
theorem vh:∀{vs:List V}{xs:List Value}{l:List Int},nq vs=some l->Al (VR h ρ) vs xs->l.length=xs.length/\∀i v,xs[i]?=some v->∃t,v=zl (l.getD i 0) t
 | [],xs,l,e,al=>by
  obtain rfl:=zE e;rw[al.nil_inv];exact⟨rfl,λi v h=>by simp at h⟩
 | v::vs,xs,l,e,al=>by
  refine bY al.cons_inv λy ys a r b=>?_;subst a;refine bE (show(bW v).bind _=_ from e) λi _ e=>mE e λo f c=>vI i.2 r λt=>?_;subst c;refine aA (vh f b) λg k=>?_;refine⟨congrArg (· + 1) g,λj v d=>?_⟩;cases j with
  | zero=>cases d;exact⟨t,rfl⟩
  | succ j=>exact k j v d
theorem eC:∀(l:List Int)(j:Nat),l.all aH=true->l.length<=100->j<=l.length->preSum (λi=>l.getD i 0) j=(l.take j).sum /\ -(bk*j)<=(l.take j).sum/\(l.take j).sum<=bk*j
 | l,0,_,_,_=>by simp[preSum]
 | l,j+1,h,hl,hj=>by
  refine cE (eC l j h hl (zg hj)) λc f g=>?_;have d:aH (l.getD j 0)=true:=by
   have:j<l.length:=hj;rw[uJ,zP this];exact yD.mp h _ (yZ this)
  have e:l.take (j+1)=l.take j++[l.getD j 0]:=by
   have:j<l.length:=hj;rw[uJ,zP this,List.take_add_one,zP this];rfl
  obtain⟨a,b⟩:=cB.mp d;rw[e,List.sum_append];simp only[ji,List.sum_nil];refine⟨?_,?_,?_⟩
  ·show preSum _ j+_=_
   rw[c];simp
  ·have:bk*((j+1:Nat):Int)=bk*j+bk:=by rw[ue,Int.mul_add];simp
   lia
  ·have:bk*((j+1:Nat):Int)=bk*j+bk:=by rw[ue,Int.mul_add];simp
   lia
@[elab_as_elim] theorem b0{R:V->Value->Prop}{a:V}{ys:List Value}{P:List Value->Prop}(e:vs=[a])(c:Al R vs ys)(k:∀y,R a y->P [y]):P ys:=by
 subst e;refine bY c.cons_inv λy _ q r b=>?_;subst q;cases b.nil_inv;exact k y r
section
variable {A:Around}{s:Shared}{ρ:Rho}{st st':St}{v a:V}{y:Value}{Q:Value->Shared->Prop}
theorem DE:∀(BC:BC H0 w F n)(j:bt A n m)(R:Rep H0 ρ st.hp s)(r:VR s.heap ρ a y)(l:lenV F a st=some (v,st'))(k:∀y s',aC H0 ρ v st'.hp s y s'->st'.loc=st.loc->Q y s'),wpAny (model pw w) A (call (.builtin "len") [y]) Q noE s:=by
 revert F n m A s ρ st st' v a y Q;exists b5,F,n,m,A,s,ρ,st,st',v,a,y,Q;intros;refine lenVE l (λx ev c b e=>?_) (λh d ev f c b e=>?_) λh fs d i o ev f p t u b e=>?_
 ·subst b e;exact vS ev r λ_=>P.len_str (by have:=bn;unfold lid at c;lia) (k _ _ (aC.here R rfl rfl rfl (.int _ _)) rfl)
 ·subst b e;refine qP (VR.list R (ev▸r) f) λq xs B _ e z ax _=>?_;subst e;have g:s.heap.IsList q.1 xs.toArray:=⟨_,z,rfl,_,rfl⟩;refine call_len_list g (by rw[ze,<-ax.length];unfold lid at c;lia) ?_;have:(xs.toArray.size:Int)=d.length:=by rw[ze,ax.length]
  rw[this];exact k _ _ (aC.here R rfl rfl rfl (.int _ _)) rfl
 ·subst b e ev;exact BC.len A s ρ st _ m y h fs d i Q j R r f (by show(F 24 _ _).map _=_;rw[p];rfl) t u λy s' P=>k y s' P rfl
theorem DK:∀{p:List V}{l:List Int}(D:bt A n m)(R:Rep H0 ρ st.hp s)(r:VR s.heap ρ a y)(E:items? st a=some p)(G:nq p=some l)(H:(l.all aH&&decide (l.length<=100))=true)(k:∀y s',aC H0 ρ (.int l.sum) st.hp s y s'->Q y s'),wpAny (model pw w) A (call (.builtin "sum") [y]) Q noE s:=by
 revert n m A s ρ st a y Q;exists ck,n,m,A,s,ρ,st,a,y,Q,p,l;intros;refine pW (hK R (st:=st) rfl r E) λb xs S t u ax=>?_;subst t;have g:s.heap.IsList b xs.toArray:=⟨_,u,rfl,_,rfl⟩;obtain⟨x,o⟩:=yN.mp H;have o:=of_decide_eq_true o;obtain⟨d,h⟩:=vh G ax;have z:b≠s.heap.objs.size:=zd (yB u);refine call_sum_walk (vO g ⟨s.heap.objs.size,[s.heap.objs.size,b],[s.heap.objs.size],xs.toArray.size,_,_,λi=>l.getD i 0,rfl,Walks.list (A:=A.in1) D.handled _ b z xs.toArray,?_,?_,?_,?_,?_⟩)
 ·exact⟨⟨_,zN _ rfl,rfl,rfl⟩,g.push _⟩
 ·intro c B;show c<(s.heap.push _).objs.size
  rw[yW];rcases zM.mp B with rfl|B
  ·exact zq _
  ·rw[zG.mp B];exact yL (yB u)
 ·intro i v I;exact h i v (by simpa using I)
 ·intro j J;have f:j<l.length:=by rw[d];simpa using J
  refine cE (eC l (j+1) x o f) λC T U=>?_;obtain⟨W,X⟩:=cB.mp (yD.mp x _ (yZ f));have Y:bk*((j+1:Nat):Int)<=bk*100:=Int.mul_le_mul_of_nonneg_left (by lia) (by decide);unfold InLong;rw[C];simp only[uJ,zP f,vQ];unfold bk at*;lia
 ·intro K L Z M;have N:xs.toArray.size=l.length:=by rw[d];simp
  obtain⟨C,_⟩:=eC l l.length x o (zY _);rw[N,C,uw];obtain⟨O,P⟩:=R.grow (s':={s with heap:=K,toks:=L}) (λc ob e=>M c ob (λq=>by
   have:=yB e;rw[zG.mp q]at this;exact yu _ this) (zJ _ e)) R.gens rfl
  exact k _ _ ⟨ρ,P,O,.int _ _⟩
theorem Dx(R:Rep H0 ρ st.hp s){c:Nat}(e:a=.str z)(b:z.cps.toList=[c])(r:VR s.heap ρ a y)(k:∀y s',aC H0 ρ (.int c) st.hp s y s'->Q y s'):wpAny (model pw w) A (call (.builtin "ord") [y]) Q noE s:=by
 have d:z=⟨#[c]⟩:=by
  obtain⟨⟨a⟩⟩:=z;have:a=[c]:=b;rw[this]
 subst d;exact vS e r λ_=>P.ord_of_char (k _ _ (aC.here R rfl rfl rfl (.int _ _)))
theorem wq{ys:List Value}{x:Str}{f:Value}{B:Str->Option Value}(T:Top H0)(BC:BC H0 w F n)(I:H0.Ns builtinsNs B)(J:B x=some f)
 (C:bt A n m) (R:Rep H0 ρ st.hp s) (q:Al (VR s.heap ρ) vs ys) (E:iE F x vs st=some (v,st')) (k:∀y s',aC H0 ρ v st'.hp s y s'->st'.loc=st.loc->Q y s'):wpAny (model pw w) A (call f ys) Q noE s:=by
 obtain⟨G,u,L,M,N,O,S,U,_⟩:=T.blt;have W:B=G:=by funext z;exact I.agree u z
 subst W;have b:∀{z:Str}{g:Value},x=z->B z=some g->f=g:=λe h=>zE (J.symm.trans (e▸h));clear J I u;refine bltE E (λa d j E=>b0 d q λy r=>b j L▸DE BC C R r E k) (λa z c d j X Y o e=>b0 d q λy r=>b j M▸Dx R X Y r λy s' P=>k y s' (o▸e▸P) (e▸rfl))
  (λa i d j Z K o e=>b0 d q λy r=>b j N▸vI Z r λ_=>chr_of_range K.1 (ik1 K.2) (k _ _ (o▸e▸aC.here R rfl rfl rfl (.str _ _)) (e▸rfl))) (λa D l d j t H hs o e=>b0 d q λy r=>b j O▸DK C R r t H hs λy s' P=>k y s' (o▸e▸P) (e▸rfl))
  (λa D l p d j t H e3 o e=>b0 d q λy r=>b j S▸BC.min A s ρ st m y a D l p Q C R r t H e3 λy s' P=>k y s' (o▸e▸P) (e▸rfl)) λkk fs D c d j hk t o=>b0 d q λy r=>b j U▸BC.str A s ρ st _ m y kk fs D c Q C R r hk (d▸t) λy s' P=>k y s' (o▸P) (tH t λ_ _ e=>by rw[e])
end
end
section
variable {F:Fs}{n m:Nat}{sc:Scope}
theorem GF:∀{x:Str}{es:List Expr}{xs:List X}{q pos:Pos}(T:Top H0)(BC:BC H0 w F n)(z:bx sc x=true)(e:x∈cl)(hp:es.all cg=true)(r:es.length=xs.length)(h:SEs H0 w F n m sc es xs),
 SE H0 w F n m sc (.Call (.Name x q) es [] pos) (.blt x xs):=by
 revert F n m sc;exists cc,F,n,m,sc,x,es,xs,q,pos;intros;exists bK,A,env,s,ρ,st,v,b;intro g j R l k;refine bP k λvs st1 t k=>?_;refine wO T.glob λQ B _ _ _ _ _ C=>?_;obtain⟨D,u,E,G,H,I,J,K,_⟩:=id T.blt;have val:∃f,D x=some f/\((∃i,f=.builtin i)\/∃i,f=.type i):=by
  unfold cl at e;simp only[zM,yM,or_false]at e;rcases e with rfl|rfl|rfl|rfl|rfl|rfl
  ·exact av _ E (.inl ⟨_,rfl⟩)
  ·exact av _ G (.inl ⟨_,rfl⟩)
  ·exact av _ H (.inl ⟨_,rfl⟩)
  ·exact av _ I (.inl ⟨_,rfl⟩)
  ·exact av _ J (.inl ⟨_,rfl⟩)
  ·exact av _ K (.inr ⟨_,rfl⟩)
 refine el12 val λf c L=>?_;refine jf (fE j z R B (C x (List.mem_append_left _ e)) u c ?_);have d:∀ys s1 a,Step [] ρ a s s1->Rep H0 a st1.hp s1->Al (VR s1.heap a) vs ys->ah H0 s1.heap a env.locals st1.loc->st1.loc=st.loc->wpAny (model pw w) A (call f ys) (λy s'=>aC H0 ρ v b.hp s y s'/\b.loc=st.loc) noE s1:=λys s1 a M N O S o=>
  wq T BC u c g N O k λy s2 P p=>⟨P.after M,p.trans o⟩
 rcases L with ⟨i,rfl⟩|⟨i,rfl⟩
 ·exact uE (iz hp) (iZ hp r h g j R l t d)
 ·exact PyProof.Rows.callWith_type (iz hp) (iZ hp r h g j R l t d)
structure Itr (w:World) (A:Around) (I:Addr) (St:List V->Heap->Prop):Prop where
 frame:∀l h h',St l h->(∀o,h.get? I=some o->h'.get? I=some o)->St l h'
 obj:∀l h,St l h->∃o,h.get? I=some o/\cC o
 item:∀(v:V)(l:List V)(s:Shared)(Q:Option Value->Shared->Prop),St (v::l) s.heap->(∀y h' T,(∀h ρ,VR h ρ v y)->St l h'->jl I s.heap h'->Q (some y) {s with heap:=h',toks:=T})->wpAny (model pw w) A (pyNext (.ref I)) Q noE s
 last:∀(s:Shared)(Q:Option Value->Shared->Prop),St [] s.heap->(∀h',Heap.ExtBut I s.heap h'->Q none {s with heap:=h'})->wpAny (model pw w) A (pyNext (.ref I)) Q noE s
theorem Step.through:∀{Ls:List Addr}{I:Addr}{ρ c d:Rho}{s a s₂:Shared}(x:Step Ls ρ c s a)(u:s.heap.get? I=none)(ext:∃h,d=c++h/\∀b∈foot h,a.heap.get? b=none)(alive:∀b o,b≠I->a.heap.get? b=some o->∃o',s₂.heap.get? b=some o')(keep:∀b o,b≠I->a.heap.get? b=some o->b∉foot c->b∉Ls->b∉aO->s₂.heap.get? b=some o)(v:s₂.os=a.os),Step Ls ρ d s s₂:=by
 exists bZ,Ls,I,ρ,c,d,s,a,s₂;intros;obtain⟨⟨h,rfl,g⟩,l,k,i⟩:=x;obtain⟨w,rfl,j⟩:=ext;have ne:∀b o,s.heap.get? b=some o->b≠I:=λb o e q=>by simp only[q,u]at e;exact no e
 refine⟨(av (h++w) (yG ..) (λb f=>?_)),λb o e=>let⟨y,z⟩:=l b o e;alive b y (ne b o e) z,λb o e p r t=>?_,v.trans i⟩
 ·rw[aj]at f;refine(zb.mp f).elim (λf=>?_) λf=>?_
  ·exact g b f
  ·exact gi (l b) (j b f)
 ·refine keep b o (ne b o e) (k b o e p r t) (λf=>?_) r t;rw[aj]at f;rcases zb.mp f with f|f
  ·exact p f
  ·have:=g b f;replace this:=e.symm.trans this;cases this
theorem Rep.but2{Ls:List Addr}{ρ:Rho}{hp:List O}{s s':Shared}(R:Rep H0 ρ hp s)(k:∀b ob,s.heap.get? b=some ob->b∉Ls->s'.heap.get? b=some ob)(g:AllBare s'.gens)
 (j:∀b∈Ls,H0.objs.size<=b/\b∉foot ρ) (z:∀b∈Ls,∀o,s.heap.get? b=some o->cC o):Rep H0 ρ hp s'/\∀v y,VR s.heap ρ v y->VR s'.heap ρ v y:=by
 have w:∀v y,VR s.heap ρ v y->VR s'.heap ρ v y:=λv y r=>r.mono (λa l t A=>⟨t.keep λo e c f=>dk f λys n d=>k a o e λq=>z a q o e c ys n d,A⟩) λ_ _ e=>e;refine⟨⟨λb ob e h=>k b ob (R.old b ob e h) λq=>absurd (yB e) (vJ.mpr (j b q).1),?_,g,R.len,λi p ob x B=>(R.obj i p ob x B).mono (λb u o e=>k b o e λq=>(j b q).2 (ya.mpr (av p (yT x) u))) w,R.apart,R.above,R.lo⟩,w⟩;exact R.tab.but λb u ob e=>k b ob e λq=>absurd (zR (io u) R.lo.big) (vJ.mpr (j b q).1)
theorem ah.but2:∀{Ls:List Addr}{ρ:Rho}{s s':Shared}{L:Addr}{loc:List (Str×V)}(l:ah H0 s.heap ρ L loc)(k:∀b ob,s.heap.get? b=some ob->b∉Ls->s'.heap.get? b=some ob)(c:L∉Ls)(d:∀v y,VR s.heap ρ v y->VR s'.heap ρ v y),
 ah H0 s'.heap ρ L loc:=by
 exists dI,Ls,ρ,s,s',L,loc;intros;obtain⟨f,g,h,i,j⟩:=l;exact⟨f,g,h,gB i (λo e=>k L o e c),λy v e=>let⟨z,a,b⟩:=j y v e;(av z a (d _ _ b))⟩
noncomputable abbrev FI(H0:Heap)(F:Fs)(x:Str)(b c:List S)(I L:Addr)(d:List V->Heap->Prop)(ρ0:Rho)(s0:Shared)(r:R)(a:St)(k:Nat)(s:Shared):Prop:=
 ∃l ρ st,k=l.length/\Step [L] ρ0 ρ s0 s/\Rep H0 ρ st.hp s/\ah H0 s.heap ρ L st.loc/\I∉foot ρ/\d l s.heap/\turns (λv s=>exs F b (s.set x v)) (λs=>exs F c s) l st=some (r,a)
theorem wu:∀{A:Around}{env:Env}{x:Str}{px:Pos}{b o:List Stmt}{z J:List S}{I:Addr}{B:List V->Heap->Prop}{s0:Shared}{ρ0:Rho}{r:R}{c:St}{l:List V}{s1:Shared}{d:Rho}{st1:St}{E':Value->Shared->Prop}(T:Top H0)(C:Itr w A I B)(rm:bt A n m)(X:aN env sc)(hx:ap sc x=true)(a:SSs H0 w F n m sc b z)(ho:SSs H0 w F n m sc o J)(h0:s0.heap.get? I=none)(Y:H0.objs.size<=I)(D:I≠env.locals)(x1:Step [env.locals] ρ0 d s0 s1)(R1:Rep H0 d st1.hp s1)(l1:ah H0 s1.heap d env.locals st1.loc)(K:I∉foot d)(g:B l s1.heap)(h:turns (λv s=>exs F z (s.set x v)) (λs=>exs F J s) l st1=some (r,c)),
 codeAny (model pw w) A (.forLoop (.Name x px) (.ref I) b o env) (λq s'=>match q with|.ok f=>dK H0 env.locals ρ0 r c s0 f s'|.error e=>E' e s') s1:=by
 revert F n m sc;exists b5,F,n,m,sc,A,env,x,px,b,o,z,J;exists ck,I,B,s0,ρ0,r,c,l,s1,d,st1,E';intros;refine codeAny_forLoop (I:=FI H0 F x z J I env.locals B ρ0 s0 r c) ?_ l.length
  ⟨l,d,st1,rfl,x1,R1,l1,K,g,h⟩
 rintro k s ⟨l,ρ,st,rfl,xs,R,lr,K,g,h⟩;have M:∀b∈[I],∀o,s.heap.get? b=some o->cC o:=by
  refine el12 (C.obj _ _ g) λoI Z nI=>?_;intro b a o e;simp only[zG.mp a,Z]at e;refine(zE e)▸?_;exact nI
 have j:∀b∈[I],H0.objs.size<=b/\b∉foot ρ:=λb a=>(zG.mp a)▸⟨Y,K⟩;have N:env.locals∉[I]:=λq=>D (zG.mp q).symm;cases l with
 | nil=>
  refine zQ (C.last s (λq s2=>q=none/\Step [env.locals] ρ0 ρ s0 s2/\Rep H0 ρ st.hp s2/\ah H0 s2.heap ρ env.locals st.loc) g λi eb=>?_) (λq s2 O=>?_) (λ_ _ e=>yp e)
  ·have k:∀b ob,s.heap.get? b=some ob->b∉[I]->i.get? b=some ob:=λb ob e a=>eb b ob (λq=>a (zG.mpr q)) e;refine aA (R.but2 (s':={s with heap:=i}) k R.gens j M) λE vm=>?_;refine in04 rfl (xs.through h0 (av [] ((zo _).symm) (by simp[foot])) (λb o a e=>⟨o,eb b o a e⟩) (λb o a e _ _ _=>eb b o a e) rfl) E (lr.but2 (s':={s with heap:=i}) k N vm)
  ·refine wZ O λhq x2 E l2=>?_;subst hq;exact zQ (ho A env s2 ρ st r c rm X E l2 h) (λf s3 p=>p.after x2) λ_ _ e=>yp e
 | cons v l=>
  refine zQ (C.item v l s (λq s2=>∃y,q=some y/\VR s2.heap ρ v y/\Step [env.locals] ρ0 ρ s0 s2/\Rep H0 ρ st.hp s2/\ah H0 s2.heap ρ env.locals st.loc/\B l s2.heap) g λy i T' hv P sb=>?_) (λq s2 O=>?_) (λ_ _ e=>yp e)
  ·have k:∀b ob,s.heap.get? b=some ob->b∉[I]->i.get? b=some ob:=λb ob e a=>(sb.2 b (λq=>a (zG.mpr q))).trans e;have kk:∀b o,b≠I->s.heap.get? b=some o->i.get? b=some o:=λb o a e=>k b o e (λq=>a (zG.mp q));refine aA (R.but2 (s':={s with heap:=i,toks:=T'}) k R.gens j M) λE vm=>?_;exact in16 y rfl (hv _ _) (xs.through (s₂:={s with heap:=i,toks:=T'}) h0 (av [] ((zo _).symm) (by simp[foot])) (λb o a e=>⟨o,kk b o a e⟩) (λb o a e _ _ _=>kk b o a e) rfl) E (lr.but2 (s':={s with heap:=i,toks:=T'}) k N vm) P
  ·refine BQ O λy hq rv x2 E l2 t=>?_;subst hq;refine bP (h:(exs F z (st.set x v)).bind _=_) λq G e1 h=>?_;have oI2:=C.obj _ _ t;refine zQ (ju (eZ (A:=A) (Q:=λ_ s3=>Step [env.locals] ρ0 ρ s0 s3/\Rep H0 ρ st.hp s3/\ah H0 s3.heap ρ env.locals (put st.loc x v)/\B l s3.heap) T X hx E l2 rv λs3 L R3 l3=>(in04 (x2.trans L) R3 l3 (C.frame _ _ _ t λo e=>L.keep I o e K (λq=>D (zG.mp q)) (cK T.size Y))))) (λ_ s3 O=>?_) (λ_ _ e=>yp e);refine wZ O λL R3 l3 u=>?_;refine zQ (a A env s3 ρ (st.set x v) q G rm X R3 l3 e1) (λf s4 q4=>?_) λ_ _ e=>yp e;refine lB q4 λH U R4 l4 fr=>?_;have go:(Mine.turns (λv s=>exs F z (s.set x v)) (λs=>exs F J s) l G=some (r,c))->∃m,m<(v::l).length/\FI H0 F x z J I env.locals B ρ0 s0 r c m s4:=λh=>by
    refine⟨l.length,zY _,l,H,G,rfl,L.trans U,R4,l4,?_,C.frame _ _ _ u λo e=>U.keep I o e K (λq=>D (zG.mp q)) (cK T.size Y),h⟩;refine el12 U.ext λδ q0_ hδ=>?_;subst q0_;simp only[aj];intro W;refine(zb.mp W).elim (λW=>?_) λW=>?_
    ·exact K W
    ·refine el12 (C.obj _ _ u) λoI Z _=>?_;have:=hδ I W;replace this:=Z.symm.trans this;cases this
   cases fr with
   | next=>exact go h
   | cont=>exact go h
   | brk=>obtain⟨rfl,rfl⟩:=yz (zE h);exact rU H (L.trans U) R4 l4 .next
   | ret rv=>obtain⟨rfl,rfl⟩:=yz (zE h);exact rU H (L.trans U) R4 l4 (.ret rv)
end
section
variable {F:Fs}{n m:Nat}{sc:Scope}
noncomputable def DD(I:Addr)(l:List V)(h:Heap):Prop:=∃(k:Nat) (a d:Int),l=aX k a d/\IsRangeIter h I a k d
theorem wp(r:A.handled=none)(I:Addr):Itr w A I (DD I) where
 frame:=λl h p ⟨k,a,d,e,i⟩ f=>⟨k,a,d,e,f _ i⟩
 obj:=λl h ⟨k,a,d,e,i⟩=>⟨_,i,λq=>absurd q (by simp)⟩
 item:=λv l s Q b g=>wU b λk a d e i=>by
  cases k with
  | zero=>contradiction
  | succ k=>
   have t:v::l=.int a::aX k (a+d) d:=e;refine aA (List.cons.inj t) λj o=>?_;subst j;subst o;refine wpAny_pyNext_range_item i (by lia) λp hit sb=>g _ p _ (λh ρ=>.int _ _) ⟨k,a+d,d,rfl,?_⟩ sb;have:((k+1:Nat):Int)-1=k:=by lia
   rwa[this]at hit
 last:=λs Q c g=>wU c λk a d e i=>by
  cases k with
  | succ k=>contradiction
  | zero=>exact wpAny_pyNext_range_end r i (by simp) g
noncomputable def StrIt(I:Addr)(l:List V)(h:Heap):Prop:=∃(x:Str) (t:Tok) (i:Nat),l=(x.cps.toList.drop i).map (λc=>.str (one c))/\h.IsStrIter I (strIterType x) x t i
set_option tactic.hygienic true in
theorem tK(hh:A.handled=none)(I:Addr):Itr w A I (StrIt I) where
 frame:=λl h h' ⟨x,t,i,e,o,ho,r⟩ f=>⟨x,t,i,e,o,f _ ho,r⟩
 obj:=λl h ⟨x,t,i,e,o,ho,hc,hd⟩=>⟨o,ho,λ_ ys n q=>by rw[hd]at q;cases q⟩
 item:=λv l s Q q264_ hQ=>wU q264_ λx t i e hit=>by
  cases q:x.cps.toList.drop i with
  | nil=>rw[q]at e;cases e
  | cons c r=>
   rw[q]at e;obtain⟨rfl,rfl⟩:=List.cons.inj e;have hx:x.cps[i]?=some c:=by
    have h1:(x.cps.toList.drop i)[0]?=some c:=by rw[q];rfl
    rw[uI]at h1;simpa using h1
   have hr:r=x.cps.toList.drop (i+1):=by
    have h1:(x.cps.toList.drop i).drop 1=r:=by rw[q];rfl
    rw[uV]at h1;exact h1.symm
   unfold strIterType at hit;split at hit
   ·rename_i ha;exact wpAny_pyNext_ascii_item hit hx λh' hit' sb=>hQ _ h' _ (λh ρ=>.str _ _) ⟨x,t,i+1,by rw[hr],by unfold strIterType;rw[if_pos ha];exact hit'⟩ sb
   ·rename_i ha;exact wpAny_pyNext_wide_item hit hx λh' hit' sb=>hQ _ h' _ (λh ρ=>.str _ _) ⟨x,t,i+1,by rw[hr],by unfold strIterType;rw[if_neg ha];exact hit'⟩ sb
 last:=λs Q q1273_ hQ=>wU q1273_ λx t i e hit=>by
  have hn:x.cps[i]?=none:=by
   have h1:x.cps.toList.drop i=[]:=by
    cases q:x.cps.toList.drop i with
    | nil=>rfl
    | cons c r=>rw[q]at e;cases e
   have:=jq.mp h1;simpa using this
  unfold strIterType at hit;split at hit
  ·exact wpAny_pyNext_ascii_end hh hit hn hQ
  ·exact wpAny_pyNext_wide_end hh hit hn hQ
theorem nT{a b:Int}:jB a b 1=((b-a).toNat:Int):=by
 unfold jB;rw[if_pos (by decide)];split<;>simp<;>lia
theorem nA{a b:Int}:jB a b (-1)=((a-b).toNat:Int):=by
 unfold jB;rw[if_neg (by decide)];split<;>simp<;>lia
theorem cY{i:Int}(h : -2000000000000<=i)(a:i<=2000000000000):Builtin.Range.rangeFitsLong i=true:=by
 unfold Builtin.Range.rangeFitsLong;simp
 exact⟨jg (by decide) h,Int.lt_of_le_of_lt a (by decide)⟩
@[elab_as_elim] theorem so{R:V->Value->Prop}{a b:V}{ys:List Value}{P:List Value->Prop}(e:vs=[a,b])(d:Al R vs ys)(k:∀y z,R a y->R b z->P [y,z]):P ys:=by
 subst e;refine bY d.cons_inv λy _ q r c=>?_;subst q;exact b0 rfl c λz f=>k y z r f
@[elab_as_elim] theorem Am{R:V->Value->Prop}{a b c:V}{ys:List Value}{P:List Value->Prop}(e:vs=[a,b,c])(f:Al R vs ys)(k:∀x y z,R a x->R b y->R c z->P [x,y,z]):P ys:=by
 subst e;refine bY f.cons_inv λx _ q r d=>?_;subst q;exact so rfl d λy z g h=>k x y z r g h
theorem gN{a b c:Int}{n:Nat}(h:jB a b c=n)(i:aH a=true)(j:aH b=true)(k:c=1\/c = -1)(l:n<=100000):vU a b c=true:=by
 obtain⟨f,g⟩:=cB.mp i;obtain⟨d,e⟩:=cB.mp j;unfold bk at f g d e;unfold vU;rw[h,cY (jg (by decide) f) (jg g (by decide)),cY (jg (by decide) d) (jg e (by decide)),cY (by lia) (by lia),cY (zX _) (uZ.mpr (zB l (zH ..)))];rcases k with rfl|rfl
 ·rw[if_pos (by decide),cY (ik1 d) (ik1 e),Bool.or_true];rfl
 ·rw[if_neg (by decide),cY (ik1 d) (ik1 e),Bool.or_true];rfl
theorem qq:∀{A:Around}{s:Shared}{ρ:Rho}{hp:List O}{vs:List V}{ys:List Value}{l:List V}{Q:Value->Shared->Prop}(R:Rep H0 ρ hp s)(j:Al (VR s.heap ρ) vs ys)(h:iM vs=some l)(k:∀r s1 a b c t u v,Step [] ρ ρ s s1->Rep H0 ρ hp s1->IsRange s1.heap r a b c t u v->vU a b c=true->(∃n:Nat,jB a b c=n/\l=aX n a c)->Q (.ref r) s1),wpAny (model pw w) A (call (.type "range") ys) Q noE s:=by
 exists bZ,A,s,ρ,hp,vs,ys,l,Q;intros;refine bo h (λh=>cu (rng1E h) λb f d e=>?_) λh=>bo h (λh=>bY (rng2E h) λa b f d e=>?_) λh=>bY (rng3E h) λa b f d e=>?_
 ·refine b0 f j λy r=>vI rfl r λt=>call_range_1 ?_;refine aA (R.push {cls:=.type "range",data:=.fields #[.int 0 s.toks,.int b t,.int 1 (s.toks+1)]} (s.toks+1+1)) λg i=>?_;have p:jB 0 b 1=(b.toNat:Nat):=by rw[nT,Int.sub_zero]
  exact k _ _ 0 b 1 s.toks t (s.toks+1) i g (zN _ rfl) (gN p rfl d.1 (.inl rfl) (Int.toNat_le.mpr d.2)) ⟨_,p,e⟩
 ·refine so f j λy z r o=>vI rfl r λt=>vI rfl o λu=>call_range_2 ?_;refine aA (R.push {cls:=.type "range",data:=.fields #[.int a t,.int b u,.int 1 s.toks]} (s.toks+1)) λg i=>?_;exact k _ _ a b 1 t u s.toks i g (zN _ rfl) (gN nT d.1 d.2.1 (.inl rfl) (Int.toNat_le.mpr d.2.2)) ⟨_,nT,e⟩
 ·refine Am f j λy z x r o q=>vI rfl r λt=>vI rfl o λu=>vI rfl q λv=>call_range_3 (by decide) ?_ (.inl (PyProof.noPylong_small (by decide)));refine aA (R.push {cls:=.type "range",data:=.fields #[.int a t,.int b u,.int (-1) v]} s.toks) λg i=>?_;exact k _ _ a b (-1) t u v i g (zN _ rfl) (gN nA d.1 d.2.1 (.inr rfl) (Int.toNat_le.mpr d.2.2)) ⟨_,nA,e⟩
end
section
variable {F:Fs}{n m:Nat}{sc:Scope}
theorem Rep.notFoot{s:Shared}(R:Rep H0 ρ hp s):s.heap.objs.size∉foot ρ:=λh=>by
 obtain⟨o,e⟩:=R.footObj h;exact absurd (yB e) (yu _)
theorem ah.neNew:∀{h:Heap}{ρ:Rho}{L:Addr}{loc:List (Str×V)}(l:ah H0 h ρ L loc),h.objs.size≠L:=by
 exists ce4_,h,ρ,L,loc;intro l q;obtain⟨_,_,b,a,_⟩:=l;exact absurd a.lt (by rw[q];exact yu _)
theorem tr{A:Around}{env:Env}{x:Str}{k:Pos}{b o:List Stmt}{d g:List S}{h:List V->Heap->Prop}{ob:Obj}(T:Top H0){s:Shared}(p:Itr w A s.heap.objs.size h)(t:bt A n m)(u:aN env sc)(y:ap sc x=true)
 (z:SSs H0 w F n m sc b d) (B:SSs H0 w F n m sc o g) {ρ:Rho}{r:R}{st a:St}{l:List V} (R:Rep H0 ρ st.hp s) (i:ah H0 s.heap ρ env.locals st.loc) (c:h l (s.heap.push ob))
 (C:turns (λv s=>exs F d (s.set x v)) (λs=>exs F g s) l st=some (r,a)) {E':Value->Shared->Prop}:
 codeAny (model pw w) A (.forLoop (.Name x k) (.ref s.heap.objs.size) b o env) (λq s'=>match q with|.ok f=>dK H0 env.locals ρ r a s f s'|.error e=>E' e s') {s with heap:=s.heap.push ob}:=by
 obtain⟨D,j⟩:=R.push ob s.toks;exact wu T p t u y z B fJ R.low i.neNew j.wide D (i.step j R T.size) R.notFoot c C
theorem CF:∀{x y:Str}{args:List Expr}{xs:List X}{b o:List Stmt}{i j:List S}{E G H pos:Pos}(T:Top H0)(L:ap sc x=true)(M:bx sc y=true)(N:y=nm "range")(hp:args.all cg=true)(O:args.length=xs.length)(h:SEs H0 w F n m sc args xs)(P:SSs H0 w F n m sc b i)(Q:SSs H0 w F n m sc o j),SS H0 w F n m sc (.For (.Name x E) (.Call (.Name y G) args [] H) b o pos) (.forR x xs i j):=by
 revert F n m sc;exists bZ,F,n,m,sc,x,y,args,xs;exists bZ,b,o,i,j,E,G,H,pos;intros;exists bK,A,env,s,ρ,st,r,U;intro k p R l g;refine bP g λvs st1 V g=>?_;refine bE g λvl W g=>?_;obtain⟨mg,Y,_,_,_,_,_,Z⟩:=T.glob;obtain⟨mb,z,_,_,_,_,_,_,_,_,_,m6⟩:=id T.blt;subst N;refine wpAny_For (jf (fE p M R Y (Z _ (by decide)) z m6 (PyProof.Rows.callWith_type (iz hp) (iZ hp O h k p R l V λys s1 ρ1 x1 I al l1 el1=>?_)))) (λ_=>rfl);refine qq I al W λrr s2 a b' c t u v J R2 B C d=>?_;refine wpAny_pyIter_range B C ?_;obtain⟨nn,d,D⟩:=d;refine jm (tr T (wp k.handled _) k p L P Q R2 (l1.step J I T.size) ⟨nn,a,c,D,?_⟩ g (E':=λe s'=>False)) λq s' K=>?_
 ·rw[d];exact zN _ rfl
 ·cases q with
  | ok f=>exact dK.after (x1.trans J).wide K
  | error e=>exact K.elim
noncomputable def bG(e:Expr):Bool := !(e.ctorIdx==7)
theorem fe{e:Expr}(h:bG e=true)(env:Env)(x:Value):foldedSetIterable e env x=pure x:=by
 unfold foldedSetIterable;cases e<;>first|rfl|cases h
theorem Cu:∀{x:Str}{c:Expr}{d:X}{b o:List Stmt}{g i:List S}{k pos:Pos}(T:Top H0)(B:ap sc x=true)(C:bG c=true)(h:SE H0 w F n m sc c d)(D:SSs H0 w F n m sc b g)(E:SSs H0 w F n m sc o i),
 SS H0 w F n m sc (.For (.Name x k) c b o pos) (.forV x d g i):=by
 revert F n m sc;exists ce13_,F,n,m,sc,x,c,d,b,o,g,i,k,pos;intros;exists bK,A,env,s,ρ,st,r,G;intro j p R l a;refine bP a λv st1 H a=>?_;refine bE (show(dO v).bind _=_ from a) λz _ a=>?_;obtain⟨z,rfl⟩:=z;refine wpAny_For (h.use T j p R l H λy s1 I J K L M N=>?_) (fe C env);obtain⟨t,rfl⟩:=L;refine wpAny_pyIter_strU ?_;refine jm (tr T (tK j.handled _) j p B D E K M ⟨z,t,0,rfl,_,zN _ rfl,rfl,rfl⟩ a (E':=λe s'=>False)) λq s' u=>?_;cases q with
 | ok f=>exact dK.after J.wide u
 | error e=>exact u.elim
end
section
variable {A:Around}{s:Shared}{E:Value->Shared->Prop}
theorem lY{a:Addr}{o:Obj}{xs:Array Value}{n:Nat}{v:Value}{Q:Value->Shared->Prop}(d:s.heap.get? a=some o)(e:o.data=.seq xs n)(c:xs.size<=sizeLine)(h:Q .none {s with heap:=s.heap.update a (zw (·.push v))}):
 wpAny (model pw w) A (Builtin.«list.append» ⟨[.ref a,v],[]⟩) (λb s'=>∃v,b=.done (.ret v)/\Q v s') E s:=by
 show wpAny _ _ (updateSeq a (·.push v)>>=λ_=>ret .none) _ _ s
 exact zA (wpAny_updateSeq d e (zD ⟨.none,rfl,h⟩) c (by simp only[Array.size_push];exact uD c))
theorem EP{a:Addr}{o:Obj}{xs:Array Value}{n:Nat}{x:Value}{Q:Value->Shared->Prop}(f:s.heap.get? a=some o)(g:o.data=.seq xs n)(b:xs[0]?=some x)(i:xs.size<=sizeLine)
 (h:Q x {s with heap:=s.heap.update a (zw (·.eraseIdxIfInBounds 0))}):
 wpAny (model pw w) A (Builtin.«list.pop» ⟨[.ref a,.int 0 t],[]⟩) (λc s'=>∃v,c=.done (.ret v)/\Q v s') E s:=by
 show wpAny _ _ (vP (.ref a)>>=_) _ _ s
 refine zA (uA f g ?_);have d:0<xs.size:=by
  rcases jR xs.size with q|q
  ·rw[Array.getElem?_eq_none (zS q)]at b;cases b
  ·exact q
 rw[if_neg (by simp;intro q;rw[q]at d;simp at d)];have e:seqIndex? 0 xs.size=some 0:=by
  unfold seqIndex?;simp only[Int.lt_irrefl,if_false];rw[if_pos (by rw[za];exact⟨decide_eq_true (Int.le_refl 0),decide_eq_true (jh.mpr d)⟩)];rfl
 rw[e];simp only[zp,b,jO];exact zA (listUpdate_at f g (zD ⟨x,rfl,h⟩) i (by simp only[vH];split<;>simp<;>lia))
end
noncomputable def Mth.val:Mth->Value
 | .blt id=>.builtin id
 | .fn i=>.ref (ae i)
theorem mL:PlainAttrs "re.Pattern":=⟨⟨"object.__getattribute__",by rw[ui,jd];kernel_rfl,by decide +kernel⟩,by rw[ui,jd];kernel_rfl⟩
theorem dM:Slot "re.Pattern" "split" "re.Pattern.split":=.of (owner:="re.Pattern") (n:="split") (by rw[ui,jd];kernel_rfl) (by decide +kernel) (by decide +kernel) (by decide +kernel)
 (by first|exact .inl (by decide +kernel)|exact .inr (by decide +kernel)) (by rw[isSubtype_type];kernel_rfl)
theorem gQ:typeOf (.builtin "re.Pattern.split")=pure (.type "method_descriptor"):=by show builtinType _=_;rw[vD];kernel_rfl
section
variable {F:Fs}{n m:Nat}{sc:Scope}
theorem Own.shadow{s:Shared}{p:Addr×Addr}(o:Own H0 s ρ p C fs ox od){x:Str}(h:fs.lookup x=none):shadowIn (some od) x=some false:=by
 obtain⟨d,a,b,_,c⟩:=o.rep;unfold shadowIn;dsimp only;rw[fX a b.ns,c x h];rfl
theorem getm:∀{A:Around}{s:Shared}{ρ:Rho}{st:St}{v:V}{y:Value}{x:Str}{E:Mth}{pl:Sem Bool}{Q:Value×List Value->Shared->Prop}(k:aL H0 K)(TO:eQ H0)(R:Rep H0 ρ st.hp s)(r:VR s.heap ρ v y)(h:aW v x st=some E)(l:Q (E.val,[y]) s),
 wpAny (model pw w) A (getMethod y x pl) Q noE s:=by
 exists ce10_,A,s,ρ,st,v,y,x,E,pl,Q;intros;have j:∀{t:Nat},v=.top t->y=.ref (dx t):=λe=>by subst e;exact r
 have vf:∀{B:Nat}{fs:List (Str×V)}{i:Nat},v=.ref B->st.hp[B]?=some (.inst fs)->fs.lookup x=none->vfMeth.lookup x=some i->Q (.ref (ae i),[y]) s->wpAny (model pw w) A (getMethod y x pl) Q noE s:=λev q g C l=>by
  refine eR ev r λp c d=>?_;clear r;subst c;refine dk (gY R d q) λJ L o=>?_;refine aA (k.vfM _ (mem_lookup C)) λa b=>?_;exact lf (k.here R) o.inst (k.ga _ o.mem) (k.gat _ o.mem) a b (o.shadow g) l
 refine mthE h (λz ev f e=>?_) (λz ev f e=>?_) (λz ev f e=>?_) (λev f e=>?_) (λev f e=>?_) (λB vs ev q f e=>?_) (λB vs ev q f e=>?_) (λB fs i ev q g C e=>?_) (λB fs vs ev q g f e=>?_) λB fs vs i ev q g f C e=>?_
 ·clear h;subst f e;exact eS ev r λ_ c=>by subst c;exact GM.join l
 ·clear h;subst f e;exact eS ev r λ_ c=>by subst c;exact GM.isspace l
 ·clear h;subst f e;exact eS ev r λ_ c=>by subst c;exact GM.lower l
 ·clear h vf;subst f e;have c:=j ev;clear r j;subst c;refine cu TO.dict λo G H I=>?_;have u:=R.old _ _ G (by decide);exact getMethod_builtin ⟨o,u,H⟩ PySem.F.plainAttrs_dict PySem.F.slot_dict_get PySem.F.type_dict_get (λa e=>by cases e;exact⟨o,u,I⟩) l
 ·clear h vf;subst f e;have c:=j ev;clear r j;subst c;refine cu TO.pat λo G H I=>?_;have u:=R.old _ _ G (by decide);exact getMethod_builtin ⟨o,u,H⟩ mL dM gQ (λa e=>by cases e;exact⟨o,u,I⟩) l
 ·clear h vf;subst f e;refine eR ev r λp c d=>?_;clear r;subst c;obtain⟨_,xs,⟨M,D⟩,N⟩:=R.obj _ _ _ d q;exact getMethod_list_append D rfl rfl l
 ·clear h vf;subst f e;refine eR ev r λp c d=>?_;clear r;subst c;obtain⟨_,xs,⟨M,D⟩,N⟩:=R.obj _ _ _ d q;exact getMethod_builtin ⟨_,D,rfl⟩ PySem.F.plainAttrs_list PySem.F.slot_list_pop PySem.F.type_list_pop (λa e=>by cases e;exact⟨_,D,rfl⟩) l
 ·clear h;subst e;exact vf ev q g C l
 ·clear h vf;subst f e;refine eR ev r λp c d=>?_;clear r;subst c;refine dk (cq R d q) λJ L o=>?_;exact pR (k.here R) o.inst (k.ga _ o.mem) (k.gat _ o.mem) (k.acL (nm "append","list.append") (by simp)) type_list_append (o.shadow g) l
 ·clear h vf;subst e;refine eR ev r λp c d=>?_;clear r;subst c;refine dk (cq R d q) λJ L o=>?_;refine aA (k.acM _ (mem_lookup C)) λa b=>?_;exact lf (k.here R) o.inst (k.ga _ o.mem) (k.gat _ o.mem) a b (o.shadow g) l
end
theorem nr:lid+1<=sizeLine:=by decide
theorem tC:∀{vs:List V}{xs:List Value}{l:List Str},strs? vs=some l->Al (VR h ρ) vs xs->StrsAre xs l
 | [],xs,l,e,al=>by obtain rfl:=zE e;rw[al.nil_inv];exact .nil
 | v::vs,xs,l,e,al=>by
  refine bY al.cons_inv λy ys a r b=>?_;subst a;refine bE (show(dO v).bind _=_ from e) λz _ e=>mE e λf d c=>?_;subst c;exact vS z.2 r λt=>.cons _ _ (tC d b)
theorem nP(c:Nat):Txt.lower ⟨#[c]⟩=toS (jM c):=by
 unfold Txt.lower toS;congr 1;unfold placed;have:Unicode.lowerAt #[c] 0=jM c:=by
  unfold Unicode.lowerAt;simp[Unicode.endsWord]
 simp[this]
theorem sC(x:Str):Txt.isspace x=cH x:=by
 unfold Txt.isspace cH;rw[Array.all_toList];rfl
section
variable {F:Fs}{n m:Nat}{sc:Scope}
section
variable {A:Around}{s:Shared}{ρ:Rho}{st st':St}{u:V}{y:Value}{x:Str}{mm:Mth}{vs:List V}{ys:List Value}{Q:Value->Shared->Prop}
theorem Au:∀{z:Str}(R:Rep H0 ρ st.hp s)(r:VR s.heap ρ (.str z) y)(k:Al (VR s.heap ρ) vs ys)(h:aW (.str z) x st=some mm)(i:Ci z x vs st=some (u,st'))(o:∀z s',aC H0 ρ u st'.hp s z s'->st'.loc=st.loc->Q z s'),wpAny (model pw w) A (call mm.val (y::ys)) Q noE s:=by
 revert A s ρ st st' u y x mm vs ys Q;exists ce13_,A,s,ρ,st,st',u,y,x,mm,vs,ys,Q,z;intros;refine vS rfl r λt=>Gx i (λl L p d f B C j v e=>?_) (λd f v e=>?_) λc d f D E e=>?_
 ·clear i;have g:mm=.blt "str.join":=zE ((d▸h).symm.trans Sm.mo_join);subst g e v;refine b0 f k λq G=>?_;refine pW (hK R rfl G B) λb xs M e H ax=>?_;subst e;refine join_list (items:=xs.toArray) ⟨_,H,rfl,_,rfl⟩ (tC C ax) (by unfold lid at j;exact zB j (zH ..)) λN I=>?_;rw[show Txt.join z p=Str.join z p from StrLaws.glued_eq_join z p];exact o _ _ (aC.here (s':={s with toks:=I}) R rfl rfl rfl (.str _ _)) rfl
 ·clear i;have g:mm=.blt "str.isspace":=zE ((d▸h).symm.trans Sm.mo_isspace);subst g e v f;cases k.nil_inv;refine SC.isspace ?_;rw[sC];exact o _ _ (aC.here R rfl rfl rfl (.bool _)) rfl
 ·clear i;have g:mm=.blt "str.lower":=zE ((d▸h).symm.trans Sm.mo_lower);obtain⟨J,j⟩:=m1 E;subst g e J f;cases k.nil_inv;have K:z=⟨#[c]⟩:=by
   obtain⟨⟨a⟩⟩:=z;have:a=[c]:=D;rw[this]
  subst K;refine SC.lower ?_ ?_
  ·rw[nP];have:=bn;unfold Builtin.Str.tooLong;simp;exact zB j this
  ·rw[nP];exact o _ _ (aC.here R rfl rfl rfl (.str _ _)) rfl
theorem AH(tc:TC H0 w)(k:bt A n m)(R:Rep H0 ρ st.hp s)(r:VR s.heap ρ (.top t) y)(l:Al (VR s.heap ρ) vs ys)(h:aW (.top t) x st=some mm)(a:Bk t x vs st=some (u,st'))(o:∀z s',aC H0 ρ u st'.hp s z s'->st'.loc=st.loc->Q z s'):wpAny (model pw w) A (call mm.val (y::ys)) Q noE s:=by
 refine Gj a (λi b c d p e=>?_) λz b c d f v=>?_
 ·clear a;subst b c;have g:=zE (h.symm.trans Sm.mo_get);clear h;cases r;subst g e p;exact b0 d l λq j=>vI rfl j λt=>tc.get A s ρ _ i t _ k.handled R λy T r=>o _ _ (aC.here (s':={s with toks:=T}) R rfl rfl rfl r) rfl
 ·clear a;subst b c;have g:=zE (h.symm.trans Sm.mo_split);clear h;cases r;refine cE (be v) λB C D=>?_;subst g B C;exact b0 d l λq j=>vS rfl j λt=>tc.split A s ρ _ z t _ k.handled R f (by simpa using D) λy s' P=>o y s' P rfl
theorem qB{p:Addr×Addr}{a:V}(k:aL H0 K)(R:Rep H0 ρ st.hp s)(b:ρ[kk]?=some p)(e:st.hp[kk]?=some ob)(c:dS ob=some us)(d:vs=[a])(f:Al (VR s.heap ρ) vs ys)(g:us.length+1<=lid)
 (h:∀s',aC H0 ρ .none (st.hp.set kk (ku ob (us++[a]))) s .none s'->Q .none s'):wpAny (model pw w) A (call (.builtin "list.append") (.ref p.1::ys)) Q noE s:=by
 refine mJ (fg k R b e c) λo xs v L i j ax _ turn=>?_;refine b0 d f λq l=>?_;refine eN L (.inr (by decide +kernel)) (n:="append") (by decide +kernel) slot_list_append.plain entry_list_append (args_list_append _ _) (lY i j (by rw[ze,<-ax.length];exact zB (yo (Nat.le_of_succ_le g)) (zB (uD (zY _)) nr)) ?_);refine aA (turn (·.push q) (xs++[q]) (us++[a]) (by simp) (ax.append (.cons l .nil))) λr t=>?_;exact h _ ⟨ρ,t,r,.none⟩
theorem wB:∀{p:Addr×Addr}{f:List V}{b:Nat}(k:aL H0 K)(R:Rep H0 ρ st.hp s)(c:ρ[b]?=some p)(e:st.hp[b]?=some (.list f))(C:Al (VR s.heap ρ) vs ys)(h:aW (.ref b) x st=some mm)(g:AQ b f x vs st=some (u,st'))(D:∀z s',aC H0 ρ u st'.hp s z s'->st'.loc=st.loc->Q z s'),wpAny (model pw w) A (call mm.val (.ref p.1::ys)) Q noE s:=by
 revert A s ρ st st' u x mm vs ys Q;exists ce14_,A,s,ρ,st,st',u,x,mm,vs,ys,Q,p,f,b;intros;refine GK g (λa i j l r es=>?_) λO rest i j evs l r es=>?_
 ·clear g;subst i;have v:=zE (h.symm.trans (Sm.mo_app e));clear h;subst v r es;exact qB k R c e rfl j C l λs' P=>D _ _ P rfl
 ·clear g;subst i;have v:=zE (h.symm.trans (Sm.mo_pop e));clear h;subst v r es evs;refine b0 j C λq G=>vI rfl G λt=>?_;refine mJ (fg k R c e rfl) λo xs S L H I ax _ turn=>?_;refine bY ax.cons_inv λJ B e M d=>?_;subst e;refine eN L (.inr (by decide +kernel)) (n:="pop") (by decide +kernel) PySem.F.slot_list_pop.plain PySem.F.entry_list_pop (PySem.F.args_list_pop_2 _ _) (EP H I (x:=J) (by simp) (by rw[ze,zL,<-d.length];exact zB (uD l) nr) ?_);refine aA (turn (·.eraseIdxIfInBounds 0) B rest (by simp) d) λN E=>?_;exact D _ _ ⟨ρ,E,N,E.nilVal R M⟩ rfl
theorem Aa:∀{o:Option O}{fs:List (Str×V)}(e:o=some (.inst fs))(h:mthR o x=some mm),∃i,vfMeth.lookup x=some i/\mm=.fn i:=by
 revert x mm;exists ce4_,x,mm,o,fs;intro e h;subst e;exact bo h (λh=>no h) λh=>bo h (λh=>ai (show(if _ then _ else none)=_ from h) λ_ h=>mE h λi a q=>⟨i,a,q.symm⟩) λh=>no h
theorem DS:∀{o:Option O}{fs:List (Str×V)}{b:List V}(e:o=some (.acc fs b))(h:mthR o x=some mm),(x=nm "append"/\mm=.blt "list.append")\/(x≠nm "append"/\∃i,acMeth.lookup x=some i/\mm=.fn i):=by
 revert x mm;exists ce5_,x,mm,o,fs,b;intro e h;subst e;exact bo h (λh=>no h) λh=>bo h (λh=>no h) λh=>ai (show(if _ then _ else none)=_ from h) λ_ h=>dl h (λa h=>.inl ⟨a,(zE h).symm⟩) λa h=>.inr ⟨a,mE h λi c q=>⟨i,c,q.symm⟩⟩
theorem rC:∀{v:V}(T:Top H0)(k:aL H0 K)(tc:TC H0 w)(sf:SF H0 w F n)(C:bt A n m)(R:Rep H0 ρ st.hp s)(r:VR s.heap ρ v y)(g:Al (VR s.heap ρ) vs ys)(h:aW v x st=some mm)(b:cU F v x vs st=some (u,st'))(j:∀z s',aC H0 ρ u st'.hp s z s'->st'.loc=st.loc->Q z s'),wpAny (model pw w) A (call mm.val (y::ys)) Q noE s:=by
 revert F n m A s ρ st st' u y x mm vs ys Q;exists bZ,F,n,m,A,s,ρ,st,st';exists bZ,u,y,x,mm,vs,ys,Q,v;intros;have go:∀{d i:Nat},v=.ref d->mm=.fn i->cF F i (.ref d::vs) st=some (u,st')->wpAny (model pw w) A (call mm.val (y::ys)) Q noE s:=λD E G=>by
  subst D E;exact pX sf C R (.cons r g) G λz s' l H I J L=>j z s' ⟨l,H,I,J⟩ L
 refine bo b (λb=>bE b λz _ b=>Au R (z.2▸r) g (z.2▸h) b j) λb=>bo b (λb=>bE b λt _ b=>AH tc C R (t.2▸r) g (t.2▸h) b j) λb=>bE b λd _ b=>?_;have h:aW (.ref d.1) x st=some mm:=d.2▸h;have h:mthR st.hp[d.1]? x=some mm:=h;refine bo b (λb=>bE b λM _ b=>vR d.2 r λp f=>wB k R f M.2 g h b j) λb=>bo b (λb=>bE b λfs _ b=>?i) λb=>bE b λq _ b=>?a
 case i=>
  refine el12 (Aa fs.2 h) λi o q=>?_;rw[o]at b;exact go d.2 q b
 case a=>
  refine(DS q.2 h).elim (λc=>?_) λc=>?_
  ·obtain⟨B,N⟩:=c;refine bE ((if_pos B).symm.trans b) λa _ b=>ai b λO b=>N▸vR d.2 r λp f=>qB k R f q.2 rfl a.2 g O λs' P=>j _ _ (s1 b▸s2 b▸P) (s2 b▸rfl)
  ·obtain⟨B,i,o,e⟩:=c
   replace b:=(if_neg B).symm.trans b
   rw[o]at b;exact go d.2 e b
end
end
section
variable {F:Fs}{n m:Nat}{sc:Scope}
theorem rH:∀{v:V}{x:Str}{st:St}{i:Nat}(h:aW v x st=some (.fn i)),∃a,v=.ref a/\((∃fs,st.hp[a]?=some (.inst fs)/\fs.lookup x=none/\vfMeth.lookup x=some i)\/(∃fs vs,st.hp[a]?=some (.acc fs vs)/\fs.lookup x=none/\x≠nm "append"/\acMeth.lookup x=some i)):=by
 exists ce4_,v,x,st,i;intro h;exact mthE h (λ_ _ _ e=>nomatch e) (λ_ _ _ e=>nomatch e) (λ_ _ _ e=>nomatch e) (λ_ _ e=>nomatch e) (λ_ _ e=>nomatch e) (λ_ _ _ _ _ e=>nomatch e) (λ_ _ _ _ _ e=>nomatch e) (λa fs j ev b c d e=>⟨a,ev,.inl ⟨fs,b,c,Mth.fn.inj e▸d⟩⟩) (λ_ _ _ _ _ _ _ e=>nomatch e) λa fs vs j ev b c f d e=>⟨a,ev,.inr ⟨fs,vs,b,c,f,Mth.fn.inj e▸d⟩⟩
theorem tM{v:V}{x:Str}{st:St}{i:Nat}(h:aW v x st=some (.fn i)):i∈br:=by
 have a:∀p∈vfMeth,p.2∈br:=by decide
 have b:∀p∈acMeth,p.2∈br:=by decide
 exact(rH h).elim λc h=>h.2.elim (λh=>h.elim λfs h=>a _ (mem_lookup h.2.2)) (λh=>h.elim λfs h=>h.elim λvs h=>b _ (mem_lookup h.2.2.2))
theorem Ac:∀{o:Expr}{x:Str}{a pos:Pos}{es:List Expr}{A:Around}{env:Env}{s:Shared}{Q:Value->Shared->Prop}(j:fx o=true)(b:(a.endLine==pos.line)=true)(hp:es.all cg=true)(d:es.length<30)(h:wpAny (model pw w) A (eval o env) (λi s1=>wpAny (model pw w) A (getMethod i x (do return(<-importBound o env).getD true)) (λq s2=>wpAny (model pw w) A (callWith pos q.1 q.2 (backTo pos (starEach es env)) []) Q noE s2) noE s1) noE s),
 wpAny (model pw w) A (eval (.Call (.Attribute o x a) es [] pos) env) Q noE s:=by
 exists cc,o,x,a,pos,es,A,env,s,Q;intros;rw[arm_eval_Call,oP j];refine zA (zQ h (λi s1 k=>zA (jX ?_)) λ_ _ e=>e);have c:methodCallForm (es.length+([]:List Keyword).length) (backTo pos (starEach es env)) (backToKw pos (keywordEach [] env))=true:=by
  unfold methodCallForm;rw[eX hp];show((es.map λe=>(false,eval e env)).all (λy => !y.1)&&true&&decide (es.length+0+0<30))=true
  simp;exact d
 have g:methodCallPos true o env a pos=pure pos:=by unfold methodCallPos;simp[b]
 unfold methodCall;rw[c];refine zA (yJ ?_);show wpAny _ _ (getMethod i x _) _ _ _
 refine zQ k (λq s2 l=>?_) λ_ _ e=>e;obtain⟨f,first⟩:=q;exact zA (zr g l)
theorem tR:∀{o:Expr}{D:X}{x:Str}{b pos:Pos}{es:List Expr}{xs:List X}(T:Top H0)(k:aL H0 K)(TO:eQ H0)(tc:TC H0 w)(sf:SF H0 w F n)(U:fx o=true)(f:(b.endLine==pos.line)=true)(hp:es.all cg=true)(p:es.length<30)(L:es.length=xs.length)(V:SE H0 w F n m sc o D)(M:SEs H0 w F n m sc es xs),SE H0 w F n m sc (.Call (.Attribute o x b) es [] pos) (.meth D x xs):=by
 revert F n m sc;exists ck,F,n,m,sc,o,D,x,b,pos,es,xs;intros;exists bK,A,env,s,ρ,st,v,q;intro B E R l e;refine bP e λv1 st1 W e=>?_;refine bP e λvs r N e=>?_;refine ai e λY e=>?_;obtain⟨G,g⟩:=Y;obtain⟨O,d⟩:=uQ.mp G;dsimp only at d g e;rw[d]at g;refine Ac U f hp p (V.use T B E R l W λy s1 H Z C Q S I=>getm k TO C Q d ?_);have t:∀ys s2 a,Step [] H a s1 s2->Rep H0 a r.hp s2->Al (VR s2.heap a) vs ys->r.loc=st1.loc->wpAny (model pw w) A (call O.val ([y]++ys)) (λz s'=>aC H0 ρ v q.hp s z s'/\q.loc=st.loc) noE s2:=λys s2 a h j u c=>
  rC T k tc sf B j (h.nilVal C Q) u g.symm e λz s3 P J=>⟨P.after (Z.trans h),J.trans (c.trans I)⟩
 cases O with
 | blt id=>exact uE (iz hp) (iZ hp L M B E C S N λys s2 a h j u l2 c=>t ys s2 a h j u c)
 | fn i=>exact i3 T (tM d) (iZ hp L M B E C S N λys s2 a h j u l2 c=>⟨⟨_,_,j⟩,t ys s2 a h j u c⟩)
end
structure Src (H0:Heap) (w:World) (A:Around) (I:Addr) (It:List V->Heap->Prop) (g:List O->Bool) (ρ0:Rho):Prop where
 frame:∀l h h',It l h->(∀o,h.get? I=some o->h'.get? I=some o)->It l h'
 obj:∀l h,It l h->∃o,h.get? I=some o/\cC o
 item:∀(v:V)(l:List V)(s:Shared)(ρ:Rho)(hp:List O)(Q:Option Value->Shared->Prop),Rep H0 ρ hp s->(∃δ,ρ=ρ0++δ)->g hp=true->It (v::l) s.heap->
  (∀y h' T,VR s.heap ρ v y->It l h'->jl I s.heap h'->Q (some y) {s with heap:=h',toks:=T})->wpAny (model pw w) A (pyNext (.ref I)) Q noE s
 last:∀(s:Shared)(ρ:Rho)(hp:List O)(Q:Option Value->Shared->Prop),Rep H0 ρ hp s->(∃δ,ρ=ρ0++δ)->g hp=true->It [] s.heap->(∀h',Heap.ExtBut I s.heap h'->Q none {s with heap:=h'})->wpAny (model pw w) A (pyNext (.ref I)) Q noE s
section
variable {F:Fs}{n m:Nat}{sc:Scope}
theorem FX{b:List V->Heap->Prop}(a:Itr w A I b):Src H0 w A I b (λ_=>true) ρ0 where
 frame:=a.frame
 obj:=a.obj
 item:=λv l s ρ hp Q R _ _ st h=>a.item v l s Q st λy c T d=>h y c T (d _ _)
 last:=λs ρ hp Q R _ _ st h=>a.last s Q st h
noncomputable def Gk(I a:Addr)(all:List V)(l:List V)(h:Heap):Prop:=∃i,l=all.drop i/\h.IsListIter I a i
open Classical in
theorem src_list(J:A.handled=none){k:Nat}{p:Addr×Addr}(u:ρ0[k]?=some p):Src H0 w A I (Gk I p.1 all) (λhp=>decide (hp[k]?=some (.list all))) ρ0 where
 frame:=λl h H ⟨i,e,o,z,r⟩ f=>⟨i,e,o,f _ z,r⟩
 obj:=λl h ⟨i,e,o,z,T,K⟩=>(av o z (λ_ ys n q=>by replace q:=K.symm.trans q;cases q))
 item:=λv l s ρ hp Q R b B c C=>el12 c λi e hit=>by
  obtain⟨D,rfl⟩:=b;have d:(ρ0++D)[k]?=some p:=(zU (zh.mp u).1).trans u;obtain⟨_,xs,⟨L,g⟩,E⟩:=R.obj k p _ d (of_decide_eq_true B);have M:all[i]?=some v:=by
   have j:(all.drop i)[0]?=some v:=by rw[<-e];rfl
   replace j:=uI.symm.trans j
   simpa using j
  have N:l=all.drop (i+1):=by
   have j:(all.drop i).drop 1=l:=by rw[<-e];rfl
   rw[uV]at j;exact j.symm
  refine el12 (E.get M) λy O P=>?_;exact wpAny_pyNext_list_item hit (⟨_,g,rfl,_,rfl⟩:s.heap.IsList p.1 xs.toArray) (x:=y) (by simpa using O) λH t sb=>C y H s.toks P (av (i+1) N t) sb
 last:=λs ρ hp Q R b B a C=>el12 a λi e hit=>by
  refine eD b λD G=>?_;subst G;have d:(ρ0++D)[k]?=some p:=(zU (zh.mp u).1).trans u;obtain⟨_,xs,⟨L,g⟩,E⟩:=R.obj k p _ d (of_decide_eq_true B);have S:xs.toArray[i]?=none:=by
   have:=jq.mp e.symm;refine List.getElem?_toArray.trans ?_;rw[yr];exact E.length▸this
  exact wpAny_pyNext_list_end J hit (⟨_,g,rfl,_,rfl⟩:s.heap.IsList p.1 xs.toArray) S C
noncomputable def AccAt(D:Addr)(acc:List V)(ρ:Rho)(s:Shared):Prop:=∃a xs,s.heap.get? D=some {cls:=.type "list",data:=.seq (List.toArray xs) a}/\Al (VR s.heap ρ) acc xs
theorem AccAt.noTup{acc:List V}{s:Shared}(a:AccAt D acc ρ s):∀b∈[D],∀o,s.heap.get? b=some o->cC o:=by
 refine fw a λf xs c _=>?_;intro b d o e;simp only[zG.mp d,c]at e;refine(zE e)▸?_;exactλq=>absurd q (by simp)
theorem AccAt.step{acc:List V}{s:Shared}(a:AccAt D acc ρ s)(x:Step Ls ρ ρ' s s')(R:Rep H0 ρ hp s)(d:∀b∈Ls,∀o,s.heap.get? b=some o->cC o)(e:D∉foot ρ)(c:D∉Ls)(f:H0.objs.size<=D):AccAt D acc ρ' s':=by
 refine fw a λg xs h i=>?_;exact wM g xs (x.keep D _ h e c (cK R.lo.big f)) (i.mono λv y r=>x.val R d r)
theorem Step.notFoot{s:Shared}(x:Step Ls ρ ρ' s s'){b:Addr}(h:b∉foot ρ){o:Obj}(e:s.heap.get? b=some o):b∉foot ρ':=by
 obtain⟨⟨c,rfl,a⟩,_⟩:=x;rw[aj];intro q;rcases zb.mp q with q|q
 ·exact h q
 ·have:=a b q;replace this:=e.symm.trans this;cases this
noncomputable def Body(H0:Heap)(w:World)(A:Around)(a:Env)(i:List Expr)(elt:Expr)(x:Str)(f:V->List V->List O->Option (List V×List O)):Prop:=
 ∀(s:Shared)(ρ:Rho)(hp:List O)(v:V)(acc b:List V)(d:List O),Rep H0 ρ hp s->ah H0 s.heap ρ a.locals [(x,v)]->f v acc hp=some (b,d)->
  wpAny (model pw w) A (forIn i true λc r=>if r=true then do let j<-isTrue c a (eval c a);pure (yw j)else pure (yw r))
   (λj s3=>∃e h,Step [] ρ e s s3/\Rep H0 e h s3/\
    if j=true then wpAny (model pw w) A (eval elt a) (λy k=>∃g u,Step [] e g s3 k/\Rep H0 g d k/\VR k.heap g u y/\b=acc++[u]/\acc.length+1<=lid) noE s3
    else b=acc/\h=d) noE s
noncomputable def dL(w:World)(A:Around)(c:Code)(I:Addr)(x:Str)(g:Pos)(d:Env)(f:(Shared->Prop)->Shared->Prop):Prop:=
 ∀(R:Result->Shared->Prop)(b:Nat->Shared->Prop),(∀n s,b n s->wpAny (model pw w) A (pyNext (.ref I)) (λr a=>match r with
  | none=>R (.ok .next) a
  | some v=>wpAny (model pw w) A (assign (.Name x g) d v) (λ_ s₂=>f (λe=>∃m,m<n/\b m e) s₂) noE a) noE s)->∀n s,b n s->codeAny (model pw w) A c R s
noncomputable def rT(H0:Heap)(a:Env)(D:Addr)(loc0:List (Str×V))(x:Str)(f:V->List V->List O->Option (List V×List O))(e:(Shared->Prop)->Shared->Prop):Prop:=
 ∀(s:Shared)(ρ:Rho)(hp:List O)(v:V)(acc c:List V)(d:List O),Rep H0 ρ hp s->AccAt D acc ρ s->D∉foot ρ->ah H0 s.heap ρ a.locals (put loc0 x v)->f v acc hp=some (c,d)->
  ∀P:Shared->Prop,(∀s' b,Step [D,a.locals] ρ b s s'->Rep H0 b d s'->D∉foot b->AccAt D c b s'->ah H0 s'.heap b a.locals loc0->P s')->e P s
theorem Step.drop{s:Shared}(x:Step Ls ρ ρ₁ s s₁)(a:s.heap.get? C=none\/C∈Ls)(y:Step [C] ρ₁ ρ₂ s₁ s₂):Step Ls ρ ρ₂ s s₂:=by
 refine a.elim (λa=>?_) λa=>?_
 ·exact x.through a y.ext (λb o _ e=>y.alive b o e) (λb o c e d _ f=>y.keep b o e d (λq=>c (zG.mp q)) f) y.os
 ·exact x.trans (y.weaken λb c=>(zG.mp c)▸a)
theorem Step.drop2:∀{Ls:List Addr}{C D:Addr}{ρ c d:Rho}{s f s₂:Shared}(x:Step Ls ρ c s f)(g:s.heap.get? D=none\/D∈Ls)(h:s.heap.get? C=none\/C∈Ls)(y:Step [D,C] c d f s₂),Step Ls ρ d s s₂:=by
 exists cc,Ls,C,D,ρ,c,d,s,f,s₂;intros;obtain⟨⟨w,rfl,i⟩,t,k,l⟩:=x;obtain⟨⟨z,rfl,p⟩,q,A,r⟩:=y;refine⟨(av (w++z) (yG ..) (λb a=>?_)),λb o e=>let⟨B,E⟩:=t b o e;q b B E,λb o e u j v=>?_,r.trans l⟩
 ·rw[aj]at a;refine(zb.mp a).elim (λa=>?_) λa=>?_
  ·exact i b a
  ·exact gi (t b) (p b a)
 ·refine A b o (k b o e u j v) (λa=>?_) (λa=>?_) v
  ·rw[aj]at a;rcases zb.mp a with a|a
   ·exact u a
   ·have:=i b a;replace this:=e.symm.trans this;cases this
  ·rcases zM.mp a with rfl|a
   ·rcases g with g|g
    ·replace g:=e.symm.trans g;cases g
    ·exact j g
   ·rw[zG.mp a]at e j;rcases h with h|h
    ·replace h:=e.symm.trans h;cases h
    ·exact j h
noncomputable abbrev CI(H0:Heap)(I D L:Addr)(a:List V->Heap->Prop)(g:List O->Bool)(f:V->List V->List O->Option (List V×List O))(ρ0:Rho)(s0:Shared)(Ls:List Addr)(loc0:List (Str×V))(accF:List V)(hpF:List O)(k:Nat)(s:Shared):Prop:=
 ∃l acc ρ hp,k=l.length/\(∃b,ρ=ρ0++b)/\Step Ls ρ0 ρ s0 s/\Rep H0 ρ hp s/\ah H0 s.heap ρ L loc0/\I∉foot ρ/\D∉foot ρ/\a l s.heap/\AccAt D acc ρ s/\dj g f l acc hp=some (accF,hpF)
theorem lE:∀{A:Around}{a:Env}{cs:Scope}{x:Str}{px:Pos}{c:Code}{J:(Shared->Prop)->Shared->Prop}{I D:Addr}{N:List V->Heap->Prop}{g:List O->Bool}{f:V->List V->List O->Option (List V×List O)}{ρ0:Rho}{s0:Shared}{Ls:List Addr}{loc0:List (Str×V)}{l acc accF:List V}{ρ:Rho}{hp hpF:List O}{s:Shared}{P:Result->Shared->Prop}(T:Top H0)(i:Src H0 w A I N g ρ0)(eo:aN a cs)(hx:ap cs x=true)(rule:dL w A c I x px a J)(body:rT H0 a D loc0 x f J)(U:s0.heap.get? I=none)(hD0:s0.heap.get? D=none\/D∈Ls)(W:s0.heap.get? a.locals=none\/a.locals∈Ls)(hI:H0.objs.size<=I)(hD:H0.objs.size<=D)(K:I≠D)(L:I≠a.locals)(hDC:D≠a.locals)(j:∃X,ρ=ρ0++X)(Y:Step Ls ρ0 ρ s0 s)(R0:Rep H0 ρ hp s)(l0:ah H0 s.heap ρ a.locals loc0)(h:I∉foot ρ)(p:D∉foot ρ)(r:N l s.heap)(Z:AccAt D acc ρ s)(t:dj g f l acc hp=some (accF,hpF))(hR:∀s' u,Step Ls ρ0 u s0 s'->Rep H0 u hpF s'->D∉foot u->AccAt D accF u s'->ah H0 s'.heap u a.locals loc0->P (.ok .next) s'),
 codeAny (model pw w) A c P s:=by
 exists b5,A,a,cs,x,px,c,J,I,D,N,g,f;exists b5,ρ0,s0,Ls,loc0,l,acc,accF,ρ,hp,hpF,s,P;intros;refine rule P (CI H0 I D a.locals N g f ρ0 s0 Ls loc0 accF hpF) ?_ l.length s
  ⟨l,acc,ρ,hp,rfl,j,Y,R0,l0,h,p,r,Z,t⟩
 clear j Y R0 l0 h p r Z t;rintro k s ⟨l,acc,ρ,hp,rfl,j,Y,R,lr,h,p,r,Z,t⟩;have noS:∀b∈[I],∀o,s.heap.get? b=some o->cC o:=by
  refine el12 (i.obj _ _ r) λoI eI nI=>?_;intro b d o e;simp only[zG.mp d,eI]at e;refine(zE e)▸?_;exact nI
 have B:∀b∈[I],H0.objs.size<=b/\b∉foot ρ:=λb d=>(zG.mp d)▸⟨hI,h⟩;have hLn:a.locals∉[I]:=λq=>L (zG.mp q).symm;cases l with
 | nil=>
  refine ai (t:(if _ then _ else none)=_) λhg t=>?_;cases t;refine zQ (i.last s ρ _ (λq s2=>q=none/\Step Ls ρ0 ρ s0 s2/\Rep H0 ρ hpF s2/\AccAt D accF ρ s2/\ah H0 s2.heap ρ a.locals loc0) R j hg r λz eb=>?_) (λq s2 q3=>?_) (λ_ _ e=>e)
  ·have C:∀b ob,s.heap.get? b=some ob->b∉[I]->z.get? b=some ob:=λb ob e d=>eb b ob (λq=>d (zG.mpr q)) e;refine aA (R.but2 (s':={s with heap:=z}) C R.gens B noS) λE S=>?_;refine fw Z λnn xs M al=>?_;refine in05 rfl (Y.through (s₂:={s with heap:=z}) U (av [] ((zo _).symm) (by simp[foot])) (λb o d e=>⟨o,eb b o d e⟩) (λb o d e _ _ _=>eb b o d e) rfl) E (wM nn xs (C _ _ M (λq=>K (zG.mp q).symm)) (al.mono S)) (lr.but2 (s':={s with heap:=z}) C hLn S)
  ·refine el05 q3 λq0_ x2 E a2 l2=>?_;subst q0_;exact hR s2 ρ x2 E p a2 l2
 | cons v l=>
  refine ai (t:(if _ then _ else none)=_) λhg t=>bP t λG hp1 e1 t=>?_;refine zQ (i.item v l s ρ _ (λq s2=>∃y,q=some y/\VR s2.heap ρ v y/\Step Ls ρ0 ρ s0 s2/\Rep H0 ρ hp s2/\ah H0 s2.heap ρ a.locals loc0/\AccAt D acc ρ s2/\N l s2.heap) R j hg r λy z T' hv hst' sb=>?_) (λq s2 q3=>?_) (λ_ _ e=>e)
  ·have C:∀b ob,s.heap.get? b=some ob->b∉[I]->z.get? b=some ob:=λb ob e d=>(sb.2 b (λq=>d (zG.mpr q))).trans e;have k2:∀b o,b≠I->s.heap.get? b=some o->z.get? b=some o:=λb o d e=>C b o e (λq=>d (zG.mp q));refine aA (R.but2 (s':={s with heap:=z,toks:=T'}) C R.gens B noS) λE S=>?_;refine fw Z λnn xs M al=>?_;exact⟨y,rfl,S _ _ hv,Y.through (s₂:={s with heap:=z,toks:=T'}) U (av [] ((zo _).symm) (by simp[foot])) (λb o d e=>⟨o,k2 b o d e⟩) (λb o d e _ _ _=>k2 b o d e) rfl,E,lr.but2 (s':={s with heap:=z,toks:=T'}) C hLn S,
    (wM nn xs (C _ _ M (λq=>K (zG.mp q).symm)) (al.mono S)),hst'⟩
  ·refine wO q3 λy q1_ rv x2 E l2 a2 hst2=>?_;subst q1_;have tI:=cK T.size hI;refine zQ (ju (eZ (A:=A) (Q:=λ_ s3=>Step Ls ρ0 ρ s0 s3/\Rep H0 ρ hp s3/\ah H0 s3.heap ρ a.locals (put loc0 x v)/\AccAt D acc ρ s3/\N l s3.heap) T eo hx E l2 rv λs3 x3 R3 l3=>
    (in05 (x2.drop W x3) R3 l3 (a2.step x3 E l2.noSeq p (λq=>hDC (zG.mp q)) hD) (i.frame _ _ _ hst2 λo e=>x3.keep I o e h (λq=>L (zG.mp q)) tI)))) (λ_ s3 q3=>?_) (λ_ _ e=>e)
   refine el05 q3 λx3 R3 l3 a3 H=>?_;refine body s3 ρ hp v acc G hp1 R3 a3 p l3 e1 _ λs4 ρ4 x4 R4 hDf4 a4 l4=>?_;refine el12 (i.obj _ _ H) λoI eI _=>?_;have hext:∃X,ρ4=ρ0++X:=by
    obtain⟨X,rfl⟩:=j;obtain⟨⟨ε,rfl,_⟩,_⟩:=x4;exact⟨X++ε,yG ..⟩
   have hIn:I∉[D,a.locals]:=λq=>by
    rcases zM.mp q with q|q
    ·exact K q
    ·exact L (zG.mp q)
   exact⟨l.length,zY _,l,G,ρ4,hp1,rfl,hext,x3.drop2 hD0 W x4,R4,l4,(x4.notFoot h eI),hDf4,i.frame _ _ _ H λo e=>x4.keep I o e h hIn tI,a4,t⟩
noncomputable def En(w:World)(A:Around)(a:Env)(b:List Expr)(elt:Expr)(D:Addr)(P:Shared->Prop)(s:Shared):Prop:=
 wpAny (model pw w) A (forIn b true λc r=>if r=true then do let d<-isTrue c a (eval c a);pure (yw d)else pure (yw r))
  (λd s3=>if d=true then wpAny (model pw w) A (eval elt a) (λy e=>wpAny (model pw w) A (call (.builtin "list.append") [.ref D,y]) (λ_ f=>P f) noE e) noE s3 else P s3) noE s
set_option tactic.hygienic true in
theorem hU:∀{A:Around}{cenv:Env}{x:Str}{px pos:Pos}{elt iter:Expr}{ifs:List Expr}{cs:Scope}{I D:Addr},dL w A (.compLoop (.ListComp elt [⟨.Name x px,iter,ifs,0⟩] cs pos) 0 (.ref I) (.ref D) cenv) I x px cenv (En w A cenv ifs elt D):=by
 exists ce13_,A,cenv,x,px,pos,elt,iter,ifs,cs,I,D,R,Inv;intro turn n s h;refine codeAny_compLoop_tests Inv (λn s hI=>?_) n h;refine zQ (turn n s hI) (λr s1 q1=>?_) (λ_ _ e=>yp e);cases r with
 | none=>exact q1
 | some v=>
  refine zQ q1 (λ_ s2 q2=>?_) (λ_ _ e=>yp e);refine zQ q2 (λok s3 q3=>?_) (λ_ _ e=>yp e);split
  ·rename_i hok;rw[if_pos hok]at q3;exact zQ q3 (λy s4 q4=>zQ q4 (λ_ _ q=>q) (λ_ _ e=>yp e)) (λ_ _ e=>yp e)
  ·rename_i hok;rw[if_neg hok]at q3;exact q3
set_option tactic.hygienic true in
theorem ia:∀{A:Around}{cenv:Env}{x:Str}{elt:Expr}{ifs:List Expr}{D:Addr}{loc0:List (Str×V)}{f:V->List V->List O->Option (List V×List O)}(T:Top H0)(hx:loc0.lookup x=none)(hD:H0.objs.size<=D)(hDC:D≠cenv.locals) (body:∀(s:Shared)(ρ:Rho)(hp:List O)(v:V)(acc acc':List V)(hp':List O),Rep H0 ρ hp s->ah H0 s.heap ρ cenv.locals (put loc0 x v)->f v acc hp=some (acc',hp')->
 wpAny (model pw w) A (forIn ifs true λc r=>if r=true then do let ok<-isTrue c cenv (eval c cenv);pure (yw ok)else pure (yw r))
  (λok s3=>∃ρ3 hp3,Step [] ρ ρ3 s s3/\Rep H0 ρ3 hp3 s3/\
   if ok=true then wpAny (model pw w) A (eval elt cenv) (λy s4=>∃ρ4 u,Step [] ρ3 ρ4 s3 s4/\Rep H0 ρ4 hp' s4/\VR s4.heap ρ4 u y/\acc'=acc++[u]/\acc.length+1<=lid) noE s3
   else acc'=acc/\hp3=hp') noE s),rT H0 cenv D loc0 x f (En w A cenv ifs elt D):=by
 exists bZ,A,cenv,x,elt,ifs,D,loc0,f;intro T hx hD hDC body s3 ρ hp v acc acc1 hp1 R3 a3 hDf l3 e1 P hP;have lw:∀{h ρ},ah H0 h ρ cenv.locals (put loc0 x v)->ah H0 h ρ cenv.locals loc0:=λ⟨q1,q2,mm,q3,q4⟩=>⟨q1,q2,mm,q3,λy u e=>q4 y u (by
  refine gH.trans ?_;split
  ·rename_i q;rw[q,hx]at e;exact no e
  ·exact e)⟩
 refine zQ (body s3 ρ hp v acc acc1 hp1 R3 l3 e1) (λok s4 q4=>?_) (λ_ _ e=>e);obtain⟨ρ4,hp4,x4,R4,q4⟩:=q4;have nil:∀{s:Shared},∀b∈([]:List Addr),∀o,s.heap.get? b=some o->cC o:=λb hb=>by cases hb
 refine fw (id a3) λnn3 xs3 hg3 _=>?_;have hDf4:=x4.notFoot hDf hg3;have a4:=a3.step x4 R3 nil hDf (λq=>by cases q) hD;have l4:=(lw l3).step x4 R3 T.size;cases ok with
 | false=>
  simp only[yK,if_false]at q4⊢;obtain⟨rfl,rfl⟩:=q4;exact hP s4 ρ4 x4.wide R4 hDf4 a4 l4
 | true=>
  simp only[if_true]at q4⊢;refine zQ q4 (λy s5 q5=>?_) (λ_ _ e=>e);refine el25 q5 λρ5 u x5 R5 r5 q5_ hlen=>?_;subst q5_;refine fw (id a4) λnn4 xs4 hg4 _=>?_;have hDf5:=x5.notFoot hDf4 hg4;have a5:=a4.step x5 R4 nil hDf4 (λq=>by cases q) hD;refine fw (id a5) λnn5 xs5 hg5 al5=>?_;refine eN (LL.of_list (⟨_,hg5,rfl,_,rfl⟩:s5.heap.IsList D xs5.toArray)) (.inr (by decide +kernel)) (n:="append") (by decide +kernel) slot_list_append.plain entry_list_append (args_list_append _ _) (lY (E:=noE) hg5 rfl (by have:=bn;simp only[ze,<-al5.length];exact zg (zR hlen this)) ?_);have other:∀b,b≠D->(s5.heap.update D (zw (·.push y))).get? b=s5.heap.get? b:=λb hb=>yR _ _ (Ne.symm hb);have self:=jI (zw (·.push y)) hg5 rfl;have kk:∀b ob,s5.heap.get? b=some ob->b∉[D]->(s5.heap.update D (zw (·.push y))).get? b=some ob:=λb ob e hb=>(other b (λq=>hb (zG.mpr q))).trans e;obtain⟨R6,x6⟩:=R5.but (s':={s5 with heap:=s5.heap.update D (zw (·.push y))}) T kk (λb o e=>by
   by_cases hb:b=D
   ·cases hb;exact⟨_,self⟩
   ·exact⟨o,kk b o e (λq=>hb (zG.mp q))⟩) R5.gens rfl (λb hb=>(zG.mp hb)▸⟨hD,hDf5⟩) a5.noTup
  have vm:∀v z,VR s5.heap ρ5 v z->VR (s5.heap.update D (zw (·.push y))) ρ5 v z:=λv z r=>x6.val R5 a5.noTup r;refine hP _ ρ5 (x4.wide.trans (x5.wide.trans (x6.weaken λb hb=>by simp only[zG.mp hb];simp))) R6 hDf5 (wM (nn5+1) (xs5++[y]) ?_ ((al5.mono vm).append (.cons (vm _ _ r5) .nil))) ?_
  ·skip
   refine self.trans ?_;dsimp only[zw];simp
  ·exact(l4.step x5 R4 T.size).but2 (s':={s5 with heap:=s5.heap.update D (zw (·.push y))}) kk (λq=>hDC (zG.mp q).symm) vm
end
structure mS (cs:Scope):Prop where
 kind:cs.kind=.function
 free:∀x∈cs.names,x.2≠.free
 cell:∀x∈cs.names,x.2≠.cell
 names:∀x∈cs.names,x.2=.local->cs.names.lookup x.1=some .local
theorem fZ(h:csOk cs=true):mS cs:=by
 unfold csOk at h;simp only[za,yD,bne_iff_ne,Bool.or_eq_true,beq_iff_eq]at h;refine aA h λa b=>?_;refine aA a λa c=>?_;refine aA a λd f=>?_;exact⟨d,f,c,λx g e=>(b x g).resolve_left λq=>q e⟩
section
variable {F:Fs}{n m:Nat}{sc:Scope}
theorem qc:∀{A:Around}{s:Shared}{ρ:Rho}{hp:List O}{v:V}{y:Value}{f:V->List V->List O->Option (List V×List O)}{acc:List V}{res:List V×List O}{Q:Value->Shared->Prop}(c:A.handled=none)(R:Rep H0 ρ hp s)(r:VR s.heap ρ v y)(a:dv f v acc hp=some res) (d:∀(ob:Obj)(h:List V->Heap->Prop)(g:List O->Bool)(l:List V),cC ob->ob.isFreed=false->Src H0 w A s.heap.objs.size h g ρ->h l (s.heap.push ob)->
 (∀s':Shared,∀Q,s'.heap.get? s.heap.objs.size=some ob->Q (.ref s.heap.objs.size) s'->wpAny (model pw w) A (pyIter (.ref s.heap.objs.size)) Q noE s')->dj g f l acc hp=some res->Q (.ref s.heap.objs.size) {s with heap:=s.heap.push ob}),wpAny (model pw w) A (pyIter y) Q noE s:=by
 exists ce10_,A,s,ρ,hp,v,y,f,acc,res,Q;intros;refine bo a (λa=>bE a λz _ a=>vS z.2 r λt=>?_) (λa=>bE a λk _ a=>bE a λvs _ a=>vR k.2 r λp b=>?_)
 ·refine wpAny_pyIter_strU (d _ _ _ _ (λq=>absurd q (by unfold strIterType;split<;>simp)) rfl (FX (tK c _)) ⟨z.1,t,0,rfl,_,zN _ rfl,rfl,rfl⟩ (λs' Q e q=>?_) a);unfold strIterType at e;split at e
  ·exact wpAny_pyIter_striter_ascii (x:=z.1) (t:=t) (i:=0) (cy _ e rfl rfl) q
  ·exact wpAny_pyIter_striter_wide (x:=z.1) (t:=t) (i:=0) (cy _ e rfl rfl) q
 ·obtain⟨_,xs,⟨o,j⟩,u⟩:=R.obj k.1 p _ b vs.2;refine vO (⟨_,j,rfl,_,rfl⟩:s.heap.IsList p.1 xs.toArray) (d _ _ _ _ (λq=>absurd q (by simp)) rfl (src_list c b) ⟨0,rfl,_,zN _ rfl,rfl,rfl⟩ (λs' Q e q=>?_) a);exact uo (l:=p.1) (i:=0) (cy _ e rfl rfl) q
theorem qM:∀{A:Around}{env:Env}{cs:Scope}{x:Str}{E:Pos}{elt d:Expr}{j:List Expr}{rest:List Comprehension}{pos:Pos}{f:V->List V->List O->Option (List V×List O)}{s:Shared}{ρ:Rho}{hp hpF:List O}{v:V}{y:Value}{accF:List V}{P:Value->Env->Result->Shared->Prop}(T:Top H0)(rm:bt A n m)(eo:aN env sc)(X:mS cs)(hx:ap cs x=true)(R:Rep H0 ρ hp s)(r:VR s.heap ρ v y)(Y:dv f v [] hp=some (accF,hpF))(K:∀c D I,aN c cs->H0.objs.size<=D->D≠c.locals->∃G,dL w A (.compLoop (.ListComp elt (⟨.Name x E,d,j,0⟩::rest) cs pos) 0 (.ref I) (.ref D) c) I x E c G/\rT H0 c D [] x f G)(hP:∀D c s' h,s.heap.get? D=none->s.heap.get? c.locals=none->D≠c.locals->H0.objs.size<=D->H0.objs.size<=c.locals->Step [] ρ h s s'->Rep H0 h hpF s'->D∉foot h->AccAt D accF h s'->ah H0 s'.heap h c.locals []->P (.ref D) c (.ok .next) s'),
 wpAny (model pw w) A (pyIter y) (λit s₂=>wpAny (model pw w) A (newList []) (λacc t=>wpAny (model pw w) A (newFunctionEnv cs env.globals [] [] env.qual none .none (some env)) (λc u=>
  codeAny (model pw w) A (.compStart (.ListComp elt (⟨.Name x E,d,j,0⟩::rest) cs pos) 0 it acc {c with scope:=cs}) (P acc {c with scope:=cs}) u) noE t) noE s₂) noE s:=by
 revert n m sc;exists ck,n,m,sc,A,env,cs,x,E,elt,d,j;exists ck,rest,pos,f,s,ρ,hp,hpF,v,y,accF,P;intros;have L:∀(ob:Obj)(Z:List V->Heap->Prop)(g:List O->Bool)(l:List V),cC ob->ob.isFreed=false->Src H0 w A s.heap.objs.size Z g ρ->Z l (s.heap.push ob)->
  (∀s':Shared,∀Q,s'.heap.get? s.heap.objs.size=some ob->Q (.ref s.heap.objs.size) s'->wpAny (model pw w) A (pyIter (.ref s.heap.objs.size)) Q noE s')->dj g f l [] hp=some (accF,hpF)->
  wpAny (model pw w) A (newList []) (λacc t=>wpAny (model pw w) A (newFunctionEnv cs env.globals [] [] env.qual none .none (some env)) (λc u=>
  codeAny (model pw w) A (.compStart (.ListComp elt (⟨.Name x E,d,j,0⟩::rest) cs pos) 0 (.ref s.heap.objs.size) acc {c with scope:=cs}) (P acc {c with scope:=cs}) u) noE t) noE {s with heap:=s.heap.push ob}:=by
  intro ob Z g l hob M N hst self Y;refine wpAny_newList ?_ (by decide);refine wpAny_newFunctionEnv X.cell (by intro y hy;simp at hy) (λJ H z=>?_) X.kind;dsimp only at H z⊢;have k:(s.heap.push ob).objs.size=s.heap.objs.size+1:=yW ..;generalize B:((s.heap.push ob).push {cls:=.type "list",data:=.seq ([]:List Value).toArray})=i at H z;have p:i.objs.size=s.heap.objs.size+2:=by simp only[<-B,yW,k]
  have fresh:∀a,s.heap.objs.size<=a->s.heap.get? a=none:=λa S=>by
   cases e:s.heap.get? a with
   | none=>rfl
   | some o'=>exact absurd (yB e) (vJ.mpr S)
  have old:∀b o,s.heap.get? b=some o->J.get? b=some o:=λb o e=>by
   refine z.extBut b o (by rw[p];exact zd (Nat.lt_add_right 2 (yB e))) (zJ _ ?_);exact B▸(zJ _ (zJ _ e))
  have U:J.get? s.heap.objs.size=some ob:=by
   refine z.extBut _ _ (by rw[p];exact zd (Nat.lt_add_of_pos_right (by decide))) (zJ _ ?_);exact B▸(zJ _ (zN _ M))
  have hD1:J.get? (s.heap.push ob).objs.size=some {cls:=.type "list",data:=.seq ([]:List Value).toArray}:=by
   refine z.extBut _ _ (by simp only[p,k];exact zd (zq _)) (zJ _ ?_);exact B▸(zN _ rfl)
  obtain⟨R1,x1⟩:=R.grow (s':={s with heap:=J,toks:=s.toks+([]:List (Str×Value)).length}) old R.gens rfl;have nf:∀a,s.heap.objs.size<=a->a∉foot ρ:=λa S q=>by
   obtain⟨o,e⟩:=R.footObj q
   replace e:=((fresh a S).symm).trans e;exact no e
  have low:=R.low;have W:aN {newEnv cs i.objs.size env.globals [] env.qual none .none (some env) builtinsNs with scope:=cs} cs:=⟨X.kind,rfl,eo.glob,eo.blt⟩;have C:codeAny (model pw w) A (.compLoop (.ListComp elt (⟨.Name x E,d,j,0⟩::rest) cs pos) 0 (.ref s.heap.objs.size) (.ref (s.heap.push ob).objs.size) {newEnv cs i.objs.size env.globals [] env.qual none .none (some env) builtinsNs with scope:=cs})
   (P (.ref (s.heap.push ob).objs.size) {newEnv cs i.objs.size env.globals [] env.qual none .none (some env) builtinsNs with scope:=cs}) {s with heap:=J,toks:=s.toks+([]:List (Str×Value)).length}:=by
   refine el12 (K _ (s.heap.push ob).objs.size s.heap.objs.size W (by rw[k];exact yo low) (by show _≠i.objs.size;simp only[p,k];exact zd (zq _))) λG rule dd=>?_;refine lE T (ρ:=ρ) (hp:=hp) (l:=l) (acc:=[]) (s0:=s) (Ls:=[]) (loc0:=[]) N W hx rule dd (fresh _ (zY _)) (.inl (fresh _ (by rw[k];exact yq _))) (.inl (fresh _ (by show _<=i.objs.size;simp only[p];exact zW ..))) low (by rw[k];exact yo low)
    (by rw[k];exact zd (zq _)) (by show s.heap.objs.size≠i.objs.size;rw[p];exact zd (Nat.lt_add_of_pos_right (by decide))) (by refine(?_:_≠i.objs.size);simp only[p,k];exact zd (zq _)) ⟨[],(zo _).symm⟩ x1 R1 (⟨by rw[p];exact zB low (zW _ _),nf _ (by simp only[p];exact zW ..),_,H,λy v e=>by exact no e⟩:ah H0 J ρ i.objs.size []) (nf _ (zY _)) (nf _ (by rw[k];exact yq _)) (N.frame _ _ _ hst λo e=>?_) (wM 0 [] hD1 .nil) Y
    λs' h x' R' hDf S lC'=>hP _ _ s' h (fresh _ (by rw[k];exact yq _)) (fresh _ (by show _<=i.objs.size;rw[p];exact zW ..)) (by refine(?_:_≠i.objs.size);simp only[p,k];exact zd (zq _)) (by rw[k];exact yo low) (by show _<=i.objs.size;rw[p];exact zB low (zW ..)) x' R' hDf S lC'
   replace e:=((zN _ M).symm).trans e
   cases e;exact U
  exact codeAny_compStart_list C (zQ (self _ (λit' s'=>codeAny (model pw w) A (.compLoop (.ListComp elt (⟨.Name x E,d,j,0⟩::rest) cs pos) 0 it' (.ref (s.heap.push ob).objs.size) {newEnv cs i.objs.size env.globals [] env.qual none .none (some env) builtinsNs with scope:=cs})
   (P (.ref (s.heap.push ob).objs.size) {newEnv cs i.objs.size env.globals [] env.qual none .none (some env) builtinsNs with scope:=cs}) s') U C) (λ_ _ q=>q) λ_ _ e=>yp e)
 exact qc rm.handled R r Y L
end
section
variable {F:Fs}{n m:Nat}{sc:Scope}
theorem Rep.adopt:∀{ρ:Rho}{hp:List O}{s:Shared}{D:Addr}{acc:List V}(R:Rep H0 ρ hp s)(x:H0.objs.size<=D)(z:D∉foot ρ)(a:AccAt D acc ρ s),
 Rep H0 (ρ++[(D,D)]) (hp++[.list acc]) s/\(∀v y,VR s.heap ρ v y->VR s.heap (ρ++[(D,D)]) v y)/\VR s.heap (ρ++[(D,D)]) (.ref hp.length) (.ref D):=by
 exists ce5_,ρ,hp,s,D,acc;intros;have j:foot [(D,D)]=[D]:=by simp[foot,feet]
 refine fw a λA xs u B=>?_;have w:∀v y,VR s.heap ρ v y->VR s.heap (ρ++[(D,D)]) v y:=λv y r=>r.mono (λb l t d=>⟨t,λq=>by
  rw[aj,j]at q;rcases zb.mp q with q|q
  ·exact d q
  ·obtain⟨_,⟨o,e,c,_⟩,_⟩:=t;rw[zG.mp q,u]at e;obtain rfl:=zE e;simp at c⟩) λk p e=>by rw[zU (zh.mp e).1,e]
 refine⟨⟨R.old,R.tab,R.gens,by simp[R.len],λi p ob f g=>?_,?_,λb d=>?_,R.lo⟩,w,?_⟩
 ·by_cases h:i<ρ.length
  ·rw[zU h]at f;rw[zU (R.len▸h)]at g;exact(R.obj i p ob f g).mono (λ_ _ _ e=>e) w
  ·rw[yg (yU h)]at f;rw[yg (by rw[<-R.len];exact yU h),<-R.len]at g;have:i-ρ.length=0:=by
    have:=(zh.mp f).1;simp at this;exact this
   rw[this]at f g;simp at f g
   subst f g;exact⟨⟨_,u⟩,xs,⟨A,u⟩,B.mono w⟩
 ·rw[aj,j];refine ye.mpr ⟨R.apart,by simp,λa C b d=>?_⟩;simp at d;subst d
  exactλq=>z (q▸C)
 ·rw[aj,j]at d;rcases zb.mp d with d|d
  ·exact R.above b d
  ·simp at d;subst d;exact oK R.lo.big x
 ·have:(ρ++[(D,D)])[hp.length]?=some (D,D):=by rw[<-R.len];simp
  exact VR.ref this
theorem Step.adopt{s:Shared}(x:Step [] ρ ρ' s s')(e:s.heap.get? D=none):Step [] ρ (ρ'++[(D,D)]) s s':=by
 obtain⟨⟨f,rfl,d⟩,a,k,g⟩:=x;refine⟨⟨f++[(D,D)],by simp,λb c=>?_⟩,a,k,g⟩;have h:foot [(D,D)]=[D]:=by simp[foot,feet]
 rw[aj,h]at c;rcases zb.mp c with c|c
 ·exact d b c
 ·rw[zG.mp c];exact e
theorem gone_:∀{ρ c:Rho}{hp:List O}{s s':Shared}{C:Addr}{d:Heap}{acc:List V}{D:Addr}(k:s.heap.get? C=none)(g:H0.objs.size<=C)(x:Step [] ρ c s s')(R:Rep H0 c hp s')(j:ah H0 s'.heap c C [])(h:D≠C)(a:AccAt D acc c s')(sb:jl C s'.heap d),
 Step [] ρ c s {s' with heap:=d}/\Rep H0 c hp {s' with heap:=d}/\AccAt D acc c {s' with heap:=d}/\∀v y,VR s'.heap c v y->VR d c v y:=by
 exists cc,ρ,c,hp,s,s',C,d,acc,D;intro k g x R j h a sb;have i:∀b o,b≠C->s'.heap.get? b=some o->d.get? b=some o:=λb o f e=>by rw[sb.2 b f];exact e
 have k1:∀b ob,s'.heap.get? b=some ob->b∉[C]->d.get? b=some ob:=λb ob e f=>i b ob (λq=>f (zG.mpr q)) e;obtain⟨p,l⟩:=R.but2 (s':={s' with heap:=d}) k1 R.gens (λb f=>by rw[zG.mp f];exact⟨g,j.2.1⟩) j.noSeq;refine fw a λr xs t u=>?_;exact⟨x.through (s₂:={s' with heap:=d}) k ⟨[],by simp,by simp[foot]⟩ (λb o f e=>⟨o,i b o f e⟩) (λb o f e _ _ _=>i b o f e) rfl,p,⟨r,xs,i _ _ h t,u.mono l⟩,l⟩
theorem lh:∀{A:Around}{a:Env}{cs:Scope}{x:Str}{elt:Expr}{c:X}(T:Top H0)(i:bt A n m)(j:aN a cs)(h:SE H0 w F n m cs elt c),
 Body H0 w A a [] elt x (λv acc hp=>(ev F c ⟨[(x,v)],hp⟩).bind λq=>push acc q.1 q.2.hp):=by
 revert F n m;exists cc,F,n,m,A,a,cs,x,elt,c;intros;exists bK,s,ρ,hp,v,acc,g,k;intro R l b;refine bP b λu st1 o b=>?_;refine ai (show(if _ then _ else none)=_ from b) λp b=>?_;refine aA (yz (zE b)) λd e=>?_;subst d;subst e;refine zD ⟨ρ,hp,Step.refl _ _ _,R,?_⟩;rw[if_pos rfl];exact h.use T (st:=⟨[(x,v)],hp⟩) i j R l o λy s1 f r t z C B=>⟨f,u,r,t,z,rfl,p⟩
theorem tj:∀{A:Around}{a:Env}{cs:Scope}{x:Str}{elt c:Expr}{e f:X}(T:Top H0)(g:bt A n m)(i:aN a cs)(h:SE H0 w F n m cs elt e)(z:SB H0 w F n m cs c f),
 Body H0 w A a [c] elt x (λv acc hp=>(evT F f ⟨[(x,v)],hp⟩).bind λt=>match t.1 with
  | true=>(ev F e ⟨[(x,v)],t.2.hp⟩).bind λq=>push acc q.1 q.2.hp
  | false=>some (acc,t.2.hp)):=by
 revert F n m;exists ck,F,n,m,A,a,cs,x,elt,c,e,f;intro T g i h z s ρ hp v acc B E R l d;refine bP d λb st1 G d=>?_;simp only[yf,jJ,if_true];refine zA (zA (z.use T (st:=⟨[(x,v)],hp⟩) g i R l G λs1 j H C D k=>zD (zD ⟨j,st1.hp,H,C,?_⟩)));cases b with
 | false=>
  rw[if_neg (by simp)];obtain⟨rfl,rfl⟩:=yz (zE d);exact⟨rfl,rfl⟩
 | true=>
  rw[if_pos rfl];dsimp only at d;refine bP d λu I J d=>?_;refine ai (show(if _ then _ else none)=_ from d) λK d=>?_;refine aA (yz (zE d)) λo p=>?_;subst o;subst p;exact h.use T (st:=⟨[(x,v)],st1.hp⟩) g i C (by rw[k]at D;exact D) J λy s2 r L M N l2 O=>⟨r,u,L,M,N,rfl,K⟩
theorem fb{x:Str}{i pos:Pos}{elt b:Expr}{c:List Expr}{rest:List Comprehension}{cs:Scope}{v:X}{f:V->List V->List O->Option (List V×List O)}(T:Top H0)(g:mS cs)(G:ap cs x=true)(H:bG b=true)(J:SE H0 w F n m sc b v)
 {A:Around}{env:Env}{s:Shared}{ρ:Rho}{st st1:St}{z:V}{accF:List V}{hpF:List O} (B:bt A n m) (C:aN env sc) (R:Rep H0 ρ st.hp s) (l:ah H0 s.heap ρ env.locals st.loc) (K:ev F v st=some (z,st1)) (L:dv f z [] st1.hp=some (accF,hpF))
 (d:∀a D I,aN a cs->H0.objs.size<=D->D≠a.locals->∃e,dL w A (.compLoop (.ListComp elt (⟨.Name x i,b,c,0⟩::rest) cs pos) 0 (.ref I) (.ref D) a) I x i a e/\rT H0 a D [] x f e):
 wpAny (model pw w) A (eval (.ListComp elt (⟨.Name x i,b,c,0⟩::rest) cs pos) env) (λy s'=>aC H0 ρ (.ref hpF.length) (hpF++[.list accF]) s y s'/\st1.loc=st.loc) noE s:=by
 refine wpAny_ListComp g.free g.kind g.names (J.use T B C R l K λy s1 M N Q S l1 j=>?_) (fe H env);refine qM T B C g G Q S L d (P:=λacc a r s'=>∃m,s'.heap.Ns a.locals m/\∀h,jl a.locals s'.heap h->
  match r with|.ok _=>(aC H0 ρ (.ref hpF.length) (hpF++[.list accF]) s acc {s' with heap:=h}/\st1.loc=st.loc)|.error x=>wpAny (model pw w) A (passOn "comprehension.variables-let-go" x a) (λy s'=>aC H0 ρ (.ref hpF.length) (hpF++[.list accF]) s y s'/\st1.loc=st.loc) noE {s' with heap:=h})
  λD a s' U k o p q t W Y u Z E=>?_
 obtain⟨_,_,mm,hn,_⟩:=id E;refine⟨mm,hn,λh sb=>⟨?_,j⟩⟩;refine wZ (gone_ o t W Y E p Z sb) λx2 R2 a2 _=>?_;refine cE (R2.adopt q u a2) λR3 _ r3=>?_;exact⟨_,N.trans (x2.adopt k),R3,r3⟩
theorem CC:∀{x:Str}{j pos:Pos}{elt a:Expr}{cs:Scope}{d e:X}(T:Top H0)(k:mS cs)(o:ap cs x=true)(p:bG a=true)(q:SE H0 w F n m sc a d)(b:SE H0 w F n m cs elt e),
 SE H0 w F n m sc (.ListComp elt [⟨.Name x j,a,[],0⟩] cs pos) (.comp e x d):=by
 revert F n m sc;exists b5,F,n,m,sc,x,j,pos,elt,a,cs,d,e;intro T k o p q b A env s ρ st v u r y R l c;refine bP c λE st1 z c=>?_;refine bP c λaccF hpF B c=>?_;refine cE (be c) λf g G=>?_;subst f;subst g;exact fb (st1:=st1) (accF:=accF) (hpF:=hpF) T k o p q r y R l z B λt D I h C i=>⟨_,hU,ia T rfl C i (lh T r h b)⟩
theorem wN:∀{x:Str}{o pos:Pos}{elt a c:Expr}{cs:Scope}{e f g:X}(T:Top H0)(p:mS cs)(q:ap cs x=true)(r:bG a=true)(t:SE H0 w F n m sc a e)(b:SE H0 w F n m cs elt f)(u:SB H0 w F n m cs c g),
 SE H0 w F n m sc (.ListComp elt [⟨.Name x o,a,[c],0⟩] cs pos) (.compIf f x e g):=by
 revert F n m sc;exists ce14_,F,n,m,sc,x,o,pos,elt,a,c,cs,e,f,g;intro T p q r t b u A env s ρ st v B y C R l d;refine bP d λJ st1 E d=>?_;refine bP d λaccF hpF G d=>?_;refine cE (be d) λh i K=>?_;subst h;subst i;exact fb (st1:=st1) (accF:=accF) (hpF:=hpF) T p q r t y C R l E G λz D I j H k=>⟨_,hU,ia T rfl H k (tj T y j b u)⟩
end
theorem Be(elt c a:Expr)(b e:Expr)(cs:Scope)(pos:Pos)(d acc:Value)(env:Env):
 compTurn (.ListComp elt [⟨b,c,[],0⟩,⟨e,a,[],0⟩] cs pos) 0 d acc env=(standAt c.pos>>=λ_=>pyNext d>>=λr=>match r with
  | none=>pure (.done .next)
  | some v=>letOwnedTupleGo b d v>>=λ_=>assign b env v>>=λ_=>
   (eval a env>>=λx=>standAt a.pos>>=λ_=>foldedSetIterable a env x>>=λx=>holding [x] (pyIter x)>>=λf=>runOwn (.compStart (.ListComp elt [⟨b,c,[],0⟩,⟨e,a,[],0⟩] cs pos) 1 f acc env) env>>=λ_=>
    again (.compLoop (.ListComp elt [⟨b,c,[],0⟩,⟨e,a,[],0⟩] cs pos) 0 d acc env))):=by rfl
theorem Dh(elt d c:Expr)(e a:Expr)(cs:Scope)(pos:Pos)(b acc:Value)(env:Env):
 compTurn (.ListComp elt [⟨e,d,[],0⟩,⟨a,c,[],0⟩] cs pos) 1 b acc env=(standAt c.pos>>=λ_=>pyNext b>>=λr=>match r with
  | none=>pure (.done .next)
  | some v=>letOwnedTupleGo a b v>>=λ_=>assign a env v>>=λ_=>
   (eval elt env>>=λx=>call (.builtin "list.append") [acc,x]>>=λ_=>pure ())>>=λ_=>
    again (.compLoop (.ListComp elt [⟨e,d,[],0⟩,⟨a,c,[],0⟩] cs pos) 1 b acc env)):=by rfl
section
variable {F:Fs}{n m:Nat}{sc:Scope}
noncomputable abbrev two(elt a b:Expr)(x y:Str)(c d:Pos)(cs:Scope)(pos:Pos):Expr:=.ListComp elt [⟨.Name x c,a,[],0⟩,⟨.Name y d,b,[],0⟩] cs pos
noncomputable def AM(w:World)(A:Around)(a:Env)(elt c b:Expr)(x y:Str)(d e:Pos)(cs:Scope)(pos:Pos)(D:Addr)(P:Shared->Prop)(s:Shared):Prop:=
 wpAny (model pw w) A (eval b a) (λv s3=>wpAny (model pw w) A (pyIter v) (λf g=>codeAny (model pw w) A (.compStart (two elt c b x y d e cs pos) 1 f (.ref D) a) (λr h=>match r with|.ok _=>P h|.error _=>False) g) noE s3) noE s
theorem qZ:∀{A:Around}{a:Env}{x y:Str}{b d pos:Pos}{elt g c:Expr}{cs:Scope}{I D:Addr}(j:bG c=true),dL w A (.compLoop (two elt g c x y b d cs pos) 0 (.ref I) (.ref D) a) I x b a (AM w A a elt g c x y b d cs pos D):=by
 exists ce13_,A,a,x,y,b,d,pos,elt,g,c,cs,I,D;intro j R i turn n s h;refine codeAny_loop rfl i (λn s l=>?_) n h;show wpAny _ _ ((compTurn (two elt g c x y b d cs pos) 0 (.ref I) (.ref D) a).onRaise (λx=>do noteFrame x a;theTreesLotGoes x)) _ _ s
 refine wpAny_noted ?_;rw[Be];refine zA (jX (zA (zQ (turn n s l) (λr s1 q1=>?_) (λ_ _ e=>yp e))));cases r with
 | none=>exact zD q1
 | some v=>
  refine zA (zr (show letOwnedTupleGo (.Name x b) (.ref I) v=pure ()from rfl) ?_);refine zA (zQ q1 (λ_ s2 o=>?_) (λ_ _ e=>yp e));refine zA (zQ o (λz s3 p=>zA (jX ?_)) (λ_ _ e=>yp e));refine zA (zr (fe j a z) ?_);refine zA (yJ (zQ p (λt u q=>?_) (λ_ _ e=>yp e)));refine zA (wpAny_runOwn (jm q λr B k=>?_));cases r with
  | ok f=>exact zD ⟨rfl,k⟩
  | error e=>exact k.elim
noncomputable def El(w:World)(A:Around)(a:Env)(elt:Expr)(D:Addr)(P:Shared->Prop)(s:Shared):Prop:=
 wpAny (model pw w) A (eval elt a) (λy b=>wpAny (model pw w) A (call (.builtin "list.append") [.ref D,y]) (λ_ c=>P c) noE b) noE s
theorem Dg:∀{A:Around}{a:Env}{x y:Str}{c b pos:Pos}{elt d f:Expr}{cs:Scope}{I D:Addr},dL w A (.compLoop (two elt d f x y c b cs pos) 1 (.ref I) (.ref D) a) I y b a (El w A a elt D):=by
 exists bZ,A,a,x,y,c,b,pos,elt;exists bK,d,f,cs,I,D,R,g;intro turn n s h;refine codeAny_loop rfl g (λn s i=>?_) n h;show wpAny _ _ ((compTurn (two elt d f x y c b cs pos) 1 (.ref I) (.ref D) a).onRaise (λx=>do noteFrame x a;theTreesLotGoes x)) _ _ s
 refine wpAny_noted ?_;rw[Dh];refine zA (jX (zA (zQ (turn n s i) (λr s1 q1=>?_) (λ_ _ e=>yp e))));cases r with
 | none=>exact zD q1
 | some v=>
  refine zA (zr (show letOwnedTupleGo (.Name y b) (.ref I) v=pure ()from rfl) ?_);refine zA (zQ q1 (λ_ s2 j=>?_) (λ_ _ e=>yp e));exact zA (zA (zQ j (λz s3 k=>zA (zQ k (λ_ o l=>zD (zD ⟨rfl,l⟩)) (λ_ _ e=>yp e))) (λ_ _ e=>yp e)))
set_option tactic.hygienic true in
theorem Df:∀{A:Around}{cenv:Env}{x:Str}{elt:Expr}{D:Addr}{loc0:List (Str×V)}{f:V->List V->List O->Option (List V×List O)}(T:Top H0)(hx:loc0.lookup x=none)(hD:H0.objs.size<=D)(hDC:D≠cenv.locals) (body:∀(s:Shared)(ρ:Rho)(hp:List O)(v:V)(acc acc':List V)(hp':List O),Rep H0 ρ hp s->ah H0 s.heap ρ cenv.locals (put loc0 x v)->f v acc hp=some (acc',hp')->
 wpAny (model pw w) A (eval elt cenv) (λy s4=>∃ρ4 u,Step [] ρ ρ4 s s4/\Rep H0 ρ4 hp' s4/\VR s4.heap ρ4 u y/\acc'=acc++[u]/\acc.length+1<=lid) noE s),rT H0 cenv D loc0 x f (El w A cenv elt D):=by
 exists bK,A,cenv,x,elt,D,loc0,f;intro T hx hD hDC body s4 ρ4 hp v acc acc1 hp1 R4 a4 hDf4 l3 e1 P hP;have lw:∀{h ρ},ah H0 h ρ cenv.locals (put loc0 x v)->ah H0 h ρ cenv.locals loc0:=λ⟨q1,q2,mm,q3,q4⟩=>⟨q1,q2,mm,q3,λy u e=>q4 y u (by
  rw[gH];split
  ·rename_i q;rw[q,hx]at e;exact no e
  ·exact e)⟩
 have nil:∀{s:Shared},∀b∈([]:List Addr),∀o,s.heap.get? b=some o->cC o:=λb hb=>by cases hb
 refine zQ (body s4 ρ4 hp v acc acc1 hp1 R4 l3 e1) (λy s5 q5=>?_) (λ_ _ e=>e);obtain⟨ρ5,u,x5,R5,r5,rfl,hlen⟩:=q5;obtain⟨nn4,xs4,hg4,_⟩:=id a4;have hDf5:=x5.notFoot hDf4 hg4;have a5:=a4.step x5 R4 nil hDf4 (λq=>by cases q) hD;have l5:=(lw l3).step x5 R4 T.size;obtain⟨nn5,xs5,hg5,al5⟩:=id a5;have hl5:s5.heap.IsList D xs5.toArray:=⟨_,hg5,rfl,_,rfl⟩;refine eN (LL.of_list hl5) (.inr (by decide +kernel)) (n:="append") (by decide +kernel) slot_list_append.plain entry_list_append (args_list_append _ _) (lY (E:=noE) hg5 rfl (by have:=bn;simp only[ze,<-al5.length];exact zg (zR hlen this)) ?_);have other:∀b,b≠D->(s5.heap.update D (zw (·.push y))).get? b=s5.heap.get? b:=λb hb=>yR _ _ (Ne.symm hb);have self:=jI (zw (·.push y)) hg5 rfl;have kk:∀b ob,s5.heap.get? b=some ob->b∉[D]->(s5.heap.update D (zw (·.push y))).get? b=some ob:=λb ob e hb=>by rw[other b (λq=>hb (zG.mpr q))];exact e
 obtain⟨R6,x6⟩:=R5.but (s':={s5 with heap:=s5.heap.update D (zw (·.push y))}) T kk (λb o e=>by
  by_cases hb:b=D
  ·subst hb;exact⟨_,self⟩
  ·exact⟨o,kk b o e (λq=>hb (zG.mp q))⟩) R5.gens rfl (λb hb=>by rw[zG.mp hb];exact⟨hD,hDf5⟩) a5.noTup
 have vm:∀v z,VR s5.heap ρ5 v z->VR (s5.heap.update D (zw (·.push y))) ρ5 v z:=λv z r=>x6.val R5 a5.noTup r;refine hP _ ρ5 (x5.wide.trans (x6.weaken λb hb=>by rw[zG.mp hb];simp)) R6 hDf5 ⟨nn5+1,xs5++[y],?_,(al5.mono vm).append (.cons (vm _ _ r5) .nil)⟩ ?_
 ·show(s5.heap.update D (zw (·.push y))).get? D=_
  rw[self];unfold zw;simp
 ·exact l5.but2 (s':={s5 with heap:=s5.heap.update D (zw (·.push y))}) kk (λq=>hDC (zG.mp q).symm) vm
theorem Ap{x y:Str}{acc:Value}{R:Result->Shared->Prop}{s:Shared}(b:codeAny (model pw w) A (.compLoop (two elt i1 i2 x y px py cs pos) 1 it acc cenv) R s)
 (h:wpAny (model pw w) A (pyIter it) (λa s'=>codeAny (model pw w) A (.compLoop (two elt i1 i2 x y px py cs pos) 1 a acc cenv) R s') noE s):codeAny (model pw w) A (.compStart (two elt i1 i2 x y px py cs pos) 1 it acc cenv) R s:=by
 refine codeAny_of_tree ?_;show wpAny _ _ ((compStart (two elt i1 i2 x y px py cs pos) 1 it acc cenv).onRaise (λx=>do noteFrame x cenv;standAt theWindowsPlace)) _ _ s
 refine wpAny_notedAt ?_;unfold compStart;show wpAny _ _ (ask>>=_) _ _ s
 refine zA (wpAny_askSetting (wpAny_ite ?_));split
 ·exact zD (And.intro rfl b)
 ·refine zA (jw ?_);show wpAny _ _ (standAt i2.pos>>=_) _ _ s
  exact zA (jX (zA (zQ h (λa s' c=>zD (And.intro rfl c)) λ_ _ e=>yp e)))
end
section
variable {F:Fs}{n m:Nat}{sc:Scope}
set_option tactic.hygienic true in
theorem pr:∀{A:Around}{cenv:Env}{x y:Str}{px py pos:Pos}{elt i1 i2:Expr}{cs:Scope}{D:Addr}{xe xi2:X}(T:Top H0)(rm:bt A n m)(eo:aN cenv cs)(hy:ap cs y=true)(hxy:y≠x)(hD:H0.objs.size<=D)(hDC:D≠cenv.locals)(hi2:SE H0 w F n m cs i2 xi2)(he':SE H0 w F n m cs elt xe),rT H0 cenv D [] x (λv acc hp=>(ev F xi2 ⟨[(x,v)],hp⟩).bind λp=>dv (λu acc hp=>(ev F xe ⟨[(y,u),(x,v)],hp⟩).bind λq=>push acc q.1 q.2.hp) p.1 acc p.2.hp)
 (AM w A cenv elt i1 i2 x y px py cs pos D):=by
 revert F n m;exists cc,F,n,m,A,cenv,x,y,px,py;exists bZ,pos,elt,i1,i2,cs,D,xe,xi2;intro T rm eo hy hxy hD hDC hi2 he' s ρ hp v acc acc' hp' R a hDf l he P hP;refine bP he λv2 st2 e1 e2=>?_;dsimp only at e2;refine hi2.use T (st:=⟨[(x,v)],hp⟩) rm eo R l e1 λz s3 ρ3 x3 R3 r3 l3 el3=>?_;have nil:∀{s:Shared},∀b∈([]:List Addr),∀o,s.heap.get? b=some o->cC o:=λb hb=>by cases hb
 refine fw (id a) λnn xs hg _=>?_;have hDf3:=x3.notFoot hDf hg;have a3:=a.step x3 R nil hDf (λq=>by cases q) hD;refine fw (id a3) λnn3 xs3 hg3 _=>?_;rw[el3]at l3;refine qc rm.handled R3 r3 e2 λob It g ll hob hfr src hst self he2=>?_;obtain⟨R4,x4⟩:=R3.push ob s3.toks;have loop:codeAny (model pw w) A (.compLoop (two elt i1 i2 x y px py cs pos) 1 (.ref s3.heap.objs.size) (.ref D) cenv) (λr s5=>match r with|.ok _=>P s5|.error _=>False) {s3 with heap:=s3.heap.push ob}:=by
  refine lE T (ρ0:=ρ3) (s0:=s3) (ρ:=ρ3) (Ls:=[D,cenv.locals]) (loc0:=[(x,v)]) src eo hy Dg (Df T ?_ hD hDC ?_) fJ (.inr (by simp)) (.inr (by simp)) R3.low hD (λq=>?_) l3.neNew hDC ⟨[],by simp⟩ x4.wide R4 (l3.step x4 R3 T.size) R3.notFoot hDf3 hst
   (a3.step x4 R3 nil hDf3 (λq=>by cases q) hD) he2 λs' ρ' x' R' hDf' a' lC'=>hP s' ρ' (x3.wide.trans x') R' hDf' a' ?_
  ·simp only[yY];split
   ·rename_i q;exact absurd (beq_iff_eq.mp q) hxy
   ·rfl
  ·intro s ρ hp u acc acc' hp' R l he;refine bP he λu' st1 e1 he=>?_;refine ai (show(if _ then _ else none)=_ from he) λhl he=>?_;refine aA (yz (zE he)) λq0_ q1_=>?_;subst q0_;subst q1_;exact he'.use T (st:=⟨[(y,u),(x,v)],hp⟩) rm eo R l e1 λy s1 ρ1 x1 R1 r1 l1 el1=>⟨ρ1,u',x1,R1,r1,rfl,hl⟩
  ·rw[<-q]at hg3;exact absurd (yB hg3) (yu _)
  ·obtain⟨q1,q2,mm,q3,_⟩:=lC';exact⟨q1,q2,mm,q3,λy v e=>by exact no e⟩
 exact Ap loop (self _ (λit' s'=>codeAny (model pw w) A (.compLoop (two elt i1 i2 x y px py cs pos) 1 it' (.ref D) cenv) (λr s5=>match r with|.ok _=>P s5|.error _=>False) s') (zN _ hfr) loop)
theorem BZ:∀{x y:Str}{p q pos:Pos}{elt g h:Expr}{cs:Scope}{i a j:X}(T:Top H0)(r:mS cs)(t:ap cs x=true)(u:ap cs y=true)(b:y≠x)(z:bG g=true)(c:bG h=true)(B:SE H0 w F n m sc g i)(d:SE H0 w F n m cs h a)(e:SE H0 w F n m cs elt j),
 SE H0 w F n m sc (two elt g h x y p q cs pos) (.comp2 j x i y a):=by
 revert F n m sc;exists bZ,F,n,m,sc,x,y,p,q;exists bZ,pos,elt,g,h,cs,i,a,j;intro T r t u b z c B d e A env s ρ st v G C H R l f;refine bP f λM st1 J f=>?_;refine bP f λaccF hpF K f=>?_;obtain⟨rfl,rfl,N⟩:=be f;exact fb (st1:=st1) (accF:=accF) (hpF:=hpF) T r t z B C H R l J K λE D I k L o=>⟨_,qZ c,pr T C k u b L o d e⟩
theorem sd{p:Pos}{k:Nat}:∃b,swapsWith (.ListComp elt gens cs vp) (some (.Name z p)) k env=pure b:=⟨_,rfl⟩
theorem ah.adopt:∀{h:Heap}{ρ:Rho}{L D:Addr}{loc:List (Str×V)}(l:ah H0 h ρ L loc)(d:∀v y,VR h ρ v y->VR h (ρ++[(D,D)]) v y)(c:L≠D),ah H0 h (ρ++[(D,D)]) L loc:=by
 exists ce5_,h,ρ,L,D,loc;intros;obtain⟨f,g,i,j,k⟩:=l;refine⟨f,?_,i,j,λy v e=>let⟨z,a,b⟩:=k y v e;⟨z,a,d _ _ b⟩⟩;have o:foot [(D,D)]=[D]:=by simp[foot,feet]
 rw[aj,o];intro q;rcases zb.mp q with q|q
 ·exact g q
 ·exact c (zG.mp q)
theorem ah.alive:∀{h:Heap}{ρ:Rho}{L:Addr}{loc:List (Str×V)}(l:ah H0 h ρ L loc),∃o,h.get? L=some o:=by
 exists ce4_,h,ρ,L,loc;intro l;obtain⟨_,_,b,a,_⟩:=l;exact mq a
theorem iH:∀{x z:Str}{B C pos d:Pos}{elt c:Expr}{g:List Expr}{rest:List Comprehension}{cs:Scope}{xi:X}{f:V->List V->List O->Option (List V×List O)}{A:Around}{env:Env}{s:Shared}{ρ:Rho}{st st1:St}{v1:V}{accF:List V}{hpF:List O}(T:Top H0)(E:mS cs)(hx:ap cs x=true)(hz:ap sc z=true)(hs:bG c=true)(hi:SE H0 w F n m sc c xi)(rm:bt A n m)(G:aN env sc)(R:Rep H0 ρ st.hp s)(l:ah H0 s.heap ρ env.locals st.loc)(e1:ev F xi st=some (v1,st1))(e2:dv f v1 [] st1.hp=some (accF,hpF))(j:∀a D I,aN a cs->H0.objs.size<=D->D≠a.locals->∃H,dL w A (.compLoop (.ListComp elt (⟨.Name x B,c,g,0⟩::rest) cs pos) 0 (.ref I) (.ref D) a) I x B a H/\rT H0 a D [] x f H),
 wpAny (model pw w) A (exec (.Assign [.Name z C] (.ListComp elt (⟨.Name x B,c,g,0⟩::rest) cs pos) d) env) (dK H0 env.locals ρ .next (St.set ⟨st1.loc,hpF++[.list accF]⟩ z (.ref hpF.length)) s) noE s:=by
 revert F n m sc;exists ce13_,F,n,m,sc,x,z,B,C,pos,d,elt,c,g;exists ce13_,rest,cs,xi,f,A,env,s,ρ,st,st1,v1,accF,hpF;intros;obtain⟨b,i⟩:=sd (elt:=elt) (gens:=⟨.Name x B,c,g,0⟩::rest) (cs:=cs) (vp:=pos) (p:=C) (z:=z) (k:=d.line) (env:=env);cases b with
 | false=>
  refine wpAny_Assign_Name (zQ (fb T E hx hs hi rm G R l e1 e2 j) (λy s1 ⟨⟨J,Y,Z,r1⟩,el⟩=>?_) λ_ _ e=>e) i;exact eZ T G hz Z (l.step Y R T.size) r1 λs2 x2 R2 l2=>⟨J,Y.wide.trans x2,R2,by rw[<-el]at l2;exact l2,.next⟩
 | true=>
  rw[exec_Assign_Name_used _ _ _ _ i];refine zA (jX (zA ?_));show wpAny _ A (do let _<-comprehension (.ListComp elt (⟨.Name x B,c,g,0⟩::rest) cs pos) cs env _ (newList []) false (eval c env) (some (assign (.Name z C) env))) _ _ s
  refine zA (zQ (Q:=λ_ s'=>dK H0 env.locals ρ .next (St.set ⟨st1.loc,hpF++[.list accF]⟩ z (.ref hpF.length)) s .next s') (wpAny_comprehension_use rfl (fe hs env) E.free E.kind E.names (hi.use T rm G R l e1 λy s1 J Y Z r1 l1 el1=>?_)) (λ_ s' q=>zD (zD q)) λ_ _ e=>e);refine qM T rm G E hx Z r1 e2 j (P:=λacc a r s'=>match r with
   | .ok _=>wpAny (model pw w) A (assign (.Name z C) env acc) (λ_ u=>∃m,u.heap.Ns a.locals m/\∀h,jl a.locals u.heap h->dK H0 env.locals ρ .next (St.set ⟨st1.loc,hpF++[.list accF]⟩ z (.ref hpF.length)) s .next {u with heap:=h}) noE s'
   | .error x=>∃m,s'.heap.Ns a.locals m/\∀h,jl a.locals s'.heap h->wpAny (model pw w) A (passOn "comprehension.variables-let-go" x a) (λ_ s'=>dK H0 env.locals ρ .next (St.set ⟨st1.loc,hpF++[.list accF]⟩ z (.ref hpF.length)) s .next s') noE {s' with heap:=h})
   λD a s' K L M hDC hDz hCz x' R' hDf ha lC=>?_
  obtain⟨oL,eL⟩:=l1.alive;have hLD:env.locals≠D:=λq=>by rw[q,L]at eL;exact no eL
  have N:env.locals≠a.locals:=λq=>by rw[q,M]at eL;exact no eL
  obtain⟨R3,vm,r3⟩:=R'.adopt hDz hDf ha;have lA:=(l1.step x' Z T.size).adopt vm hLD;refine ju (eZ T G hz R3 lA r3 λs2 x2 R2 l2=>?_);obtain⟨S,hCf,mm,hn,_⟩:=id lC;have t:a.locals∉foot (K++[(D,D)]):=by
   have ft:foot [(D,D)]=[D]:=by simp[foot,feet]
   rw[aj,ft];intro q;rcases zb.mp q with q|q
   ·exact hCf q
   ·exact hDC (zG.mp q).symm
  have U:s2.heap.Ns a.locals mm:=gB hn λo e=>x2.keep _ o e t (λq=>N (zG.mp q).symm) (cK T.size S);refine⟨mm,U,λh sb=>?_⟩;have kk:∀b o,b≠a.locals->s2.heap.get? b=some o->h.get? b=some o:=λb o i e=>by rw[sb.2 b i];exact e
  have k1:∀b ob,s2.heap.get? b=some ob->b∉[a.locals]->h.get? b=some ob:=λb ob e i=>kk b ob (λq=>i (zG.mpr q)) e;have W:ah H0 s2.heap (K++[(D,D)]) a.locals []:=⟨S,t,mm,U,λy v e=>by exact no e⟩;obtain⟨R4,vm4⟩:=R2.but2 (s':={s2 with heap:=h}) k1 R2.gens W.mem W.noSeq;refine⟨_,Y.wide.trans ((((x'.adopt L).wide (Ls:=[env.locals])).trans x2).through (s₂:={s2 with heap:=h}) M ⟨[],by simp,by simp[foot]⟩ (λb o i e=>⟨o,kk b o i e⟩) (λb o i e _ _ _=>kk b o i e) rfl),R4,?_,.next⟩;exact l2.but2 (s':={s2 with heap:=h}) k1 (λq=>N (zG.mp q)) vm4
theorem rg:∀{x z:Str}{j k pos b:Pos}{elt a:Expr}{cs:Scope}{e f:X}(T:Top H0)(o:mS cs)(p:ap sc z=true)(q:ap cs x=true)(t:bG a=true)(u:SE H0 w F n m sc a e)(c:SE H0 w F n m cs elt f),
 SS H0 w F n m sc (.Assign [.Name z k] (.ListComp elt [⟨.Name x j,a,[],0⟩] cs pos) b) (.asg z (.comp f x e)):=by
 revert F n m sc;exists bZ,F,n,m,sc,x,z,j,k;exists bK,pos,b,elt,a,cs,e,f;intro T o p q t u c A env s ρ st r C y E R l g;refine mP g λv G d g=>?_;refine bP d λL st1 H d=>?_;refine bP d λaccF hpF J d=>?_;obtain⟨rfl,rfl,M⟩:=be d;cases g;exact iH (st1:=st1) (accF:=accF) (hpF:=hpF) T o q p t u y E R l H J λB D I h K i=>⟨_,hU,ia T rfl K i (lh T y h c)⟩
theorem n6:∀{x z:Str}{o p pos b:Pos}{elt a c:Expr}{cs:Scope}{f g h:X}(T:Top H0)(q:mS cs)(t:ap sc z=true)(u:ap cs x=true)(y:bG a=true)(B:SE H0 w F n m sc a f)(d:SE H0 w F n m cs elt g)(C:SB H0 w F n m cs c h),
 SS H0 w F n m sc (.Assign [.Name z p] (.ListComp elt [⟨.Name x o,a,[c],0⟩] cs pos) b) (.asg z (.compIf g x f h)):=by
 revert F n m sc;exists cc,F,n,m,sc,x,z,o,p,pos;exists bZ,b,elt,a,c,cs,f,g,h;intro T q t u y B d C A env s ρ st r H E J R l i;refine mP i λv K e i=>?_;refine bP e λO st1 L e=>?_;refine bP e λaccF hpF M e=>?_;obtain⟨rfl,rfl,P⟩:=be e;cases i;exact iH (st1:=st1) (accF:=accF) (hpF:=hpF) T q u t y B E J R l L M λG D I j N k=>⟨_,hU,ia T rfl N k (tj T E j d C)⟩
theorem pD:∀{x y z:Str}{t u B pos a:Pos}{elt h i:Expr}{cs:Scope}{j b k:X}(T:Top H0)(C:mS cs)(E:ap sc z=true)(G:ap cs x=true)(H:ap cs y=true)(c:y≠x)(J:bG h=true)(d:bG i=true)(K:SE H0 w F n m sc h j)(e:SE H0 w F n m cs i b)(f:SE H0 w F n m cs elt k),
 SS H0 w F n m sc (.Assign [.Name z B] (two elt h i x y t u cs pos) a) (.asg z (.comp2 k x j y b)):=by
 revert F n m sc;exists ce10_,F,n,m,sc,x,y,z,t,u,B;exists cc,pos,a,elt,h,i,cs,j,b,k;intro T C E G H c J d K e f A env s ρ st r N L O R l o;refine mP o λv P g o=>?_;refine bP g λV st1 Q g=>?_;refine bP g λaccF hpF S g=>?_;obtain⟨rfl,rfl,W⟩:=be g;cases o;exact iH (st1:=st1) (accF:=accF) (hpF:=hpF) T C G E J K L O R l Q S λM D I p U q=>⟨_,qZ d,pr T L p H c U q e f⟩
end
theorem CV:fastLookup "function" "__get__"=some (some (.builtin "function.__get__")):=by kernel_rfl
theorem Cl:fastLookup "function" "__set__"=some none:=by kernel_rfl
theorem DU:fastLookup "function" "__delete__"=some none:=by kernel_rfl
section
variable {F:Fs}{n m:Nat}{sc:Scope}
theorem Own.bound:∀{ρ:Rho}{hp:List O}{s:Shared}{A:Around}{p:Addr×Addr}{C:Addr}{fs:List (Str×V)}{e f:Obj}{x:Str}{i:Nat}{Q:Value->Shared->Prop}(k:aL H0 K)(R:Rep H0 ρ hp s)(o:Own H0 s ρ p C fs e f)(j:findIn K (.ref C) x=some (some (.ref (ae i))))(b:typeIn K (.ref (ae i))=some (.type "function"))(l:fs.lookup x=none)(c:copiedNames.contains x=false)(h:∀T,Q (.ref s.heap.objs.size) {s with heap:=s.heap.push (methodObj (.ref (ae i)) (.ref p.1)),toks:=T}),wpAny (model pw w) A (getAttr (.ref p.1) x true) Q noE s:=by
 exists b5,ρ,hp,s,A,p,C,fs,e,f,x,i,Q;intros;obtain⟨D,q,r,_,t⟩:=o.rep;obtain⟨E,u,d,_⟩:=k.dict C o.mem;have X:=k.here R;have v:specialIn K (.ref (ae i)) "__get__"=some (some (.builtin "function.__get__")):=by unfold specialIn;rw[b];exact CV
 have y:specialIn K (.ref (ae i)) "__set__"=some none:=by unfold specialIn;rw[b];exact Cl
 have z:specialIn K (.ref (ae i)) "__delete__"=some none:=by unfold specialIn;rw[b];exact DU
 have B:takesIn K (.ref (ae i))=some false:=by unfold takesIn;rw[y,z];rfl
 refine wK (g:=.builtin "function.__get__") (a:=.ref (ae i)) X o.inst (k.ga C o.mem) ?_ (k.gat C o.mem) (uR (fn_get (s:={s with toks:=s.toks+1}) X b ?_))
 ·unfold findObj;rw[u,zp,j,zp];dsimp only;rw[v,zp];dsimp only;rw[B,zp];dsimp only;unfold PySem.W.ownOf;rw[d,if_pos rfl];dsimp only;rw[fX q r.ns,t x l];dsimp only[zp];rw[c];rfl
 ·exact zD (h _)
end
section
variable {F:Fs}{n m:Nat}{sc:Scope}
theorem Dv:∀{v u:V}{x:Str}{st b:St}{i:Nat}{vs:List V}(h:aW v x st=some (.fn i))(a:cU F v x vs st=some (u,b)),cF F i (v::vs) st=some (u,b):=by
 revert F;exists bZ,F,v,u,x,st,b,i,vs;intros;refine el12 (rH h) λg c q=>?_;subst c;rcases q with ⟨fs,e,_,d⟩|⟨fs,j,e,_,f,d⟩
 ·replace a:=(Sm.mv_eqI e).symm.trans a
  rw[d]at a;exact a
 ·replace a:=(if_neg f).symm.trans ((Sm.mv_eqA e).symm.trans a)
  rw[d]at a;exact a
theorem mB{x:Str}{i:Nat}(h:vfMeth.lookup x=some i\/acMeth.lookup x=some i):copiedNames.contains x=false:=by
 have a:∀p∈vfMeth,copiedNames.contains p.1=false:=by decide
 have b:∀p∈acMeth,copiedNames.contains p.1=false:=by decide
 rcases h with h|h
 ·exact a _ (mem_lookup h)
 ·exact b _ (mem_lookup h)
theorem CN:∀{o e:Expr}{W Y:X}{x:Str}{f pos p:Pos}(T:Top H0)(k:aL H0 K)(sf:SF H0 w F n)(Z:fx o=true)(h1:SE H0 w F n m sc o W)(h2:SE H0 w F n m sc e Y),
 SE H0 w F n m sc (.Call (.Attribute o x f) [.Starred e p] [] pos) (.methStar W x Y):=by
 revert F n m sc;exists b5,F,n,m,sc,o,e,W,Y,x,f,pos,p;intros;exists bK,A,env,s,ρ,st,v,st';intro C eo R l d;refine bP d λv1 st1 e1 d=>?_;refine bP d λv2 st2 e2 d=>?_;dsimp only at d;refine bE d λD _ d=>bE d λmm hm d=>?_;obtain⟨D,rfl⟩:=D;cases mm with
 | blt id=>exact no d
 | fn i=>
 refine ai d λH d=>?_;have c:=Dv H.1 d;refine el12 (rH hm) λkk g q=>?_;subst g;have hi:i∈br:=tM hm;have own:∀{s1:Shared}{j:Rho}{y:Value},Rep H0 j st1.hp s1->VR s1.heap j (.ref kk) y->∃p1:Addr×Addr,y=.ref p1.1/\∀{Q:Value->Shared->Prop},(∀T,Q (.ref s1.heap.objs.size) {s1 with heap:=s1.heap.push (methodObj (.ref (ae i)) (.ref p1.1)),toks:=T})->wpAny (model pw w) A (getAttr y x true) Q noE s1:=by
  intro s1 j y B U;refine el12 U λp1 g I=>?_;subst g;refine av p1 rfl (λ{Q} hQ=>?_);rcases q with ⟨fs,e,hf,J⟩|⟨fs,us,e,hf,_,J⟩
  ·refine dk (gY B I e) λox od ow=>?_;refine aA (k.vfM _ (mem_lookup J)) λa b=>?_;exact ow.bound k B a b hf (mB (.inl J)) hQ
  ·refine dk (cq B I e) λox od ow=>?_;refine aA (k.acM _ (mem_lookup J)) λa b=>?_;exact ow.bound k B a b hf (mB (.inr J)) hQ
 simp only[arm_eval_Call,oP Z];refine zA (h1.use T C eo R l e1 λy s1 j x1 B U l1 el1=>?_);refine zA (jX ?_);have E:methodCallForm (([.Starred e p]:List Expr).length+([]:List Keyword).length) (backTo pos (starEach [.Starred e p] env)) (backToKw pos (keywordEach [] env))=false:=by rfl
 have L:methodCallPos false o env f pos=pure pos:=by skip;rfl
 unfold methodCall;refine E▸?_;refine el12 (own B U) λp1 g ga=>?_;subst g;refine zA (yJ ?_)
 skip
 refine zA (ga λT1=>zD ?_);refine zA (zr L ?_);obtain⟨R2,x2⟩:=B.push (methodObj (.ref (ae i)) (.ref p1.1)) T1;refine fw (T.fns i hi) λof fd hof hfd=>?_;have hMf:s1.heap.objs.size∉foot j:=B.notFoot;have hMt:s1.heap.objs.size∉aO:=cK T.size B.low;refine ks_call rfl (P:=λh=>h.get? s1.heap.objs.size=some (methodObj (.ref (ae i)) (.ref p1.1))/\h.get? (ae i)=some of) (λh h_=>aA h_ λha Z=>(av .boundFrame (.inr (.inr rfl)) ?_)) (ks_lone (h2.use T C eo R2 (l1.step x2 B T.size) e2 λz s3 M x3 R3 r3 l3 el3=>?_))
 ·unfold keeperOf;refine(Looks.ld ha).andThen ?_;refine(Looks.ld Z).andThen ?_;exact hfd▸.now
 ·refine bY r3.tupI λt xs q2_ ht V=>?_;subst q2_;obtain⟨ot,N,O,nt,hdt⟩:=id ht;have hT':s3.TypeIs (.ref t) "tuple":=(av ot N O)
  skip
  refine zA (uh hT' PySem.F.slot_tuple_iter.lookup (zD ⟨rfl,?_⟩));refine wpAny_collect_seq t (.inr rfl) N O hdt (λh' G=>?_) ?_
  ·refine aA (R3.grow (s':={s3 with heap:=h'}) G R3.gens rfl) λR4 x4=>?_;have S:=x3.keep _ _ (zN _ rfl:(s1.heap.push (methodObj (.ref (ae i)) (.ref p1.1))).get? s1.heap.objs.size=some (methodObj (.ref (ae i)) (.ref p1.1))) hMf (by simp) hMt;refine⟨⟨G _ _ S,R4.old _ _ hof (lI i hi)⟩,?_⟩;have r1':=x4.nilVal R3 (x3.nilVal R2 (x2.nilVal B U));have al':∀{D:List bj}{xs:List Value},Al AR D xs->Al (VR h' M) (D.map ofA) xs:=by
    intro D xs V
    induction V with
    | nil=>exact .nil
    | cons a _ ih=>exact .cons (oV a) ih
   skip
   refine mP c λu hp' ef c=>?_;cases c;refine uR (method_call (G _ _ S) (jm (sf A {s3 with heap:=h'} M st2.hp i _ (.ref p1.1::xs) _ _ ⟨C.handled,by have:=C.depth;exact zB this (zH ..),by have:=C.units;exact fk1 this,C.frames,C.guards⟩ R4 (.cons r1' (al' V)) ef) λr s' ⟨y,hr,ρ5,x5,R5,r5⟩=>?_));subst hr;exact⟨(cy ρ5 ((((x1.trans x2).trans x3).trans x4).trans x5) R5 r5),el3.trans (el1)⟩
  ·have h1:=V.length;have h3:(100:Nat)<=sizeLine:=by decide
   have:D.length<=100:=H.2;simp only[ze,<-h1];exact zB this h3
end
noncomputable def ff:Nat->Addr
 | 0=>cn
 | _=>aw
structure eA (H0:Heap) (w:World) (F:Fs) (n:Nat) (K:Frag):Prop where
 T:Top H0
 SO:gr w H0
 set:(H0.get? 212).isSome
 AI:AC H0 w F n
 AS:lK H0 w
 bc:BC H0 w F n
 k:aL H0 K
 TO:eQ H0
 tc:TC H0 w
 sf:SF H0 w F n
 new:∀(A:Around)(s:Shared)(ρ:Rho)(st st':St)(c:Nat)(vs:List V)(ys:List Value)(v:V)(Q:Value->Shared->Prop),bt A n 0->Rep H0 ρ st.hp s->Al (VR s.heap ρ) vs ys->newV F c vs st=some (v,st')->
  (∀y s',aC H0 ρ v st'.hp s y s'->st'.loc=st.loc->Q y s')->wpAny (model pw w) A (call (.ref (ff c)) ys) Q noE s
 call:∀C∈cN,∃o cd,H0.get? C=some o/\o.data=.cls cd/\specialIn K (.ref C) "__call__"=some (some (.builtin "type.__call__"))
section
variable {F:Fs}{n:Nat}{sc:Scope}
theorem kF:∀{k:Nat}{sc:Scope}{e:Expr}{x:X}(h:tx k sc e=some x),cg e=true/\bG e=true/\ij e=true/\(bV e=true\/∃elt gens cs p,e=.ListComp elt gens cs p):=by
 exists ce4_,k,sc,e,x;intro h;cases k with
 | zero=>exact no h
 | succ k=>cases e<;>first|exact no h|exact⟨rfl,rfl,rfl,.inl rfl⟩|exact⟨rfl,rfl,rfl,.inr ⟨_,_,_,_,rfl⟩⟩
theorem md{k:Nat}{e:Expr}{x:X}(h:tx k sc e=some x):cg e=true:=(kF h).1
theorem eB{k:Nat}{e:Expr}{x:X}(h:tx k sc e=some x):bG e=true:=(kF h).2.1
theorem qz{k:Nat}{e:Expr}{x:X}(h:tx k sc e=some x):ij e=true:=(kF h).2.2.1
theorem iN(a:eA H0 w F n K){k:Nat}(c:∀sc e x,tx k sc e=some x->SE H0 w F n 0 sc e x):∀{es:List Expr}{xs:List X},dA (tx k sc) es=some xs->es.all cg=true/\es.length=xs.length/\SEs H0 w F n 0 sc es xs
 | [],xs,h=>by
  unfold dA at h;cases h;exact⟨rfl,rfl,SEs.nil⟩
 | e::es,xs,h=>by
  unfold dA at h;refine bE h λx b h=>?_;refine mE h λd f h=>?_;cases h;obtain⟨g,i,b3⟩:=iN a c f;exact⟨by rw[uB,md b,g];rfl,by simp[i],SEs.cons a.T (md b) (c _ _ _ b) b3⟩
theorem Fl{x:Str}{c:Nat}(h:fD.lookup x=some c):ff c∈cN/\((x=nm "_ValueFormatter"/\c=0)\/(x=nm "_Accumulator"/\c=1)):=by
 have:=mem_lookup h;unfold fD at this;simp only[zM,Prod.mk.injEq,yM,or_false]at this;rcases this with ⟨rfl,rfl⟩|⟨rfl,rfl⟩
 ·exact⟨by simp[cN,ff],.inl ⟨rfl,rfl⟩⟩
 ·exact⟨by simp[cN,ff],.inr ⟨rfl,rfl⟩⟩
theorem CQ:∀C∈cN,C∉aO:=by decide
theorem ET:∀{x:Str}{c:Nat}{es:List Expr}{xs:List X}{q pos:Pos}(a:eA H0 w F n K)(z:bx sc x=true)(B:fD.lookup x=some c)(hp:es.all cg=true)(C:es.length=xs.length)(h:SEs H0 w F n 0 sc es xs),
 SE H0 w F n 0 sc (.Call (.Name x q) es [] pos) (.new c xs):=by
 revert F n sc;exists cc,F,n,sc,x,c,es,xs,q,pos;intros;exists bK,A,env,s,ρ,st,v,e;intro r t R l f;refine bP f λvs st1 D f=>?_;obtain⟨E,G,_,H,I,_⟩:=a.T.glob;obtain⟨u,b⟩:=Fl B;have J:E x=some (.ref (ff c)):=by
  rcases b with ⟨rfl,rfl⟩|⟨rfl,rfl⟩
  ·exact H
  ·exact I
 refine jf (eE t z R G J ?_);unfold callWith;refine zA (yJ (iZ hp C h r t R l D λys s1 g L i M S j=>zA (jX ?_)));obtain⟨o,U,N,O,d⟩:=a.call _ u;have m:=i.old _ _ N (CQ _ u);have Q:Looks (model pw w) s1.heap (keeperOf (.ref (ff c))) .machine:=by
  unfold keeperOf;refine(Looks.ld m).andThen ?_;rw[O];refine(looks_specialIn (a.k.here i) d).andThen ?_;exact ul rfl
 refine(iz hp).symm▸?_;refine zA (Q.here ?_);dsimp only;refine zA (a.new A s1 g st1 e c vs ys v _ r i M f λy s2 P p=>?_);exact zA (yJ (wpAny_point (zD ⟨P.after L,p.trans j⟩)))
end
section
variable {F:Fs}{n:Nat}{sc:Scope}
theorem bN{a b:Bool}(h:(a&&b)=true):a=true/\b=true:=yN.mp h
theorem tu(a:eA H0 w F n K){k:Nat}(c:∀sc e x,tx k sc e=some x->SE H0 w F n 0 sc e x){b:Option Expr}{x:X}(h:txO (tx k sc) b=some x):SP H0 w F n 0 sc b x:=by
 cases b with
 | none=>cases h;rfl
 | some e=>exact c _ _ _ h
noncomputable abbrev nZ(H0:Heap)(w:World)(F:Fs)(n:Nat)(sc:Scope)(e:Expr)(x:X):Prop:=SE H0 w F n 0 sc e x/\SB H0 w F n 0 sc e x
theorem ej(a:eA H0 w F n K){e:Expr}{x:X}(h:SE H0 w F n 0 sc e x)(b:∀st,evT F x st=(ev F x st).bind λr=>a7 F r.1 r.2)(c:∀env,PySem.isTrue e env (eval e env)=(do let v<-eval e env;standAt e.pos;holding [v] (truthy v))):nZ H0 w F n sc e x:=⟨h,Gw a.T a.AI h b c⟩
theorem cW{e:Expr}{x:X}(h:SE H0 w F n 0 sc e x)(a:∀st,evT F x st=none):nZ H0 w F n sc e x:=⟨h,λA env s ρ st b c f g R i d=>no ((a st).symm.trans d)⟩
theorem qF(a:eA H0 w F n K){c:Const}{k:Nat}{p:Pos}{x:X}(h:txC c=some x):nZ H0 w F n sc (.Constant c k p) x:=by
 cases c with
 | none=>cases h;exact ej a Ct (λ_=>rfl) λ_=>rfl
 | bool b=>cases h;exact ej a CD (λ_=>rfl) λ_=>rfl
 | int i=>cases h;exact ej a BX (λ_=>rfl) λ_=>rfl
 | str s=>cases h;exact ej a rA (λ_=>rfl) λ_=>rfl
 | float|complex|bytes|ellipsis=>exact no h
theorem sk:∀{y:Str}{p:Pos}{x:X}(a:eA H0 w F n K)(h:txN sc y=some x),nZ H0 w F n sc (.Name y p) x:=by
 revert F n sc;exists dI,F,n,sc,y,p,x;intro a h;unfold txN at h;by_cases b:ap sc y=true
 ·replace h:=((if_pos b).symm).trans h
  cases h;exact ej a (oi b) (λ_=>rfl) λ_=>rfl
 ·replace h:=((if_neg b).symm).trans h
  refine ai h λb h=>?_;cases d:cm.lookup y with
  | some t=>replace h:=d▸h;cases h;exact cW (Fd a.T b d) λ_=>rfl
  | none=>
   replace h:=d▸h
   refine mE h λc e q=>?_;subst q;exact ej a (z3 a.T b e) (λ_=>rfl) λ_=>rfl
theorem lV{k:Nat}(f:∀sc e x,tx k sc e=some x->nZ H0 w F n sc e x){x:X}(h:txL (tx k) sc cs elt gs=some x){M:List Comprehension->X->Prop}
 (B:∀y a b d p,ap cs y=true->bG a=true->SE H0 w F n 0 sc a d->SE H0 w F n 0 cs elt b->M [⟨.Name y p,a,[],0⟩] (.comp b y d))
 (C:∀y a c b d t p,ap cs y=true->bG a=true->SE H0 w F n 0 sc a d->SE H0 w F n 0 cs elt b->SB H0 w F n 0 cs c t->M [⟨.Name y p,a,[c],0⟩] (.compIf b y d t))
 (D:∀y z a i b d u p p2,ap cs y=true->ap cs z=true->z≠y->bG a=true->bG i=true->SE H0 w F n 0 sc a d->SE H0 w F n 0 cs i u->SE H0 w F n 0 cs elt b->M [⟨.Name y p,a,[],0⟩,⟨.Name z p2,i,[],0⟩] (.comp2 b y d z u)):M gs x:=by
 have one:∀g,txG (tx k) sc cs elt g=some x->M [g] x:=λg h=>bE (h:(Aq g).bind _=_) λq _ h=>ai h λl h=>bE h λd j h=>by
  have e:=q.e;cases v:g.ifs with
  | nil=>
   rw[v]at h e;exact mE h λb m o=>e.symm▸o▸(B _ _ _ _ _ l (eB j) (f _ _ _ j).1 (f _ _ _ m).1)
  | cons c r=>
   cases r with
   | nil=>
    rw[v]at h e;exact bE h λb m h=>mE h λt A o=>e.symm▸o▸(C _ _ _ _ _ _ _ l (eB j) (f _ _ _ j).1 (f _ _ _ m).1 (f _ _ _ A).2)
   | cons=>replace h:=v▸h;exact no h
 have two:∀g s,txG2 (tx k) sc cs elt g s=some x->M [g,s] x:=λg s h=>bE (h:(Aq g).bind _=_) λq _ h=>bE h λo _ h=>bE h λE _ h=>bE h λG _ h=>ai h λl h=>bE h λd j h=>bE h λu m h=>mE h λb A e=>by
  exact q.e.symm▸o.e.symm▸E.1.symm▸G.1.symm▸e▸(D _ _ _ _ _ _ _ _ _ (bN (bN l).1).1 (bN (bN l).1).2 (by simpa using (bN l).2) (eB j) (eB m) (f _ _ _ j).1 (f _ _ _ m).1 (f _ _ _ A).1)
 cases gs with
 | nil=>exact no h
 | cons g r=>cases r with
  | nil=>exact one g h
  | cons s r=>cases r with
   | nil=>exact two g s h
   | cons=>exact no h
theorem qb:∀{k:Nat}{f:Expr}{y:Str}{p pos:Pos}{es:List Expr}{x:X}(a:eA H0 w F n K)(b:∀sc e x,tx k sc e=some x->SE H0 w F n 0 sc e x)(o:f=.Name y p)(h:txF (tx k sc) sc y es=some x),nZ H0 w F n sc (.Call f es [] pos) x:=by
 revert F n sc;exists ce10_,F,n,sc,k,f,y,p,pos,es,x;intros;subst o;refine ai (h:(if _ then _ else none)=_) λd h=>bE h λxs q h=>?_;refine cE (iN a b q) λg j b3=>?_;cases l:cp.lookup y with
 | some i=>replace h:=l▸h;cases h;exact ej a (CH a.T a.sf d l g j b3) (λ_=>rfl) λ_=>rfl
 | none=>
  rw[l]at h;dsimp only at h;cases m:fD.lookup y with
  | some c=>replace h:=m▸h;cases h;exact cW (ET a d m g j b3) λ_=>rfl
  | none=>
   rw[m]at h;refine ai h λr h=>?_;cases h;exact cW (GF a.T a.bc d (by simpa using r) g j b3) λ_=>rfl
theorem pZ:∀{k:Nat}{f o:Expr}{m:Str}{c pos:Pos}{es:List Expr}{x:X}(a:eA H0 w F n K)(b:∀sc e x,tx k sc e=some x->SE H0 w F n 0 sc e x)(r:f=.Attribute o m c)(h:txA (tx k sc) o m (c.endLine==pos.line) es=some x),nZ H0 w F n sc (.Call f es [] pos) x:=by
 revert F n sc;exists ck,F,n,sc,k,f,o,m,c,pos,es,x;intros;subst r;refine ai (h:(if _ then _ else none)=_) λi h=>?_;cases j:Er es with
 | some q=>
  simp only[j]at h;obtain⟨⟨e,p⟩,rfl⟩:=q;exact bE h λs d h=>mE h λv g q=>q▸cW (CN a.T a.k a.sf i (b _ _ _ d) (b _ _ _ g)) λ_=>rfl
 | none=>
  replace h:=j▸h
  refine ai h λl h=>bE h λs d h=>mE h λxs g q=>?_;subst q;refine cE (iN a b g) λt u b3=>?_;exact ej a (tR a.T a.k a.TO a.tc a.sf i (bN l).1 t (of_decide_eq_true (bN l).2) u (b _ _ _ d) b3) (λ_=>rfl) λ_=>rfl
theorem og:∀(a:eA H0 w F n K)(k:Nat),∀sc e x,tx k sc e=some x->nZ H0 w F n sc e x:=by
 revert F n;exists ce2_,F,n;intro a k
 induction k with
 | zero=>exactλ_ _ _ h=>no h
 | succ k G=>
  intro sc e x h;have d:∀sc e x,tx k sc e=some x->SE H0 w F n 0 sc e x:=λsc e x h=>(G sc e x h).1;have s:∀sc e x,tx k sc e=some x->SB H0 w F n 0 sc e x:=λsc e x h=>(G sc e x h).2;cases e with
  | Constant c V p=>exact qF a h
  | Name y p=>exact sk a h
  | BinOp l op r p=>exact bE (h:(xV op).bind _=_) λo W h=>bE h λA g h=>mE h λD j q=>q▸cW (FZ a.T W (d _ _ _ g) (d _ _ _ j)) λ_=>rfl
  | UnaryOp op y p=>
   cases op with
   | USub=>exact mE (h:(tx k sc y).map X.neg=_) λA g q=>q▸cW (Gg a.T (d _ _ _ g)) λ_=>rfl
   | Not=>exact mE (h:(tx k sc y).map X.not=_) λA g q=>q▸⟨FE a.T a.AI (d _ _ _ g),Gf a.T (s _ _ _ g)⟩
   | Invert|UAdd=>exact no h
  | BoolOp op es p=>
   refine bE (h:(oU es).bind _=_) λq _ h=>bE h λA g h=>mE h λD j e=>?_;obtain⟨⟨l,r⟩,rfl⟩:=q;subst e;cases op with
   | And=>exact⟨Gv a.T a.AI (d _ _ _ g) (d _ _ _ j),Ft a.T (s _ _ _ g) (s _ _ _ j)⟩
   | Or=>exact⟨se_or a.T a.AI (d _ _ _ g) (d _ _ _ j),sb_or a.T (s _ _ _ g) (s _ _ _ j)⟩
  | IfExp t b e p=>exact bE (h:(tx k sc t).bind _=_) λA g h=>bE h λD j h=>mE h λY B q=>q▸cW (Cz a.T (s _ _ _ g) (d _ _ _ j) (d _ _ _ B)) λ_=>rfl
  | Compare l H rs p=>
   refine bE (h:(dm H).bind _=_) λop _ h=>bE h λr _ h=>?_;obtain⟨op,rfl⟩:=op;obtain⟨r,rfl⟩:=r;dsimp only at h;by_cases C:behindInMarks op r=true
   ·replace h:=((if_pos C).symm).trans h;exact no h
   ·replace h:=((if_neg C).symm).trans h
    have C:=(Bool.not_eq_true _).mp C;exact bE h λA g h=>mE h λD j q=>q▸⟨EW a.T a.SO a.set C (d _ _ _ g) (d _ _ _ j),xZ a.T a.SO a.set C (d _ _ _ g) (d _ _ _ j)⟩
  | Subscript v i p=>
   refine bE (h:(tx k sc v).bind _=_) λA g h=>?_;cases P:sn i with
   | some q=>
    simp only[P]at h;obtain⟨⟨⟨lo,hi,st⟩,p2⟩,rfl⟩:=q;refine bE h λI _ h=>bE h λD j h=>mE h λY B q=>?_;obtain⟨I⟩:=I;cases I;subst q;exact cW (Ai a.T a.AS (d _ _ _ g) (tu a d j) (tu a d B)) λ_=>rfl
   | none=>
    replace h:=P▸h
    exact mE h λD j q=>q▸ej a (DH a.T a.AI.item (d _ _ _ g) (d _ _ _ j)) (λ_=>rfl) λ_=>rfl
  | Attribute v m p=>exact ai (h:(if _ then _ else none)=_) λu h=>mE h λA g q=>by subst q;exact ej a (DW a.T a.k (bN u).1 (by simpa using (bN u).2) (d _ _ _ g)) (λ_=>rfl) λ_=>rfl
  | Tuple es V p=>
   refine ai (h:(if _ then _ else none)=_) λu h=>mE h λxs g q=>?_;subst q;refine cE (iN a d g) λb1 Z b3=>?_;exact cW (Bp (Z▸u) b3) λ_=>rfl
  | List es p=>exact mE (h:(dA (tx k sc) es).map X.lst=_) λxs g q=>q▸cW (Gh (iN a d g).2.2) λ_=>rfl
  | ListComp elt Q cs p=>
   refine ai (h:(if _ then _ else none)=_) λu h=>lV G h (M:=λQ x=>nZ H0 w F n sc (.ListComp elt Q cs p) x) ?_ ?_ ?_
   ·exactλy R S U p E ns g j=>cW (CC a.T (fZ u) E ns g j) λ_=>rfl
   ·exactλy R c S U xc p E ns g j B=>cW (wN a.T (fZ u) E ns g j B) λ_=>rfl
   ·exactλy z R it2 S U xj p p2 E J L ns N g j B=>cW (BZ a.T (fZ u) E J L ns N g j B) λ_=>rfl
  | Call f es ks p=>
   refine bE (h:(fG ks).bind _=_) λO _ h=>?_;obtain⟨O⟩:=O;subst O;exact bo h (λh=>bE h λq _ h=>pZ a d q.2 h) (λh=>bE h λq _ h=>qb a d q.2 h)
  | _=>exact no h
theorem dn(a:eA H0 w F n K)(k:Nat):(∀sc e x,tx k sc e=some x->SE H0 w F n 0 sc e x)/\(∀sc e x,tx k sc e=some x->SB H0 w F n 0 sc e x):=⟨λsc e x h=>(og a k sc e x h).1,λsc e x h=>(og a k sc e x h).2⟩
end
noncomputable def kG(H0:Heap)(w:World)(F:Fs)(n:Nat):Prop:=∀(sc:Scope)(x y z a:Str)(l:Expr)(e:X)(b:List Stmt)(f:List S)(k k2:Nat)(p1 p2 p3 g h i j m o c d pos:Pos),(ap sc x&&ap sc y&&bx sc z&&bx sc a&&z==nm "zip"&&a==nm "iter")=true->
 cg l=true->SE H0 w F n 0 sc l e->SSs H0 w F n 0 sc b f->
 SS H0 w F n 0 sc (.For (.Tuple [.Name x p1,.Name y p2] k p3) (.Call (.Name z g) [.Starred (.BinOp (.List [.Call (.Name a h) [l] [] i] j) .Mult (.Constant (.int 2) k2 m) o) c] [] d) b [] pos) (.forPair x y e f)
section
variable {F:Fs}{n:Nat}{sc:Scope}
theorem wD:∀{k:Nat}{x:Str}{t e:Expr}{b:X}{p pos:Pos}(a:eA H0 w F n K)(u:t=.Name x p)(j:ap sc x=true)(h:tx k sc e=some b),SS H0 w F n 0 sc (.Assign [t] e pos) (.asg x b):=by
 revert F n sc;exists ce10_,F,n,sc,k,x,t,e,b,p,pos;intros;subst u;rcases(kF h).2.2.2 with d|⟨elt,gens,cs,v,rfl⟩
 ·exact EU a.T j d ((dn a k).1 _ _ _ h)
 ·cases k with
  | zero=>exact no h
  | succ k=>
   refine ai (h:(if _ then _ else none)=_) λd h=>lV (og a k) h (M:=λA b=>SS H0 w F n 0 sc (.Assign [.Name x p] (.ListComp elt A cs v) pos) (.asg x b)) ?_ ?_ ?_
   ·exactλy r b s p f ns g i=>rg a.T (fZ d) j f ns g i
   ·exactλy r c b s C p f ns g i l=>n6 a.T (fZ d) j f ns g i l
   ·exactλy z r B b s D p p2 f m o ns q g i l=>pD a.T (fZ d) j f m o ns q g i l
theorem Dw(T:Top H0){e:Expr}{x y:Str}{p1 p2 p:Pos}{k:Nat}(c:t=.Tuple es k p)(d:es=[t1,t2])(f:t1=.Name x p1)(g:t2=.Name y p2)(b:(ap sc x&&ap sc y&&bV e&&hM e)=true)(h:SE H0 w F n 0 sc e xe):SS H0 w F n 0 sc (.Assign [t] e pos) (.asg2 x y xe):=by
 subst c f g d;have a:=bN (bN b).1;exact Di T (bN a.1).1 (bN a.1).2 a.2 (bN b).2 h
theorem AJ(a:eA H0 w F n K){k:Nat}{t v e i:Expr}{b c d f:X}{g h st:Option Expr}{p p2 pos:Pos}(j:t=.Subscript v i p)(l:i=.Slice g h st p2)(m:st=none)(o:bV e=true)(q:SE H0 w F n 0 sc v b)(r:txO (tx k sc) g=some c)(s:txO (tx k sc) h=some d)(u:SE H0 w F n 0 sc e f):SS H0 w F n 0 sc (.Assign [t] e pos) (.asgSlice b c d f):=by
 subst j m l;exact qJ a.T a.k o q (tu a (dn a k).1 r) (tu a (dn a k).1 s) u
theorem BU(a:eA H0 w F n K){k:Nat}{y:Str}{xs:List X}{f:Expr}{b o:List Stmt}{p:Pos}(h:t=.Name y p)(i:ap sc y=true)(j:SSs H0 w F n 0 sc b xb)(l:SSs H0 w F n 0 sc o xo)(m:dA (tx k sc) es=some xs)(d:oq sc it=some (f,es)):SS H0 w F n 0 sc (.For t it b o pos) (.forR y xs xb xo):=by
 subst h;refine bE (d:(qA it).bind _=_) λc _ d=>bE d λr _ d=>bE d λq _ d=>ai d λe s=>?_;have g:=c.2;simp only[q.1,r.2,(yz (zE s)).2]at g;rw[g];refine cE (iN a (dn a k).1 m) λu v b3=>?_;exact CF a.T i (bN e).1 (by simpa using (bN e).2) u v b3 j l
theorem Da(c:kG H0 w F n){x y:Str}{b o:List Stmt}{p1 p2 p:Pos}{k:Nat}(Z:Zip sc it)(d:t=.Tuple es k p)(f:es=[t1,t2])(g:t1=.Name x p1)(h:t2=.Name y p2)(i:o=[])(a:(ap sc x&&ap sc y)=true)(j:cg Z.l=true)(m:SE H0 w F n 0 sc Z.l xl)(q:SSs H0 w F n 0 sc b xb):SS H0 w F n 0 sc (.For t it b o pos) (.forPair x y xl xb):=by
 subst d g h f i;rw[Z.e];refine c _ _ _ _ _ _ _ _ _ _ _ _ _ _ _ _ _ _ _ _ _ _ _ ?_ j m q;simp only[(bN a).1,(bN a).2];exact Z.ok
theorem CO(a:eA H0 w F n K){o e:Expr}{x:Str}{p:Pos}(c:t=.Attribute o x p)(b:(fldNames.contains x&&bV e)=true)(d:SE H0 w F n 0 sc o xo)(f:SE H0 w F n 0 sc e xe):SS H0 w F n 0 sc (.Assign [t] e pos) (.asgAttr xo x xe):=by
 subst c;exact mr a.T a.k (by simpa using (bN b).1) (bN b).2 d f
theorem Dz(a:eA H0 w F n K){y:Str}{k:Nat}{b o:List Stmt}{p:Pos}(d:t=.Name y p)(e:ap sc y=true)(c:tx k sc it=some x1)(f:SSs H0 w F n 0 sc b xb)(g:SSs H0 w F n 0 sc o xo):SS H0 w F n 0 sc (.For t it b o pos) (.forV y x1 xb xo):=by
 subst d;exact Cu a.T e (eB c) ((dn a k).1 _ _ _ c) f g
theorem xm:∀{k:Nat}{e t:Expr}{x:S}{pos:Pos}(a:eA H0 w F n K)(h:tsT (tx k sc) sc e t=some x),SS H0 w F n 0 sc (.Assign [t] e pos) x:=by
 revert F n sc;exists bZ,F,n,sc,k,e,t,x,pos;intro a h;exact(have b:=(dn a k).1
 bo h (λh=>bE h λq _ h=>ai h λg h=>mE h λ_ c e=>e▸wD a q.2 g c) λh=>
 bo h (λh=>bE h λt _ h=>bE h λq _ h=>bE h λi _ h=>bE h λj _ h=>ai h λd h=>mE h λ_ f e=>e▸Dw a.T t.2 q.2 i.2 j.2 d (b _ _ _ f)) λh=>
 bo h (λh=>bE h λt _ h=>ai h λd h=>bE h λ_ c h=>mE h λ_ f e=>e▸CO a t.2 d (b _ _ _ c) (b _ _ _ f)) λh=>
 bE h λt _ h=>bE h λq _ h=>bE h λl _ h=>ai h λd h=>bE h λ_ c h=>bE h λ_ f h=>bE h λ_ m h=>mE h λ_ o e=>e▸AJ a t.2 q.2 l.1 d (b _ _ _ c) f m (b _ _ _ o))
theorem wY:∀{k:Nat}{t c:Expr}{b o:List Stmt}{d f:List S}{x:S}{pos:Pos}(a:eA H0 w F n K)(r:kG H0 w F n)(g:SSs H0 w F n 0 sc b d)(j:SSs H0 w F n 0 sc o f)(h:tsF (tx k sc) sc c o d f t=some x),SS H0 w F n 0 sc (.For t c b o pos) x:=by
 revert F n sc;exists b5,F,n,sc,k,t,c,b,o,d,f,x,pos;intros;exact(bo h (λh=>bE h λq _ h=>ai h λl h=>bo h (λh=>bE h λp s h=>mE h λ_ i e=>e▸BU a q.2 l g j i s) (λh=>ai h λ_ h=>mE h λ_ i e=>e▸Dz a q.2 l i g j))
  λh=>bE h λt _ h=>bE h λq _ h=>bE h λu _ h=>bE h λv _ h=>bE h λz _ h=>bE h λy _ h=>ai h λA h=>mE h λ_ m e=>e▸Da r z t.2 q.2 u.2 v.2 y.1 A (md m) ((dn a k).1 _ _ _ m) g)
end
section
variable {F:Fs}{n:Nat}{sc:Scope}
theorem Bv:∀(a:eA H0 w F n K)(y:kG H0 w F n),∀(k:Nat),(∀sc e x,ts k sc e=some x->SS H0 w F n 0 sc e x)/\(∀sc e x,tss k sc e=some x->SSs H0 w F n 0 sc e x):=by
 revert F n;exists ce2_,F,n;intro a y;intro k
 induction k with
 | zero=>exact⟨λsc e x h=>no h,λsc e x h=>no h⟩
 | succ k A=>
  refine aA A λl d=>?_;refine aA (dn a k) λf m=>?_;refine⟨λsc e x h=>?_,λsc e x h=>?_⟩
  ·cases e with
   | Expr e p=>exact ai (h:(if _ then _ else none)=_) λB h=>mE h λj c q=>by subst q;exact Dq a.T B (f _ _ _ c)
   | Return e p=>
    refine mE (h:(txO (tx k sc) e).map S.ret=_) λj c q=>?_;cases e with
    | none=>cases c;subst q;exact ri
    | some e=>subst q;exact Fj a.T (f _ _ _ c)
   | Assign ts e p=>
    refine bE (h:(dm ts).bind _=_) λt _ h=>?_;obtain⟨t,rfl⟩:=t;exact xm a h
   | AugAssign t op e p=>
    refine bE (h:(is? (op=.Add)).bind _=_) λo _ h=>bE h λq _ h=>bE h λj c h=>bE h λz g h=>mE h λC u e=>?_;obtain⟨o⟩:=o;obtain⟨⟨⟨v,i⟩,p2⟩,rfl⟩:=q;subst o;subst e;exact sw a.T a.k (qz g) (f _ _ _ c) (f _ _ _ g) (f _ _ _ u)
   | If t b o p=>exact bE (h:(tx k sc t).bind _=_) λj c h=>bE h λz g h=>mE h λC u q=>q▸Fa a.T (m _ _ _ c) (d _ _ _ g) (d _ _ _ u)
   | For t D b o p=>exact bE (h:(tss k sc b).bind _=_) λE c h=>bE h λG g h=>wY a y (d _ _ _ c) (d _ _ _ g) h
   | Break p=>cases h;exact FM
   | Continue p=>cases h;exact Dy
   | Pass p=>cases h;exact DA
   | _=>exact no h
  ·cases e with
   | nil=>cases h;exact SSs.nil
   | cons s r=>exact bE (h:(ts k sc s).bind _=_) λj c h=>mE h λz g q=>q▸SSs.cons (l _ _ _ c) (d _ _ _ g)
end
section
variable {A:Around}{s:Shared}{E:Value->Shared->Prop}
theorem wn{a:Addr}{xs:Array Value}{Q:Value->Shared->Prop}(h:s.heap.IsList a xs)(b:Q (.ref s.heap.objs.size) {s with heap:=s.heap.push {cls:=.type "list_iterator",data:=.fields #[.ref a,.int 0 0]}}):
 wpAny (model pw w) A (call (.builtin "iter") [.ref a]) Q E s:=by
 refine call_function_entry (by decide +kernel) (by decide +kernel) kdk_entry_iter (kdk_args_iter _) ?_;unfold Builtin.«iter»;refine zA (m:=someArgs "iter" 1 2 _) (zr (a:=[jV a]) (by first|rfl|kernel_rfl!) ?_)
 skip
 refine zA (vO h ?_);exact zD (av _ rfl b)
theorem twice{l:Addr}{v:Value}{u:Tok}{Q:Value->Shared->Prop}(a:s.heap.get? l=some {cls:=.type "list",data:=.seq #[v]})
 (h:Q (.ref s.heap.objs.size) {s with heap:=s.heap.push {cls:=.type "list",data:=.seq #[v,v]}}):wpAny (model pw w) A (binaryOp .Mult (.ref l) (.int 2 u)) Q E s:=by
 refine wpAny_binaryOp_repeat_ref (T:="list") (U:="int") (by decide) ⟨_,a,rfl⟩ (λs'=>typeIs_int s' 2 u) noFill_list_mul F.fills_int_mul F.slot_int_rmul repeat_list F.slot_int_index.lookup
  (call_meets F.slot_int_rmul (typeIs_int s 2 u) F.entry_int_rmul (F.args_int_rmul_2 _ _) (lm_int_rmul_list_any 2 u l #[v] 0 none #[])
   ⟨a,rfl,⟨_,a,rfl⟩,call_meets F.slot_list_mul ⟨_,a,rfl⟩ F.entry_list_mul (F.args_list_mul_2 _ _)
    (lm_list_mul_any l #[v] 0 none #[] 2 u (by decide) (by refine(?_:¬(1*2>(2 ^ 63-1)/8));decide) (by refine(?_:¬(vG (1*2))=true);decide))
    ⟨a,?_⟩⟩)
 exact h
noncomputable abbrev kU(h:Heap)(I:Addr):Heap:=h.push {cls:=.type "tuple",data:=.seq #[.ref I,.ref I]}
noncomputable abbrev iS(h:Heap)(I:Addr):Heap:=(kU h I).push {cls:=.type "tuple",data:=.seq #[.none,.none]}
noncomputable abbrev eM(h:Heap)(I:Addr):Heap:=(iS h I).push {cls:=.type "zip",data:=.fields #[.none,.bool false,.bool false,.ref h.objs.size,.ref (kU h I).objs.size]}
theorem rG:∀(I a:Addr)(k:Nat),
 Meets (Builtin.«zip.__new__» ⟨[.type "zip",.ref I,.ref I],[]⟩) (λ_ R s=>s.heap.IsListIter I a k/\R (.ok (.ret (.ref (iS s.heap I).objs.size))) {s with heap:=eM s.heap I}):=by
 exists ce3_,I,a,k;exact(.of_wp λe w A R s h=>by
  obtain⟨hp,g,d,i,j⟩:=s;obtain⟨c,h⟩:=h;have f:=sub_zip;have b:Heap.IsListIter (Shared.heap ⟨hp,g,d,i,j⟩) I a k:=c
  wp_walk using uo b,uo b
  exact av _ rfl h)
theorem wz{a:Addr}{k:Nat}{Q:Value->Shared->Prop}(d:s.heap.IsListIter I a k)
 (h:Q (.ref (s.heap.objs.size+2)) {s with heap:=eM s.heap I}):wpAny (model pw w) A (call (.type "zip") [.ref I,.ref I]) Q E s:=by
 refine callType_new F.called_zip (by decide) (F.typeCall_zip_2 _ _) (F.newCall_zip_2 _ _) (λobj=>F.args_object_init_3 obj _ _) F.entry_zip_new
  (rG I a k) ⟨d,?_⟩
 have b:(iS s.heap I).objs.size=s.heap.objs.size+2:=by simp only[yW,(yW .. : (kU s.heap I).objs.size=s.heap.objs.size+1)]
 have c:(eM s.heap I).get? (iS s.heap I).objs.size=some _:=zN _ rfl;refine(?_:_/\_);simp only[b]at c;rw[b];exact⟨(av _ c rfl),h⟩
structure Zap (z TI TO I a:Addr):Prop where
 TIz:TI≠z
 TOz:TO≠z
 Iz:I≠z
 TITO:TI≠TO
 TII:TI≠I
 TOI:TO≠I
 az:a≠z
 aTO:a≠TO
 aI:a≠I
structure Zp (h:Heap) (z TI TO I a:Addr) (k:Nat) (xs:Array Value) (f0:Value):Prop where
 z:IsZip h z TI TO f0
 ti:IsPair h TI (.ref I) (.ref I)
 to:∃a b,IsPair h TO a b
 it:h.IsListIter I a k
 li:h.IsList a xs
theorem Zp.but{h c:Heap}{z TI TO I a b:Addr}{k:Nat}{xs:Array Value}{d:Value}(Z:Zp h z TI TO I a k xs d)(sb:jl b h c)(f:TI≠b)(g:TO≠b)(i:I≠b)(j:a≠b)(l:z≠b):Zp c z TI TO I a k xs d:=
 let⟨p,q,e⟩:=Z.to
 ⟨sb.extBut _ _ l Z.z,sb.extBut _ _ f Z.ti,⟨p,q,sb.extBut _ _ g e⟩,Z.it.extBut sb.extBut i,Z.li.extBut sb.extBut j⟩
theorem vZ:∀{z TI TO I a:Addr}{k:Nat}{xs:Array Value}{x y:Value}{Q:Option Value->Shared->Prop}(D:Zap z TI TO I a)(Z:Zp s.heap z TI TO I a k xs .none)(hx:xs[k]?=some x)(hy:xs[k+1]?=some y) (hQ:∀O,Zp O z TI TO I a (k+2) xs (rawInt s.heap.objs.size)->IsPair O s.heap.objs.size x y->O.objs.size=s.heap.objs.size+1->
 (∀c o,c≠z->c≠TO->c≠I->s.heap.get? c=some o->O.get? c=some o)->Q (some (.ref s.heap.objs.size)) {s with heap:=O}),
 wpAny (model pw w) A (pyNext (.ref z)) Q E s:=by
 revert A s E;exists ce13_,A,s,E,z,TI,TO,I,a,k,xs,x,y,Q;intros;obtain⟨N,P,⟨pa,pb,hTO⟩,hit,L⟩:=Z;have hT:s.TypeIs (.ref z) "zip":=(av _ N rfl)
 skip
 refine zA (wpAny_attempt (uY (name:=zf "__next__") hT F.slot_zip_next (jW F.slot_zip_next hT F.entry_zip_next ?_ (F.args_zip_next_1 _))));refine(?_:wpAny _ _ (field (.ref z) 2>>=_) _ _ _);refine zA (yv N rfl (x:=.bool false) rfl ?_)
 skip
 refine zA (yv N rfl (x:=.ref TI) rfl ?_);refine zA (yx P rfl ?_)
 skip
 refine zA ?_
 skip
 refine zA (yv N rfl (x:=.none) rfl (zD ?_));dsimp only[if_true];refine zA (jw ?_);refine zA (yv N rfl (x:=.ref TO) rfl ?_);refine zA (ud N (by simp) λR p d=>?_)
 replace p:IsZip R z TI TO .ellipsis:=p
 refine zA ?_;dsimp only[List.zipIdx_cons,List.zipIdx_nil,yf,jJ];refine zA (zA (wpAny_onRaise ?_))
 skip
 refine zA (wpAny_nextOf_list_item (hit.extBut d.extBut D.Iz) (L.extBut d.extBut D.az) hx λS H g=>zD ?_);have v:IsPair S TO pa pb:=g.extBut _ _ D.TOI (d.extBut _ _ D.TOz hTO);refine zA (yx v rfl ?_);refine zA (wpAny_updateSeq_pair v λT i h=>?_)
 replace i:IsPair T TO x pb:=i
 refine zA (uC (zD ?_));refine zA (zA (wpAny_onRaise ?_))
 skip
 refine zA (wpAny_nextOf_list_item (H.extBut h.extBut D.TOI.symm) (((L.extBut d.extBut D.az).extBut g.extBut D.aI).extBut h.extBut D.aTO) hy λU J j=>zD ?_);have B:IsPair U TO x pb:=j.extBut _ _ D.TOI i;refine zA (yx B rfl ?_);refine zA (wpAny_updateSeq_pair B λb f l=>?_)
 replace f:IsPair b TO x y:=f
 refine zA (uC (zD (zD ?_)));refine zA (yx f rfl ?_);refine zA (wpAny_newTuple ?_);have V:b.objs.size=s.heap.objs.size:=l.1.trans (j.1.trans (h.1.trans (g.1.trans d.1)));have q:∀c o,c≠z->c≠TO->c≠I->s.heap.get? c=some o->b.get? c=some o:=λc o c1 c2 c3 e=>
  l.extBut _ _ c2 (j.extBut _ _ c3 (h.extBut _ _ c2 (g.extBut _ _ c3 (d.extBut _ _ c1 e))))
 have C:IsZip b z TI TO .ellipsis:=l.extBut _ _ D.TOz.symm (j.extBut _ _ D.Iz.symm (h.extBut _ _ D.TOz.symm (g.extBut _ _ D.Iz.symm p)));have K:z<b.objs.size:=yB C
 skip
 refine zA ?_
 skip
 have M:IsZip (b.push {cls:=.type "tuple",data:=.seq #[x,y]}) z TI TO .ellipsis:=zJ _ C;refine zA (ud M (by simp) λW r t=>?_)
 replace r:IsZip W z TI TO (rawInt b.objs.size):=r
 refine ud r (by simp) λn m u=>?_
 replace m:IsZip n z TI TO (rawInt b.objs.size):=m
 have X:∀c o,c≠z->b.get? c=some o->n.get? c=some o:=λc o c1 e=>u.extBut _ _ c1 (t.extBut _ _ c1 (zJ _ e));have G:IsPair n b.objs.size x y:=u.extBut _ _ (yF K) (t.extBut _ _ (yF K) (zN _ rfl));have Y:n.objs.size=b.objs.size+1:=by simp only[u.1,t.1,yW]
 rw[V]at m G Y;refine zD (av _ rfl (zD ?_))
 skip
 rw[V];exact hQ n ⟨m,X _ _ D.TIz (q _ _ D.TIz D.TITO D.TII P),⟨_,_,X _ _ D.TOz f⟩,(J.extBut l.extBut D.TOI.symm:b.IsListIter I a (k+2)).at λo e=>X _ o D.Iz e,L.at λo e=>X _ o D.az (q _ o D.az D.aTO D.aI e)⟩ G Y λc o c1 c2 c3 e=>X c o c1 (q c o c1 c2 c3 e)
theorem Cj:∀{z TI TO I a:Addr}{k:Nat}{xs:Array Value}{Q:Option Value->Shared->Prop}(H:A.handled=none)(D:Zap z TI TO I a)(Z:Zp s.heap z TI TO I a k xs .none)(m:xs[k]?=none)(J:∀B,(∀c o,c≠z->c≠I->s.heap.get? c=some o->B.get? c=some o)->Q none {s with heap:=B}),wpAny (model pw w) A (pyNext (.ref z)) Q E s:=by
 revert A s E;exists ck,A,s,E,z,TI,TO,I,a,k,xs,Q;intros;obtain⟨l,t,⟨N,O,K⟩,hit,u⟩:=Z;have C:s.TypeIs (.ref z) "zip":=(av _ l rfl)
 skip
 refine zA (wpAny_attempt (uY (name:=zf "__next__") C F.slot_zip_next (jW F.slot_zip_next C F.entry_zip_next ?_ (F.args_zip_next_1 _))));refine(?_:wpAny _ _ (field (.ref z) 2>>=_) _ _ _);refine zA (yv l rfl (x:=.bool false) rfl ?_)
 skip
 refine zA (yv l rfl (x:=.ref TI) rfl ?_);refine zA (yx t rfl ?_)
 skip
 refine zA ?_
 skip
 refine zA (yv l rfl (x:=.none) rfl (zD ?_));dsimp only[if_true];refine zA (jw ?_);refine zA (yv l rfl (x:=.ref TO) rfl ?_);refine zA (ud l (by simp) λn d f=>?_)
 replace d:IsZip n z TI TO .ellipsis:=d
 refine zA ?_;simp only[List.zipIdx_cons,List.zipIdx_nil,yf,jJ];refine zA (zA (wpAny_onRaise ?_))
 skip
 refine zA (wpAny_nextOf_list_end H (hit.extBut f.extBut D.Iz) (u.extBut f.extBut D.az) m λp e g L=>?_);refine el12 L λG j q=>?_;have h:IsZip p z TI TO .ellipsis:=g _ _ D.Iz.symm d;have v:e≠z:=λx=>by cases x;replace j:=h.symm.trans j;cases j;simp at q
 refine ud h (by simp) λr _ i=>?_;have y:r.get? e=some G:=i.extBut _ _ v j;refine zA (uy (T:="StopIteration") (b:=true) (av G y q) isSubtype_stop ?_);exact zD (J _ λc o c1 M x=>i.extBut _ _ c1 (g _ _ M (f.extBut _ _ c1 x)))
end
section
variable {F:Fs}{n m:Nat}{sc:Scope}
theorem iu(a:Addr):foot [(a,a)]=[a]:=by simp[foot,feet]
theorem Rep.ghosted:∀{ρ:Rho}{hp:List O}{s s':Shared}{G:Addr}{x y:Value}(R:Rep H0 ρ hp s)(k:∀b ob,s.heap.get? b=some ob->s'.heap.get? b=some ob)(g:AllBare s'.gens)(o:s'.os=s.os)(l:s.heap.get? G=none)(u:H0.objs.size<=G)(t:IsPair s'.heap G x y),
 Rep H0 (ρ++[(G,G)]) (hp++[.ghost]) s'/\Step [] ρ (ρ++[(G,G)]) s s':=by
 exists bK,ρ,hp,s,s',G,x,y;intros;have st:Step [] ρ (ρ++[(G,G)]) s s':=⟨⟨[(G,G)],rfl,λb c=>by rw[iu]at c;rw[zG.mp c];exact l⟩,λb ob e=>⟨ob,k b ob e⟩,λb ob e _ _ _=>k b ob e,o⟩;have w:∀v y,VR s.heap ρ v y->VR s'.heap (ρ++[(G,G)]) v y:=λv y r=>st.val R (λb c=>by cases c) r;have z:G∉foot ρ:=λq=>by obtain⟨ob,e⟩:=R.footObj q;rw[e]at l;cases l
 refine⟨⟨λb ob e h=>k b ob (R.old b ob e h),R.tab.but λb _ ob e=>k b ob e,g,by simp[R.len],λi p ob d f=>?_,?_,λb c=>?_,R.lo⟩,st⟩
 ·by_cases j:i<ρ.length
  ·rw[zU j]at d;rw[zU (R.len▸j)]at f;exact(R.obj i p ob d f).mono (λb _ o e=>k b o e) w
  ·rw[yg (yU j)]at d;rw[yg (by rw[<-R.len];exact yU j),<-R.len]at f;have:i-ρ.length=0:=by
    have:=(zh.mp d).1;simp at this;exact this
   rw[this]at d f;simp at d f
   subst d f;exact⟨rfl,x,y,t⟩
 ·rw[aj,iu];refine ye.mpr ⟨R.apart,by simp,λa A b c=>?_⟩;simp at c;subst c
  exactλq=>z (q▸A)
 ·rw[aj,iu]at c;rcases zb.mp c with c|c
  ·exact R.above b c
  ·simp at c;subst c;exact oK R.lo.big u
theorem Rep.ghost:∀{Ls:List Addr}{ρ:Rho}{hp:List O}{s s':Shared}{G:Addr}{g:Nat}(R:Rep H0 ρ hp s)(f:ρ[g]?=some (G,G))(D:hp[g]?=some .ghost)(k:∀b ob,s.heap.get? b=some ob->b∉Ls->b≠G->s'.heap.get? b=some ob)(E:AllBare s'.gens)(B:∀b∈Ls,H0.objs.size<=b/\b∉foot ρ)(H:∀b∈Ls,∀o,s.heap.get? b=some o->cC o)(w:∃x y,IsPair s'.heap G x y),Rep H0 ρ hp s'/\∀v y,VR s.heap ρ v y->VR s'.heap ρ v y:=by
 exists bK,Ls,ρ,hp,s,s',G,g;intro R f D k E B H w;have j:G∈foot ρ:=(kL (yT f)).1;have I:∀v y,VR s.heap ρ v y->VR s'.heap ρ v y:=λv y r=>r.mono (λa l t J=>⟨t.keep λo e c u=>dk u λys n d=>k a o e (λq=>H a q o e c ys n d) (λq=>J (q▸j)),J⟩) λ_ _ e=>e;refine⟨⟨λb ob e h=>k b ob (R.old b ob e h) (λq=>absurd (yB e) (vJ.mpr (B b q).1)) (λq=>by subst q;rw[(R.above _ j).1]at e;cases e),?_,E,R.len,λi p ob z C=>?_,R.apart,R.above,R.lo⟩,I⟩
 ·exact R.tab.but λb A ob e=>k b ob e (λq=>absurd (zR (io A) R.lo.big) (vJ.mpr (B b q).1)) λq=>pH R.lo A (q▸R.above G j)
 ·by_cases K:i=g
  ·subst K;rw[f]at z;rw[D]at C;cases z;cases C;exact⟨rfl,w⟩
  ·exact(R.obj i p ob z C).mono (λb A o e=>k b o e (λq=>(B b q).2 (ya.mpr ⟨p,yT z,A⟩)) λq=>gA R.apart K z f b A (by rw[q];simp[feet])) I
theorem Step.throughP:∀{Ls:List Addr}{P:Addr->Prop}{ρ c d:Rho}{s a s₂:Shared}(x:Step Ls ρ c s a)(u:∀b,P b->s.heap.get? b=none)(ext:∃h,d=c++h/\∀b∈foot h,a.heap.get? b=none)(alive:∀b o,¬P b->a.heap.get? b=some o->∃o',s₂.heap.get? b=some o')(keep:∀b o,¬P b->a.heap.get? b=some o->b∉foot c->b∉Ls->b∉aO->s₂.heap.get? b=some o)(v:s₂.os=a.os),Step Ls ρ d s s₂:=by
 exists bZ,Ls,P,ρ,c,d,s,a,s₂;intros;obtain⟨⟨h,rfl,g⟩,l,k,i⟩:=x;obtain⟨w,rfl,j⟩:=ext;have ne:∀b o,s.heap.get? b=some o->¬P b:=λb o e q=>by rw[u b q]at e;cases e
 refine⟨⟨h++w,by simp,λb f=>?_⟩,λb o e=>let⟨y,z⟩:=l b o e;alive b y (ne b o e) z,λb o e p r t=>?_,v.trans i⟩
 ·rw[aj]at f;rcases zb.mp f with f|f
  ·exact g b f
  ·exact gi (l b) (j b f)
 ·refine keep b o (ne b o e) (k b o e p r t) (λf=>?_) r t;rw[aj]at f;rcases zb.mp f with f|f
  ·exact p f
  ·have:=g b f;rw[e]at this;cases this
theorem Du{s:Shared}{loc:List (Str×V)}{x y:Str}{p1 p2:Pos}{u v:V}{p q:Value}(T:Top H0)(i:A.handled=none)(b:aN env sc)(j:ap sc x=true)(k:ap sc y=true)
 (R:Rep H0 ρ hp s) (l:ah H0 s.heap ρ env.locals loc) (o:IsTup s.heap t #[p,q]) (r:VR s.heap ρ u p) (z:VR s.heap ρ v q) {Q:Unit->Shared->Prop}{E:Value->Shared->Prop}
 (h:∀s',Step [env.locals] ρ ρ s s'->Rep H0 ρ hp s'->ah H0 s'.heap ρ env.locals (put (put loc x u) y v)->Q () s'):
 wpAny (model pw w) A (assign (.Tuple [.Name x p1,.Name y p2] kk tp) env (.ref t)) Q E s:=by
 refine zQ (E:=noE) (Q:=Q) ?_ (λ_ _ h=>h) (λ_ _ e=>yp e);rw[arm_assign_Tuple];refine zA (jX ?_);unfold unpack;refine zA (yJ (unpackItems_tuple (items:=#[p,q]) i o λB C=>?_));obtain⟨d,a⟩:=R.grow (s':={s with heap:=B}) (λc ob e=>C c ob (λq=>absurd (yB e) (by rw[q];exact yu _)) e) R.gens rfl;have f:=l.step a R T.size;refine uS (ju ?_);refine eZ T b j d f (a.nilVal R r) λs2 g D l2=>?_;refine uS (ju ?_);refine eZ T b k D l2 (g.val d f.noSeq (a.nilVal R z)) λs3 G H I=>?_;exact wpAny_assignInOrder_none (h s3 (a.wide.trans (g.trans G)) H I)
end
section
variable {F:Fs}{n m:Nat}{sc:Scope}
theorem wQ(a:IsZip h z TI TO f0){o:Obj}(e:h.get? z=some o):cC o:=by
 rw[a]at e;refine(zE e)▸?_;exactλq=>absurd q (by simp)
theorem BP{h:Heap}{I a:Addr}{i:Nat}(b:h.IsListIter I a i){o:Obj}(e:h.get? I=some o):cC o:=by
 refine cu b λo' c _ d=>?_;rw[c]at e;refine(zE e)▸?_;exactλ_ ys n q=>by replace q:=d.symm.trans q;cases q
noncomputable abbrev PI(H0:Heap)(F:Fs)(x y:Str)(d:List S)(z TI TO I L a:Addr)(k g:Nat)(all:List V)(ρ0 b:Rho)(s0:Shared)(r:R)(c:St)(len:Nat)(s:Shared):Prop:=
 ∃l ρ st i,len=l.length/\Step [L] ρ0 ρ s0 s/\Rep H0 ρ st.hp s/\ah H0 s.heap ρ L st.loc/\(∃e,ρ=b++e)/\z∉foot ρ/\I∉foot ρ/\TI∉foot ρ/\
  IsZip s.heap z TI TO .none/\IsPair s.heap TI (.ref I) (.ref I)/\l=all.drop i/\s.heap.IsListIter I a i/\dC (λu v s=>exs F d ((s.set x u).set y v)) k g all l st=some (r,c)
open Classical in
theorem sm:∀{A:Around}{env:Env}{x y:Str}{px py tp:Pos}{kk:Nat}{b:List Stmt}{U:List S}{z TI TO I:Addr}{k g:Nat}{p:Addr×Addr}{all:List V}{s0:Shared}{ρ0 a:Rho}{r:R}{B:St}{l:List V}{s1:Shared}{st1:St}{i:Nat}{E':Value->Shared->Prop}(T:Top H0)(rm:bt A n m)(eo:aN env sc)(hx:ap sc x=true)(hy:ap sc y=true)(d:SSs H0 w F n m sc b U)(D:Zap z TI TO I p.1)(hk:a[k]?=some p)(hg:a[g]?=some (TO,TO))(n0:∀c,c=z\/c=TO\/c=I->s0.heap.get? c=none)(zz:H0.objs.size<=z)(zI:H0.objs.size<=I)(zT:H0.objs.size<=TI)(K:z≠env.locals)(L:I≠env.locals)(hLT:TI≠env.locals)(x1:Step [env.locals] ρ0 a s0 s1)(R1:Rep H0 a st1.hp s1)(l1:ah H0 s1.heap a env.locals st1.loc)(fz:z∉foot a)(fI:I∉foot a)(fT:TI∉foot a)(Z1:IsZip s1.heap z TI TO .none)(Z2:IsPair s1.heap TI (.ref I) (.ref I))(W:l=all.drop i)(hit:s1.heap.IsListIter I p.1 i)(t:dC (λu v s=>exs F U ((s.set x u).set y v)) k g all l st1=some (r,B)),
 codeAny (model pw w) A (.forLoop (.Tuple [.Name x px,.Name y py] kk tp) (.ref z) b [] env) (λq s'=>match q with|.ok f=>dK H0 env.locals ρ0 r B s0 f s'|.error e=>E' e s') s1:=by
 revert F n m sc;exists ck,F,n,m,sc,A,env,x,y,px,py,tp;exists ck,kk,b,U,z,TI,TO,I,k,g,p,all;exists ce10_,s0,ρ0,a,r,B,l,s1,st1,i,E';intros;refine codeAny_forLoop_any (I:=PI H0 F x y U z TI TO I env.locals p.1 k g all ρ0 a s0 r B) ?_ l.length
  ⟨l,a,st1,i,rfl,x1,R1,l1,⟨[],by simp⟩,fz,fI,fT,Z1,Z2,W,hit,t⟩
 rintro len s ⟨l,ρ,st,i,rfl,xs,R,lr,⟨δ,rfl⟩,fz,fI,fT,Z1,Z2,W,hit,t⟩;have hk':(a++δ)[k]?=some p:=by rw[zU (zh.mp hk).1,hk]
 have M:(a++δ)[g]?=some (TO,TO):=by rw[zU (zh.mp hg).1,hg]
 have noS:∀b∈[z,I],∀o,s.heap.get? b=some o->cC o:=by
  intro b d o e;simp only[zM,yM,or_false]at d;rcases d with rfl|rfl
  ·exact wQ Z1 e
  ·exact BP hit e
 have H:∀b∈[z,I],H0.objs.size<=b/\b∉foot (a++δ):=by
  intro b d;simp only[zM,yM,or_false]at d;rcases d with rfl|rfl
  ·exact⟨zz,fz⟩
  ·exact⟨zI,fI⟩
 have hLn:env.locals∉[z,I]:=by
  simp only[zM,yM,or_false];rintro(q|q)
  ·exact K q.symm
  ·exact L q.symm
 have C:st.hp[k]?=some (.list all)/\st.hp[g]?=some .ghost:=by
  cases l with
  | nil=>exact ai (show(if _ then _ else none)=_ from t) λq _=>q
  | cons u l=>cases l with
   | nil=>exact no t
   | cons v l=>exact ai (show(if _ then _ else none)=_ from t) λq _=>q
 obtain⟨_,ys,⟨nn,N⟩,al⟩:=R.obj k p _ hk' C.1;obtain⟨_,px',py',hTO⟩:=R.obj g _ _ M C.2;have hli:s.heap.IsList p.1 ys.toArray:=⟨_,N,rfl,_,rfl⟩;have Z:Zp s.heap z TI TO I p.1 i ys.toArray .none:=⟨Z1,Z2,⟨_,_,hTO⟩,hit,hli⟩;cases l with
 | nil=>
  have hn:ys.toArray[i]?=none:=by
   have:=jq.mp W.symm;simp only[List.getElem?_toArray];rw[yr];rw[<-al.length];exact this
  replace t:=(if_pos C).symm.trans t
  refine aA (yz (zE t)) λq0_ q1_=>?_;subst q0_;subst q1_;refine Cj rm.handled D Z hn λh' kp=>?_;refine aA (R.but2 (Ls:=[z,I]) (s':={s with heap:=h'}) (λb ob e d=>kp b ob (λq=>d (by simp[q])) (λq=>d (by simp[q])) e) R.gens H noS) λR2 vm=>?_;refine wpAny_execs_nil ⟨_,xs.throughP (P:=λc=>c=z\/c=TO\/c=I) (s₂:={s with heap:=h'}) n0 ⟨[],by simp,by simp[foot]⟩ (λb o d e=>⟨o,kp b o (λq=>d (.inl q)) (λq=>d (.inr (.inr q))) e⟩) (λb o d e _ _ _=>kp b o (λq=>d (.inl q)) (λq=>d (.inr (.inr q))) e) rfl,R2,?_,.next⟩;exact lr.but2 (s':={s with heap:=h'}) (λb ob e d=>kp b ob (λq=>d (by simp[q])) (λq=>d (by simp[q])) e) hLn vm
 | cons u l=>cases l with
  | nil=>exact no t
  | cons v l=>
   have hu:all[i]?=some u:=by
    have J:(all.drop i)[0]?=some u:=by rw[<-W];rfl
    rw[uI]at J;simpa using J
   have hv:all[i+1]?=some v:=by
    have J:(all.drop i)[1]?=some v:=by rw[<-W];rfl
    rw[uI]at J;simpa using J
   have hl2:l=all.drop (i+2):=by
    have J:(all.drop i).drop 2=l:=by rw[<-W];rfl
    rw[uV]at J;exact J.symm
   refine el12 (al.get hu) λX hX rX=>?_;refine el12 (al.get hv) λY hY rY=>?_
   replace t:=(if_pos C).symm.trans t
   refine bP t λq O e1 t=>?_;refine vZ D Z (x:=X) (y:=Y) (by simpa using hX) (by simpa using hY) λh' Z' hT sz kp=>?_;have hnT:s.heap.objs.size≠z:=λq=>absurd (yB Z1) (by rw[<-q];exact yu _);refine wpAny_letOwnedTupleGo_zip Z'.z λE Z2' sb=>?_;have G:∀c o,c≠z->c≠TO->c≠I->s.heap.get? c=some o->E.get? c=some o:=λc o c1 c2 c3 e=>sb.extBut _ _ c1 (kp c o c1 c2 c3 e);refine dk Z'.to λpa pb hTO'=>?_;have hTO2:IsPair E TO pa pb:=sb.extBut _ _ D.TOz hTO';refine aA (R.ghost (Ls:=[z,I]) (s':={s with heap:=E}) M C.2 (λb ob e d hb'=>G b ob (λq=>d (by simp[q])) hb' (λq=>d (by simp[q])) e) R.gens H noS ⟨_,_,hTO2⟩) λR2 vm=>?_;have hTOL:env.locals≠TO:=λq=>lr.2.1 (by rw[q];exact(kL (yT M)).1);have l2:ah H0 E (a++δ) env.locals st.loc:=lr.but2 (Ls:=[z,I,TO]) (s':={s with heap:=E}) (λb ob e d=>G b ob (λq=>d (by simp[q])) (λq=>d (by simp[q])) (λq=>d (by simp[q])) e) (by
    simp only[zM,yM,or_false];rintro(q|q|q)
    ·exact K q.symm
    ·exact L q.symm
    ·exact hTOL q) vm
   have x2:Step [env.locals] ρ0 (a++δ) s0 {s with heap:=E}:=xs.throughP (P:=λc=>c=z\/c=TO\/c=I) n0 ⟨[],by simp,by simp[foot]⟩ (λb o d e=>⟨o,G b o (λq=>d (.inl q)) (λq=>d (.inr (.inl q))) (λq=>d (.inr (.inr q))) e⟩) (λb o d e _ _ _=>G b o (λq=>d (.inl q)) (λq=>d (.inr (.inl q))) (λq=>d (.inr (.inr q))) e) rfl;have hT2:IsTup E s.heap.objs.size #[X,Y]:=⟨_,sb.extBut _ _ hnT hT,rfl,_,rfl⟩;have it2:E.IsListIter I p.1 (i+2):=Z'.it.extBut sb.extBut D.Iz;have ti2:IsPair E TI (.ref I) (.ref I):=sb.extBut _ _ D.TIz Z'.ti;refine Du (s:={s with heap:=E}) T rm.handled eo hx hy R2 l2 hT2 (vm _ _ rX) (vm _ _ rY) λs3 x3 R3 l3=>?_;have off:∀{c},H0.objs.size<=c->c∉aO:=λh=>cK T.size h;have nL:∀{c},c≠env.locals->c∉[env.locals]:=λh q=>h (zG.mp q);refine zQ (d A env s3 _ ((st.set x u).set y v) q O rm eo R3 l3 e1) (λf s4 q4=>?_) λ_ _ e=>yp e;refine lB q4 λQ x4 R4 l4 fr=>?_;have j:=x3.trans x4;have go:(dC (λu v s=>exs F U ((s.set x u).set y v)) k g all l O=some (r,B))->∃len,len<(u::v::l).length/\PI H0 F x y U z TI TO I env.locals p.1 k g all ρ0 a s0 r B len s4:=λt=>by
    refine⟨l.length,by simp only[zL];exact yq _,l,Q,O,i+2,rfl,x2.trans j,R4,l4,?_,j.notFoot fz Z2',?_,j.notFoot fT ti2,j.keep z _ Z2' fz (nL K) (off zz),j.keep TI _ ti2 fT (nL hLT) (off zT),hl2,?_,t⟩
    ·obtain⟨⟨ε,rfl,_⟩,_⟩:=j;exact⟨δ++ε,by simp⟩
    ·obtain⟨o,e,_⟩:=it2;exact j.notFoot fI e
    ·refine el12 it2 λo e r=>?_;exact⟨o,j.keep I _ e fI (nL L) (off zI),r⟩
   cases fr with
   | next=>exact go t
   | cont=>exact go t
   | brk=>obtain⟨rfl,rfl⟩:=yz (zE t);exact⟨Q,x2.trans j,R4,l4,.next⟩
   | ret rv=>obtain⟨rfl,rfl⟩:=yz (zE t);exact⟨Q,x2.trans j,R4,l4,.ret rv⟩
theorem AV:∀(T:Top H0),kG H0 w F n:=by
 revert F n;exists ce2_,F,n;intro T;exists b5,sc,x,y,zn,it,l,xl,b,xb,k,k2,p1;exists ck,p2,p3,p4,p5,p6,p7,p8,p9,p10,p11,pos;intro B J S h2;exact(λA env s ρ st r st' rm eo R lo K=>by
 obtain⟨B,e6⟩:=bN B;refine aA (bN B) λB e5=>?_;refine aA (bN B) λB e4=>?_;refine aA (bN B) λB e3=>?_;refine aA (bN B) λe1 e2=>?_;have e5:=beq_iff_eq.mp e5;have e6:=beq_iff_eq.mp e6;refine bP K λv st1 ev1 K=>?_;refine bE (show(du v).bind _=_ from K) λU _ S=>bE S λvs _ hpt=>?_;clear K S;obtain⟨U,rfl⟩:=U;obtain⟨vs,V⟩:=vs;have K:=hpt;dsimp only at V K;refine wO T.glob λmg hn _ _ _ _ _ h0=>?_;obtain⟨mb,W,_,_,_,_,_,_,_,mz,mi,_⟩:=id T.blt;have hz0:mg zn=none:=by rw[e5];exact h0 _ (by decide)
 have hi0:mg it=none:=by rw[e6];exact h0 _ (by decide)
 have hzb:mb zn=some (.type "zip"):=by rw[e5];exact mz
 have hib:mb it=some (.builtin "iter"):=by rw[e6];exact mi
 refine wpAny_For ?_ (λ_=>rfl);refine jf (fE eo e3 R hn hz0 W hzb ?_);refine ks_call rfl (P:=λ_=>True) (λh _=>(av .machine (.inr (.inl rfl)) (ul rfl))) (ks_lone ?_);refine wpAny_BinOp (wpAny_List_spliced (wpAny_items_cons (jf (fE eo e4 R hn hi0 W hib (uE (iz (by simp[J])) (iZ (by simp[J]) rfl (SEs.cons T J S SEs.nil:SEs H0 w F n 0 sc [l] [xl]) rm eo R lo (by simp only[evs,ev1,zp,jO]:evs F [xl] st=some ([.ref U],st1)) λys s1 X x1 L al l1 el1=>?_)))) (cG rfl)));obtain⟨y0,ys',rfl,r1,al⟩:=al.cons_inv;cases al.nil_inv;refine el12 r1 λp q1_ M=>?_;subst q1_;obtain⟨_,xs,⟨nn,C⟩,ax⟩:=L.obj U p _ M V;have hli:s1.heap.IsList p.1 xs.toArray:=⟨_,C,rfl,_,rfl⟩;refine wn hli (wpAny_items_nil ⟨by show(1:Nat)<=sizeLine;decide,?_⟩);refine wpAny_Constant_int ?_;have Y:(s1.heap.push {cls:=.type "list_iterator",data:=.fields #[.ref p.1,.int 0 0]}).get? s1.heap.objs.size=some {cls:=.type "list_iterator",data:=.fields #[.ref p.1,.int 0 0]}:=zN _ rfl;generalize hA:s1.heap.push {cls:=.type "list_iterator",data:=.fields #[.ref p.1,.int 0 0]}=HA at Y;have kA:∀b o,s1.heap.get? b=some o->HA.get? b=some o:=λb o e=>hA▸(zJ _ e);have hLB:(HA.push {cls:=.type "list",data:=.seq #[.ref s1.heap.objs.size]}).get? HA.objs.size=some {cls:=.type "list",data:=.seq #[.ref s1.heap.objs.size]}:=zN _ rfl;refine twice hLB ?_;have E:((HA.push {cls:=.type "list",data:=.seq #[.ref s1.heap.objs.size]}).push {cls:=.type "list",data:=.seq #[.ref s1.heap.objs.size,.ref s1.heap.objs.size]}).get? (HA.push {cls:=.type "list",data:=.seq #[.ref s1.heap.objs.size]}).objs.size=some {cls:=.type "list",data:=.seq #[.ref s1.heap.objs.size,.ref s1.heap.objs.size]}:=zN _ rfl;have kC:∀b o,s1.heap.get? b=some o->((HA.push {cls:=.type "list",data:=.seq #[.ref s1.heap.objs.size]}).push {cls:=.type "list",data:=.seq #[.ref s1.heap.objs.size,.ref s1.heap.objs.size]}).get? b=some o:=λb o e=>zJ _ (zJ _ (kA b o e));have O:((HA.push {cls:=.type "list",data:=.seq #[.ref s1.heap.objs.size]}).push {cls:=.type "list",data:=.seq #[.ref s1.heap.objs.size,.ref s1.heap.objs.size]}).get? s1.heap.objs.size=some {cls:=.type "list_iterator",data:=.fields #[.ref p.1,.int 0 0]}:=zJ _ (zJ _ Y);dsimp only;generalize (HA.push {cls:=.type "list",data:=.seq #[.ref s1.heap.objs.size]}).objs.size=DC at E⊢;generalize (HA.push {cls:=.type "list",data:=.seq #[.ref s1.heap.objs.size]}).push {cls:=.type "list",data:=.seq #[.ref s1.heap.objs.size,.ref s1.heap.objs.size]}=HC at E kC O⊢;generalize hI:s1.heap.objs.size=I at*
 skip
 refine zA (uh (T:="list") (av _ E rfl) slot_list_iter.lookup (zD ⟨rfl,?_⟩));refine wpAny_collect_seq DC (.inl rfl) E rfl rfl (λj kh=>⟨trivial,?_⟩) (by refine(?_:(2:Nat)<=sizeLine);decide);have hit:j.IsListIter I p.1 0:=(cy _ (kh _ _ O) rfl rfl);refine wz (I:=I) (a:=p.1) (k:=0) hit ?_;have d:I<j.objs.size:=yB (kh _ _ O);have z1:(kU j I).objs.size=j.objs.size+1:=yW ..;have gz:(eM j I).get? (iS j I).objs.size=some _:=zN _ rfl;have Z:(eM j I).get? (kU j I).objs.size=some _:=zJ _ (zN _ rfl);have gTI:(eM j I).get? j.objs.size=some _:=zJ _ (zJ _ (zN _ rfl));have kz:∀b o,j.get? b=some o->(eM j I).get? b=some o:=λb o e=>zJ _ (zJ _ (zJ _ e));rw[z1,(by simp only[yW,z1]:(iS j I).objs.size=j.objs.size+2)]at gz;rw[z1]at Z;have k1z:∀b o,s1.heap.get? b=some o->(eM j I).get? b=some o:=λb o e=>kz _ _ (kh _ _ (kC _ _ e));have H:∀{c:Nat},I<=c->s1.heap.get? c=none:=λh=>uu (by rw[hI];exact h);have u:H0.objs.size<=I:=hI▸L.low;have t:∀{c:Nat}{o},s1.heap.get? c=some o->c<I:=λe=>hI▸yB e;have fl:∀{c:Nat},c∈foot X->c<I:=λB=>by obtain⟨ob,e⟩:=L.footObj B;exact t e
 obtain⟨oL,eL⟩:=l1.alive;have Q:=t eL;have D:=t C;generalize hN:j.objs.size=N at*;generalize hZ:eM j I=HZ at*;obtain⟨R2,x2⟩:=L.ghosted (s':={s1 with heap:=HZ}) (G:=N+1) k1z L.gens rfl (H (fk1 d)) (zB u (fk1 d)) Z;have fn:∀{c:Nat},I<=c->c≠N+1->c∉foot (X++[(N+1,N+1)]):=λS h2 q=>by
  simp only[aj,iu]at q;rcases zb.mp q with q|q
  ·exact absurd (fl q) (Nat.not_lt_of_le S)
  ·exact h2 (zG.mp q)
 refine wpAny_pyIter_zip gz ?_;refine jm (sm (s1:={s1 with heap:=HZ,toks:=s1.toks+1}) (z:=N+2) (TI:=N) (TO:=N+1) (I:=I) (k:=U) (g:=st1.hp.length) (p:=p) (all:=vs) (i:=0) (st1:={loc:=st1.loc,hp:=st1.hp++[.ghost]}) (s0:=s) (ρ0:=ρ) T rm eo e1 e2 h2
  ⟨zd (yq _),zd (zq _),zd (zR d (zW ..)),zd (zq _),yF (d),yF (yL d),zd (fk2 D d),zd (fk2 D d),zd (D)⟩ ((zU (zh.mp M).1).trans M) (by rw[<-L.len];simp)
  (λc B=>gi (x1.alive c) (H (by rcases B with rfl|rfl|rfl<;>lia))) (zB u (by lia)) u (zB u (zg d)) (yF (fk2 Q d)) (yF (Q)) (yF (Nat.lt_trans Q d))
  ((x1.trans x2).trans (Step.toks _)).wide (R2.toks _) ?_ (fn (by lia) (yF (zq _))) (fn (zY _) (zd (yL d))) (fn (zg d) (zd (zq _))) gz gTI (by rfl) (by refine el12 hit λo e r=>?_;exact av o (kz _ _ e) r) K (E':=λ_ _=>False)) λq s' hq=>?_
 ·exact(l1.step x2 L T.size).step (s':={s1 with heap:=HZ,toks:=s1.toks+1}) (Step.toks _) R2 T.size
 ·cases q with
  | ok f=>exact hq
  | error e=>exact hq.elim)
end
theorem fq{x:Str}:∀{ps:List Str}{ys:List Value},ys.length=ps.length->x∈ps->((ps.zip ys).lookup x).isNone=false
 | _::_,[],h,_=>nomatch h
 | p::ps,y::ys,h,m=>by
  simp only[List.zip_cons_cons,zZ];cases e:x==p with
  | true=>rfl
  | false=>exact fq (Nat.succ.inj h) ((zM.mp m).resolve_left λq=>by rw[q,beq_self_eq_true]at e;cases e)
theorem AZ:∀{ps:List Str}{ys:List Value}{l:List (Str×Value)},ps.Nodup->ys.length=ps.length->(∀p∈ps,l.lookup p=(ps.zip ys).lookup p)->(ps.filterMap λn=>(l.lookup n).map (n,·))=ps.zip ys
 | [],ys,_,_,_,_=>rfl
 | p::ps,[],_,_,h,_=>nomatch h
 | p::ps,y::ys,l,nd,h,k=>by
  have a:=List.nodup_cons.mp nd;have k0:l.lookup p=some y:=(k p (zj)).trans (by simp only[List.zip_cons_cons,zZ,beq_self_eq_true]);have k1:=AZ a.2 (Nat.succ.inj h) (l:=l) λq b=>(k q (zy _ b)).trans (by
   have:(q==p)=false:=beq_eq_false_iff_ne.mpr λe=>a.1 (e▸b);simp only[List.zip_cons_cons,zZ,this])
  exact(List.filterMap_cons_some (f:=λn=>(l.lookup n).map (n,·)) (congrArg (Option.map _) k0)).trans (congrArg ((p,y)::·) k1)
theorem qE:∀{fd:FuncData}{as:List Arg}{dsE:List Expr}{ys:List Value}(hp:fd.params=⟨[],as,none,[],[],none,dsE⟩)(hd:fd.defaults=.none)(hl:ys.length=as.length)(nd:(as.map (·.arg)).Nodup),
 bindArgs fd ⟨ys,[]⟩=pure ((as.map (·.arg)).zip ys):=by
 exists ce4_,fd,as,dsE,ys;intros;cases fd;cases hp;cases hd;have hl:ys.length=(as.map (·.arg)).length:=hl.trans (zC ..).symm;have hm:∀k,((as.map (·.arg)).take k).filter (λn=>(((as.map (·.arg)).zip ys).lookup n).isNone)=[]:=λk=>List.filter_eq_nil_iff.mpr λx hx=>by
  rw[fq hl (ut hx)];exact nofun
 have e:=AZ nd hl λ_ _=>rfl;dsimp only[bindArgs];refine Eq.trans (if_neg ?_) ?_
 ·show ¬(decide (ys.length>(as.map (·.arg)).length)&&true)=true
  rw[hl];simp
 refine Eq.trans (if_neg ?_) ?_
 ·exact(congrArg (λl=>(!List.isEmpty l)=true) (hm _))▸nofun
 refine(congrArg (λl=>(forIn l _ _:Sem _)>>=_) ((congrArg (List.zip _) List.drop_nil).trans List.zip_nil_right)).trans ?_;exact congrArg (pure:_->Sem _) ((congrArg (List.filterMap _) (zo _)).trans e)
theorem lM:∀{s:Shared}{fd:FuncData}{b f:Arg}{j:List Expr}{T:Addr}{o:Obj}{d:Value}{n:Nat}(hp:fd.params=⟨[],[b,f],none,[],[],none,j⟩)(l:b.arg≠f.arg)(r:fd.defaults=.ref T)(p:s.heap.get? T=some o)(q:o.data=.seq #[d] n)(g h:Value),BindsTo s fd ⟨[g,h],[]⟩ [(b.arg,g),(f.arg,h)]/\BindsTo s fd ⟨[g],[]⟩ [(b.arg,g),(f.arg,d)]:=by
 exists cc,s,fd,b,f,j,T,o,d,n;intros;have k:(f.arg==b.arg)=false:=by rw[beq_eq_false_iff_ne];exactλe=>l e.symm
 cases fd;cases hp;cases r;have i:∀a:Str,(a==a)=true:=λa=>beq_self_eq_true a;refine⟨λM A E Q m=>?_,λM A E Q m=>?_⟩
 ·refine zA (zD (zA (yx p q (zr ?_ m))));refine(if_neg nofun).trans ((if_neg ?_).trans ?_)
  ·show ¬(!(List.filter (λn=>(yY n [(b.arg,g),(f.arg,h)]).isNone) [b.arg]).isEmpty)=true
   simp only[yY,i,List.filter];exact nofun
  refine(congrArg (λz=>((z:Sem _)>>=_)>>=_) (if_neg (c:=(yY f.arg [(b.arg,g),(f.arg,h)]).isNone=true) ?_)).trans ?_
  ·simp only[yY,k,i];exact nofun
  refine congrArg (pure:_->Sem _) (a₂:=[(b.arg,g),(f.arg,h)]) ?_;show List.filterMap (λn=>Option.map _ (yY n [(b.arg,g),(f.arg,h)])) [b.arg,f.arg]=_
  simp only[List.filterMap,yY,k,i];rfl
 ·refine zA (zD (zA (yx p q (zr ?_ m))));refine(if_neg nofun).trans ((if_neg ?_).trans ?_)
  ·show ¬(!(List.filter (λn=>(yY n [(b.arg,g)]).isNone) [b.arg]).isEmpty)=true
   simp only[yY,i,List.filter];exact nofun
  refine(congrArg (λz=>((z:Sem _)>>=_)>>=_) (if_pos (c:=(yY f.arg [(b.arg,g)]).isNone=true) ?_)).trans ?_
  ·simp only[yY,k,i];rfl
  refine congrArg (pure:_->Sem _) (a₂:=[(b.arg,g),(f.arg,d)]) ?_;show List.filterMap (λn=>Option.map _ (yY n [(b.arg,g),(f.arg,d)])) [b.arg,f.arg]=_
  simp only[List.filterMap,yY,k,i];rfl
section
variable {F:Fs}{n m:Nat}{sc:Scope}
theorem my{b:Type}{f:Nat}{v:b}:∀{l:List (Nat×b)},l.lookup f=some v->f∈l.map (·.1)
 | (a,u)::l,h=>by
  simp only[zZ]at h;cases e:(f==a)with
  | true=>exact zM.mpr (.inl (beq_iff_eq.mp e))
  | false=>rw[e]at h;exact zy _ (my h)
theorem CA{f:Nat}{fn:Fn}(h:tabNow f=some fn):f∈br:=by
 unfold tabNow aK at h;cases e:ve.lookup f with
 | some s=>exact my e
 | none=>replace h:=e▸h;exact no h
theorem kR:∀{x:Str}{y:Value},∀{l:List (Str×Value)},(l.map (·.1)).Nodup->(l.reverse.lookup x=some y↔l.lookup x=some y):=by
 exists ce2_,x,y;intro l c;have mem:∀{l:List (Str×Value)},(l.map (·.1)).Nodup->(l.lookup x=some y↔(x,y)∈l):=by
  intro l c
  induction l with
  | nil=>simp
  | cons a l d=>
   obtain⟨f,g⟩:=a;have b:=List.nodup_cons.mp c;simp only[zZ];cases h:(x==f)with
   | true=>
    have:=beq_iff_eq.mp h;subst this;dsimp only;constructor
    ·intro e;refine(zE e)▸?_;exact zj
    ·intro e;rcases zM.mp e with e|e
     ·cases e;rfl
     ·exact absurd (zv.mpr ⟨_,e,rfl⟩) b.1
   | false=>
    skip
    refine(d b.2).trans ?_;constructor
    ·exactλe=>zy _ e
    ·intro e;rcases zM.mp e with e|e
     ·cases e;simp at h
     ·exact e
 refine(mem (by rw[List.map_reverse];exact List.pairwise_reverse.mpr (c.imp λh=>Ne.symm h))).trans ?_;exact List.mem_reverse.trans ((mem c).symm)
theorem oB:∀{ps:List Str}{a:List V}{zs:List Value},Al (VR h ρ) a zs->a.length=ps.length->∀x v,(ps.zip a).lookup x=some v->∃y,(ps.zip zs).lookup x=some y/\VR h ρ v y
 | [],_,_,_,_,x,v,e=>by simp at e
 | p::ps,[],_,_,hl,x,v,e=>by simp at e
 | p::ps,u::a,_,al,hl,x,v,e=>by
  refine bY al.cons_inv λz zs b r c=>?_;subst b;rw[List.zip_cons_cons,zZ]at e⊢;cases d:(x==p)with
  | true=>rw[d]at e;obtain rfl:=zE e;exact av z rfl r
  | false=>rw[d]at e;exact oB c (by simpa using hl) x v e
set_option tactic.hygienic true in
theorem qY:∀{s:Shared}{ρ:Rho}{hp:List O}{fd:FuncData}{as:List Arg}{dsE:List Expr}{ds:List V}{vs:List V}{ys:List Value}{loc:List (Str×V)}(R:Rep H0 ρ hp s)(hp':fd.params=⟨[],as,none,[],[],none,dsE⟩)(nd:(as.map (·.arg)).Nodup)(hd:(dsE=[]/\fd.defaults=.none)\/∃a1 a2 T oT d n v,as=[a1,a2]/\a1.arg≠a2.arg/\fd.defaults=.ref T/\T∉aO/\H0.get? T=some oT/\oT.data=.seq #[d] n/\dA fc dsE=some [v]/\(∀h ρ,VR h ρ v d))(hds:dA fc dsE=some ds)(al:Al (VR s.heap ρ) vs ys)(hb:iU (as.map (·.arg)) vs ds=some loc),
 ∃us zs,BindsTo s fd ⟨ys,[]⟩ ((as.map (·.arg)).zip zs)/\Al (VR s.heap ρ) us zs/\us.length=(as.map (·.arg)).length/\loc=(as.map (·.arg)).zip us:=by
 exists ce10_,s,ρ,hp,fd,as,dsE,ds,vs,ys,loc;intro R hp' nd hd hds al hb;unfold iU at hb;dsimp only at hb;split at hb
 case isFalse=>contradiction
 rename_i hl;cases hb;rcases hd with ⟨rfl,hd⟩|⟨a1,a2,T,oT,d,n,v,rfl,hne,hd,hT,hoT,hdT,hv,hvr⟩
 ·dsimp only[dA]at hds;obtain rfl:=zE hds;simp only[List.drop_nil,zo]at hl⊢;exact mf vs ys (.of_eq (qE hp' hd (by refine al.length.symm.trans ?_;simpa using hl.2) nd)) al hl.2 rfl
 ·rw[hv]at hds;obtain rfl:=zE hds;obtain⟨hl1,hl2⟩:=hl;simp only[zV,ux,zL,yt,zF,yC]at hl1 hl2;have hT':=R.old _ _ hoT hT
  match vs,al with
  | [],al=>simp at hl2
  | [u],al=>
   refine bY al.cons_inv λy ys' q0_ r al'=>?_;subst q0_;cases al'.nil_inv;exact mf [u,v] [y,d] ((lM hp' hne hd hT' hdT y y).2) (.cons r (.cons (hvr _ _) .nil)) rfl rfl
  | [u1,u2],al=>
   refine bY al.cons_inv λy ys' q0_ r al'=>?_;subst q0_;refine bY al'.cons_inv λy2 ys'' q0_ r2 al''=>?_;subst q0_;cases al''.nil_inv;exact mf [u1,u2] [y,y2] ((lM hp' hne hd hT' hdT y y2).1) (.cons r (.cons r2 .nil)) rfl rfl
  | u1::u2::u3::r,al=>simp at hl1
noncomputable def xU(H0:Heap)(w:World)(n:Nat):Prop:=
 ∀(A:Around)(s:Shared)(ρ:Rho)(hp:List O)(f:Nat)(as:List V)(ys:List Value)(v:V)(a:List O),cj A n->Rep H0 ρ hp s->Al (VR s.heap ρ) as ys->gV f as hp=some (some (v,a))->
  codeAny (model pw w) A (.call (.ref (ae f)) ⟨ys,[]⟩) (λr s'=>∃y,r=.ok (.ret y)/\aC H0 ρ v a s y s') s
theorem DL:∀(fo:kn H0)(a:eA H0 w (run tabNow n) n K)(sp:xU H0 w (n+1)),SF H0 w (run tabNow (n+1)) (n+1):=by
 revert n;exists ce1_,n;intros;exists cc,A,s,ρ,hp,f,as,ys,v,X;intro t R al d;dsimp only[BI]at d;cases Y:gV f as hp with
 | some r=>
  replace d:=Y▸d
  dsimp only at d;subst d;exact sp A s ρ hp f as ys v X t R al Y
 | none=>
  replace d:=Y▸d
  dsimp only at d;refine bE d λfn G d=>?_;refine bE d λloc hb d=>?_;refine mP d λfl Z hx d=>?_;have hf:=CA G;refine bE (G:(qR (aK f)).bind _=_) λq _ G=>bE G λds hds G=>mE G λbd hbd e=>?_;obtain⟨z,dsE,body,sc,nm,q1,q2,q3,hst⟩:=q;subst e;obtain⟨⟨o,fd,cd,ho,hd,H,B,j,C,I,hcd,h,J,L⟩,hk,hco,M,D,N,O⟩:=fo f hf _ _ _ _ _ _ _ _ hst;refine kX (qY R H O L hds al hb) λus zs hB P l E=>?_;subst j;have ho':=R.old _ _ ho (lI f hf);have Q:s.heap.CodeRec fd.code fd.qualname:=by
   refine el43 hcd λc oc vs tq hc hoc r=>?_
   replace hc:=h.symm.trans hc;cases hc
   exact in43 _ oc vs tq h (R.old _ _ hoc J) r
  have S:s.heap.NoLimit:=by
   refine el12 a.T.lim λmm hn hv=>?_;exact av mm (R.ns hn (by decide)) hv
  obtain⟨frs,U⟩:=t.frames;obtain⟨gds,V⟩:=t.guards;refine codeAny_call_def (by have:=t.depth;unfold recursionLimit;exact fk1 this) ho' hd S Q B hB D (λx hx'=>?_) (λp hns kk=>?_) hco M hk
  ·have:x.1∈z.map (·.arg):=(List.of_mem_zip hx').1;refine el12 (zv.mp this) λar har e=>?_;exact e▸(N ar har)
  ·obtain⟨R1,x1⟩:=R.grow (s':={s with heap:=p,toks:=s.toks+((z.map (·.arg)).zip zs).length}) kk R.gens rfl;have lr:ah H0 p ρ s.heap.objs.size loc:=by
    refine⟨(R.low:H0.objs.size<=s.heap.objs.size),R.notFoot,_,hns,λx u e=>?_⟩;rw[E]at e;refine el12 (oB P l x u e) λy e1 r=>?_;refine av y ?_ (x1.nilVal R r);rw[kR (by rw[List.map_fst_zip (eqg (P.length.symm.trans l:zs.length=(z.map (·.arg)).length))];exact O)];exact e1
   have hSS:=(Bv a (AV a.T) 64).2 _ _ _ hbd;refine zQ (hSS (A.deeper (callEnv fd s.heap.objs.size (ae f))) (callEnv fd s.heap.objs.size (ae f)) _ ρ ⟨loc,hp⟩ fl Z ⟨t.handled,?_,?_,⟨_,by refine(?_:A.frames.map _=_);exact congrArg _ U⟩,⟨gds,V⟩⟩ ⟨hk,rfl,C,I⟩ R1 lr hx) (λg s2 h_=>lB h_ λi x2 W l2 fr=>?_) λ_ _ e=>e.elim
   ·have:=t.depth;refine(?_:A.depth+1+_<=_);exact fk1 this
   ·have:=t.units;refine(?_:A.units+3+_+_<=_);exact fk1 this
   ·have k:Step [] ρ i s s2:=x2.forget (s:=s) x1.alive fJ (λb o e _ _=>kk b o e) rfl;cases fr with
    | next=>cases d;exact⟨.none,rfl,i,k,W,.none⟩
    | brk=>cases d;exact⟨.none,rfl,i,k,W,.none⟩
    | cont=>cases d;exact⟨.none,rfl,i,k,W,.none⟩
    | ret rv=>cases d;exact⟨_,rfl,i,k,W,rv⟩
end
end Mine
namespace Mine
open PySem PySem.Calls PyProof.Rows PySem.W PySem.SeqAt PySem.MeetsSeq
noncomputable def ltP(p q:Int×Int):Bool:=decide (p.1<q.1\/(p.1=q.1/\p.2<q.2))
theorem n8:∀(l b:Addr)(p q:Int×Int)(m j u1 u2:Tok)(n L:Nat)(M o:Option Addr)(sl r:Array (Option Value)),
 Meets (Builtin.«tuple.__lt__» ⟨[.ref l,.ref b],[]⟩)
  (λ_ R s=>s.heap.get? l=some {cls:=.type "tuple",dict:=M,data:=.seq #[.int p.1 m,.int p.2 j] n,slots:=sl}/\s.heap.get? b=some {cls:=.type "tuple",dict:=o,data:=.seq #[.int q.1 u1,.int q.2 u2] L,slots:=r}/\
   R (.ok (.ret (.bool (ltP p q)))) s):=by
 exists ce14_,l,b,p,q,m,j,u1,u2,n,L,M,o,sl,r;exact(.of_wp λf w A R s h=>by
  obtain⟨hp,g,d,v,z⟩:=s;refine cE h λN O h=>?_;have S:=AutoSeq1.sub_tuple_tuple;have B:∀(a c:Int)(t u:Tok)(C:Around)(E:Value->Shared->Prop)(Q:Bool->Shared->Prop),Q (a==c) ⟨hp,g,d,v,z⟩->wpAny (model f w) C (eqBool (.int a t) (.int c u)) Q E ⟨hp,g,d,v,z⟩:=λa c t u C E Q I=>EqAt.int_int a t c u f w E Q I;have D:∀(a c:Int)(t u:Tok)(C:Around)(E:Value->Shared->Prop)(Q:Value->Shared->Prop),Q (.bool (decide (a<c))) ⟨hp,g,d,v,z⟩->wpAny (model f w) C (richCompare .Lt (.int a t) (.int c u)) Q E ⟨hp,g,d,v,z⟩:=λa c t u C E Q I=>
   richCompare_gives (op:=.Lt) (typeIs_int _ _ t) (typeIs_int _ _ u) F.slot_int_lt F.entry_int_lt (F.args_int_lt_2 _ _) (gives_int_lt _ _ t u) (λx=>nomatch x) I
  wp_walk using wpAny_loadPart' N,wpAny_loadPart' O,wpAny_forIn_list _ (λrest b s'=>b.1=none/\s'=⟨hp,g,d,v,z⟩/\(rest=[(zl p.1 m,zl q.1 u1),(.int p.2 j,.int q.2 u2)]\/(rest=[(zl p.2 j,zl q.2 u2)]/\p.1=q.1)\/(rest=[]/\p.1=q.1/\p.2=q.2))) _
  case turn=>
   rintro⟨y,x⟩ rest b s' ⟨k,rfl,i⟩;rcases i with i|⟨i,G⟩|⟨i,_⟩
   ·obtain⟨e,rfl⟩:=List.cons.inj i;cases e;refine zA (B _ _ _ _ _ _ _ ?_);cases H:(p.1==q.1)with
    | true=>
     wp_walk
     exact⟨rfl,rfl,.inr (.inl ⟨rfl,beq_iff_eq.mp H⟩)⟩
    | false=>
     wp_walk using D p.1 q.1 m u1
     have J:p.1≠q.1:=beq_eq_false_iff_ne.mp H;have:ltP p q=decide (p.1<q.1):=by unfold ltP;simp[J]
     rw[this]at h;exact av _ rfl h
   ·refine aA (List.cons.inj i) λe K=>?_;subst K;cases e;refine zA (B _ _ _ _ _ _ _ ?_);cases H:(p.2==q.2)with
    | true=>
     wp_walk
     exact⟨rfl,rfl,.inr (.inr ⟨rfl,G,beq_iff_eq.mp H⟩)⟩
    | false=>
     wp_walk using D p.2 q.2 j u2
     have:ltP p q=decide (p.2<q.2):=by unfold ltP;simp[G]
     rw[this]at h;exact av _ rfl h
   ·contradiction
  case fin=>
   rintro⟨T,U⟩ s' ⟨k,rfl,i⟩;simp only at k;subst k;rcases i with i|⟨i,G⟩|⟨i,G,P⟩
   ·contradiction
   ·contradiction
   ·wp_walk
    have:ltP p q=false:=by unfold ltP;simp[G,P]
    rw[this]at h;exact av _ rfl h
  all_goals exact⟨rfl,rfl,.inl (rfl:(#[zl p.1 m,zl p.2 j]:Array Value).toList.zip (#[zl q.1 u1,zl q.2 u2]:Array Value).toList=[(.int p.1 m,.int q.1 u1),(.int p.2 j,.int q.2 u2)])⟩)
noncomputable def TP(b:List Addr)(h:Heap)(p:Int×Int)(v:Value):Prop:=∃a c d n e sl,v=.ref a/\a∉b/\h.get? a=some {cls:=.type "tuple",dict:=e,data:=.seq #[.int p.1 c,.int p.2 d] n,slots:=sl}
theorem TP.keep{p:Int×Int}{v:Value}(x:TP ft h p v)(k:∀b o,h.get? b=some o->h'.get? b=some o):TP ft h' p v:=
 x.imp λ_=>.imp λ_=>.imp λ_=>.imp λ_=>.imp λ_=>.imp λ_=>.imp_right (.imp_right (k _ _))
noncomputable def h7(m q:Int×Int):Int×Int:=if q.1<m.1\/(q.1=m.1/\q.2<m.2)then q else m
section
variable {A:Around}{E:Value->Shared->Prop}{ft:List Addr}
theorem Af:∀{s:Shared}{p q:Int×Int}{v u:Value}{Q:Value->Shared->Prop}(g:A.units<cLine)(i:TP ft s.heap p v)(j:TP ft s.heap q u)(h:Q (.bool (ltP p q)) s),wpAny (model pw w) A (richCompare .Lt v u) Q E s:=by
 revert A E ft;exists cc,A,E,ft,s,p,q,v,u,Q;intros;obtain⟨a,k,l,n,m,sl,rfl,_,e⟩:=i;obtain⟨b,u1,u2,o,c,d,rfl,_,f⟩:=j;exact richCompare_meets_room (op:=.Lt) (av _ e rfl) (av _ f rfl) F.slot_tuple_lt F.entry_tuple_lt (F.args_tuple_lt_2 _ _) (n8 a b p q k l u1 u2 n o m c sl d)
  ⟨e,f,show Value.bool (ltP p q)≠Value.notImplemented/\Q (.bool (ltP p q)) s from⟨(λx=>nomatch x),h⟩⟩ g
theorem xJ:∀{hB:Heap}{R:Result->Shared->Prop}{I S ax:Addr}{xs:List Value}{l:List (Int×Int)}(hh:A.handled=none)(hu:A.units+1<cLine)(X:Al (λp v=>TP ft hB p v) l xs)(D:∃o n,hB.get? ax=some o/\o.cls=.type "list"/\o.data=.seq xs.toArray n)(Q:hB.get? I=none)(T:hB.get? S=none)(k:I≠S),
 ∀(r:List (Int×Int))(j:Nat)(s:Shared)(t:Value)(i:Int×Int)(c:Nat),r=l.drop j->s.heap.IsListIter I ax j->TP ft hB i t->s.heap.get? S=some {cls:=.type "list",dict:=none,data:=.seq #[t,t] c,slots:=#[]}->
 (∀b o,hB.get? b=some o->s.heap.get? b=some o)->
 (∀v G tk,TP ft hB (r.foldl h7 i) v->(∀b o,hB.get? b=some o->G.get? b=some o)->R (.ok (.ret v)) {s with heap:=G,toks:=tk})->
 codeAny (model pw w) A (.builtin "min.loop" ⟨[.ref I,.none,.ref S],[]⟩) R s:=by
 revert A ft;exists cc,A,ft,hB,R,I,S,ax,xs,l;intro hh hu X D Q T k;have a:(toString "min"++toString ".loop":String)="min.loop":=by decide
 refine bY D λoa na B H J=>?_;have axI:ax≠I:=λq=>by simp only[q,Q]at B;exact no B
 have axS:ax≠S:=λq=>by simp only[q,T]at B;exact no B
 intro r
 induction r with
 | nil=>
  intro j s t i c U hit V d K W;refine codeAny_builtin F.entry_min_loop ?_;refine(jr uF _)▸?_
  skip
  refine zA (yx d rfl ?_);refine(?_:wpAny _ A.in1 (tryCatch (pyNext (.ref I)) _>>=_) _ _ s);have Y:s.heap.IsList ax xs.toArray:=⟨oa,K _ _ B,H,na,J⟩;have hn:xs.toArray[j]?=none:=by
   have:=jq.mp U.symm;refine List.getElem?_toArray.trans ?_;rw[yr];exact X.length▸this
  refine zA (wpAny_tryCatch (wpAny_pyNext_list_end hh hit Y hn λG L=>?_));have f:=L S _ k.symm d
  skip
  refine zA ?_;refine wpAny_updateSeq f rfl (zA (uC (zD ?_)));exact W t _ s.toks V λb o e=>(yR _ _ (λq=>by rw[<-q,T]at e;exact no e)).trans (L b o (λq=>by rw[q,Q]at e;exact no e) (K b o e))
 | cons q r ih=>
  intro j s t i c U hit V d K W;have hq:l[j]?=some q:=by
   have C:(l.drop j)[0]?=some q:=by rw[<-U];rfl
   replace C:=uI.symm.trans C
   simpa using C
  have M:r=l.drop (j+1):=by
   have C:(l.drop j).drop 1=r:=by rw[<-U];rfl
   rw[uV]at C;exact C.symm
  refine el12 (X.get hq) λv hv hP=>?_;refine codeAny_builtin F.entry_min_loop ?_;refine(jr uF _)▸?_
  skip
  refine zA (yx d rfl ?_);refine(?_:wpAny _ A.in1 (tryCatch (pyNext (.ref I)) _>>=_) _ _ s);refine zA (wpAny_tryCatch (wpAny_pyNext_list_item hit (⟨oa,K _ _ B,H,na,J⟩:s.heap.IsList ax xs.toArray) (x:=v) (by simpa using hv) λG u N=>?_));have f:=N.extBut S _ k.symm d;have m:∀b o,hB.get? b=some o->G.get? b=some o:=λb o e=>N.extBut b o (λq=>by rw[q,Q]at e;exact no e) (K b o e);refine(?_:wpAny _ A.in1 (tryCatch (holding [v,v] (richCompare .Lt v t>>=_)) _>>=_) _ _ _);refine zA (wpAny_tryCatch (yJ (zA (Af (p:=q) (q:=i) hu (hP.keep m) (V.keep m) ?_))));refine zA (yJ (wpAny_truthy_bool ?_));refine zA (uC (zD ?_));have O:h7 i q=if ltP q i=true then q else i:=by unfold h7 ltP;simp
  cases P:ltP q i with
  | true=>
   dsimp only[if_true];refine zA ?_;refine wpAny_updateSeq f rfl (zA (uC ?_));simp only[a];refine zD ⟨plainId_quiet uF _,ih (j+1) _ v q _ M ?_ hP (jI _ f rfl) (λb o e=>(yR _ _ (λq=>by rw[<-q,T]at e;exact no e)).trans (m b o e)) λZ y g z h=>?_⟩
   ·refine el12 u λo e r=>?_;exact av o ((yR _ _ k.symm).trans e) r
   ·exact W Z y g (by rw[uL,O,if_pos P];exact z) h
  | false=>
   simp only[yK,if_false];refine zA (uC ?_);simp only[a];refine zD ⟨plainId_quiet uF _,ih (j+1) _ t i c M u V f m λZ y g z h=>?_⟩;exact W Z y g (by rw[uL,O,if_neg (by refine P▸?_;decide)];exact z) h
theorem lx:∀{s:Shared}{ax:Addr}{xs:List Value}{p:Int×Int}{l:List (Int×Int)}{Q:Value->Shared->Prop}(U:A.handled=none)(V:A.units+4<cLine)(W:Al (λp v=>TP ft s.heap p v) (p::l) xs)(f:s.heap.IsList ax xs.toArray)(X:∀v g Y,TP ft s.heap (l.foldl h7 p) v->(∀b o,s.heap.get? b=some o->g.get? b=some o)->Q v {s with heap:=g,toks:=Y}),wpAny (model pw w) A (call (.builtin "min") [.ref ax]) Q E s:=by
 revert A E ft;exists cc,A,E,ft,s,ax,xs,p,l,Q;intros;have a:(toString "min"++toString ".loop":String)="min.loop":=by decide
 refine call_function_tree F.kind_min F.plain_min F.entry_min (F.args_min1 _) ?_;refine(?_:wpAny _ A.in1 (ur "min" ["key","default"] 0 ⟨[],[]⟩>>=_) _ _ s);refine zA (zr (show ur "min" ["key","default"] 0 ⟨[],[]⟩=pure [none,none]from rfl) ?_);refine zA (zD ?_);refine zA (vO f ?_);refine zA (jH ?_);refine a▸?_;refine bY W.cons_inv λv z B L C=>?_;subst B;obtain⟨M,N,i,O,j⟩:=id f;have P:(s.heap.push {cls:=.type "list_iterator",data:=.fields #[.ref ax,.int 0 0]}).objs.size=s.heap.objs.size+1:=yW ..;refine zD ⟨plainId_quiet uF _,?_⟩;have R:((s.heap.push {cls:=.type "list_iterator",data:=.fields #[.ref ax,.int 0 0]}).push {cls:=.type "list",data:=.seq #[]}).get? s.heap.objs.size=some {cls:=.type "list_iterator",data:=.fields #[.ref ax,.int 0 0]}:=zJ _ (zN _ rfl);have D:((s.heap.push {cls:=.type "list_iterator",data:=.fields #[.ref ax,.int 0 0]}).push {cls:=.type "list",data:=.seq #[]}).get? (s.heap.objs.size+1)=some {cls:=.type "list",data:=.seq #[]}:=by
  have:((s.heap.push {cls:=.type "list_iterator",data:=.fields #[.ref ax,.int 0 0]}).push {cls:=.type "list",data:=.seq #[]}).get? (s.heap.push {cls:=.type "list_iterator",data:=.fields #[.ref ax,.int 0 0]}).objs.size=some {cls:=.type "list",data:=.seq #[]}:=zN _ rfl;rw[P]at this;exact this
 have G:∀b o,s.heap.get? b=some o->((s.heap.push {cls:=.type "list_iterator",data:=.fields #[.ref ax,.int 0 0]}).push {cls:=.type "list",data:=.seq #[]}).get? b=some o:=λb o e=>zJ _ (zJ _ e);dsimp only;refine P▸?_;generalize ((s.heap.push {cls:=.type "list_iterator",data:=.fields #[.ref ax,.int 0 0]}).push {cls:=.type "list",data:=.seq #[]})=T at R D G⊢;refine codeAny_builtin F.entry_min_loop ?_;refine(jr uF _)▸?_
 skip
 refine zA (yx (s:={s with heap:=T}) D rfl ?_);refine(?_:wpAny _ A.in1 (tryCatch (pyNext (.ref s.heap.objs.size)) _>>=_) _ _ _);refine zA (wpAny_tryCatch (wpAny_pyNext_list_item (s:={s with heap:=T}) ((cy _ R rfl rfl)) ⟨M,G _ _ N,i,O,j⟩ (x:=v) (rfl) λg k m=>?_));have d:s.heap.objs.size≠s.heap.objs.size+1:=zd (zq _);have n:=m.extBut _ _ d.symm D;have y:∀{c},s.heap.objs.size<=c->s.heap.get? c=none:=λh=>uu h;have H:∀b o,s.heap.get? b=some o->g.get? b=some o:=λb o e=>m.extBut b o (λq=>by simp only[q,y (zY _)]at e;exact no e) (G b o e);refine(?_:wpAny _ A.in1 (updateSeq (s.heap.objs.size+1) (λ_=>#[v,v])>>=_) _ _ _);refine zA ?_;refine wpAny_updateSeq (s:={s with heap:=g}) n rfl ?_;simp only[a];refine zD ⟨plainId_quiet uF _,xJ (A:=A) (hB:=s.heap) (I:=s.heap.objs.size) (S:=s.heap.objs.size+1) (ax:=ax) U (fk1 V) (l:=p::l) (xs:=v::z) (.cons L C) (qW M O N i j) (y (zY _)) (y (yq _)) d l 1 _ v p _ rfl ?_ L (jI _ n rfl)
  (λb o e=>(yR _ _ (λq=>by simp only[<-q,y (yq _)]at e;exact no e)).trans (H b o e)) λZ J t K u=>?_⟩
 ·refine el12 k λo e r=>?_;exact av o ((yR _ _ d.symm).trans e) r
 ·exact X Z J t K u
theorem tp_of:∀{h:Heap}{ρ:Rho}{p:Int×Int}{v:Value}(r:VR h ρ (.tup [.int p.1,.int p.2]) v),TP (foot ρ) h p v:=by
 exists ce4_,h,ρ,p,v;intro r;refine cu r λ_ b t g=>?_;subst b;obtain⟨xs,⟨⟨cls,l,data,sl⟩,e,c,n,d⟩,a⟩:=t;obtain⟨x,i,rfl,j,a⟩:=a.cons_inv;obtain⟨y,f,rfl,k,a⟩:=a.cons_inv;cases a.nil_inv;cases j;cases k;simp only at c d;subst c d;exact⟨_,_,_,_,_,_,rfl,g,e⟩
theorem of_tp:∀{h:Heap}{ρ:Rho}{p:Int×Int}{v:Value}(x:TP (foot ρ) h p v),VR h ρ (.tup [.int p.1,.int p.2]) v:=by
 exists ce4_,h,ρ,p,v;intro x;obtain⟨a,b,c,n,f,sl,rfl,d,e⟩:=x;exact .tup (av [.int p.1 b,.int p.2 c] ⟨_,e,rfl,_,rfl⟩ (.cons (.int _ _) (.cons (.int _ _) .nil))) d
theorem qh:∀{vs:List V}{xs:List Value}{l:List (Int×Int)},gE vs=some l->Al (VR h ρ) vs xs->Al (λp v=>TP (foot ρ) h p v) l xs
 | [],_,_,e,al=>by obtain rfl:=zE e;rw[al.nil_inv];exact .nil
 | v::vs,_,_,e,al=>by
  refine bY al.cons_inv λx xs a r b=>?_;subst a;exact bE (e:(mK v).bind _=_) λc _ e=>bE e λp _ e=>mE e λf d q=>q▸.cons (tp_of (p:=p.1) (by simp only[c.2,p.2]at r;exact r)) (qh d b)
theorem FU{n m:Nat}{s:Shared}{ρ:Rho}{st:St}{x:Value}{a:V}{vs:List V}{l:List (Int×Int)}{p:Int×Int}{Q:Value->Shared->Prop}(d:bt A n m)(R:Rep H0 ρ st.hp s)(r:VR s.heap ρ a x)(g:items? st a=some vs)(h:gE vs=some l)(i:mD l=some p)
 (j:∀y s',aC H0 ρ (.tup [.int p.1,.int p.2]) st.hp s y s'->Q y s'):wpAny (model pw w) A (call (.builtin "min") [x]) Q noE s:=by
 refine pW (hK R (st:=st) rfl r g) λb xs C c k o=>?_;subst c;cases l with
 | nil=>contradiction
 | cons q l=>
  refine lx d.handled (by have:=d.units;unfold cLine;exact fk1 this) (qh h o) ⟨_,k,rfl,_,rfl⟩ λv t u e f=>?_;rw[((zE i):l.foldl h7 q=p)]at e;obtain⟨z,B⟩:=R.grow (s':={s with heap:=t,toks:=u}) f R.gens rfl;exact j _ _ (cy ρ B z (of_tp (e.keep f)))
end
end Mine
namespace Mine
open PySem PySem.Calls PyProof.Rows PySem.W PySem.SeqAt
section
variable {F:Fs}{n m:Nat}{sc:Scope}
theorem nV{s:Shared}{i:Nat}{ys:List Value}{v:V}(sf:SF H0 w F n)(b:cj A n)(R:Rep H0 ρ hp s)(c:Al (VR s.heap ρ) vs ys)(d:F i vs hp=some (v,hp'))
 {Q:Value->Shared->Prop} (k:∀y s1 a,Step [] ρ a s s1->Rep H0 a hp' s1->VR s1.heap a v y->Q y s1):wpAny (model pw w) A (call (.ref (ae i)) ys) Q noE s:=by
 refine uR (jm (sf A s ρ hp i vs ys _ hp' b R c d) λr s' ⟨y,e,a,f,g,h⟩=>?_);subst e;exact k y s' a f g h
theorem pV{i:Int}(h:aH i=true):i<2 ^ 63:=by
 obtain⟨_,b⟩:=cB.mp h;unfold bk at b;exact Int.lt_of_le_of_lt b (by decide)
theorem len_own(k:aL H0 K)(ak:mQ K)(sf:SF H0 w F n){s:Shared}{p:Addr×Addr}{i:Int}{Q:Value->Shared->Prop}(d:cj A.in1 n)(R:Rep H0 ρ hp s)(a:ρ[kk]?=some p)(e:hp[kk]?=some (.acc fs vs))
 (f:F 24 [.ref kk] hp=some (.int i,hp')) (g:0<=i) (h:aH i=true) (j:∀T s' b,Step [] ρ b s s'->Rep H0 b hp' s'->Q (.int i T) s'):wpAny (model pw w) A (call (.builtin "len") [.ref p.1]) Q noE s:=by
 refine dk (cq R a e) λu v o=>?_;refine Calls.call_function_entry kind_len plain_len entry_len (args_len1 _) ?_;unfold Builtin.«len»;refine zA (m:=oneArg "len" _) (zD ?_);refine zA (m:=callSpecial? (.ref p.1) (zf "__len__")) (special_fn (k.here R) o.inst ak.len (beq_iff_eq.mp (ak.fn 24 (by decide))) (nV sf d R (.cons (.ref a) .nil) f λy s1 c l q r=>?_));obtain⟨t,rfl⟩:=r;refine zA (yJ (zD ?_));refine zA (uC ?_);refine(?_:wpAny _ _ (if i<0 then _ else _) _ _ _);rw[if_neg (ua.mpr g)];show wpAny _ _ (if i>=2 ^ 63 then _ else _) _ _ _
 rw[if_neg (by have:=pV h;exact Int.not_le.mpr this)];exact zA (wpAny_mkInt (zD (av _ rfl (j _ {s1 with toks:=s1.toks+1} c (l.trans (Step.toks _)) (q.toks _)))))
theorem xv:∀{A:Around}{s:Shared}{ρ:Rho}{hp a:List O}{f:Nat}{p:Addr×Addr}{fs:List (Str×V)}{vs:List V}{i:Int}{Q:Bool->Shared->Prop}(k:aL H0 K)(ak:mQ K)(sf:SF H0 w F n)(b:cj A.in1.in1 n)(R:Rep H0 ρ hp s)(c:ρ[f]?=some p)(j:hp[f]?=some (.acc fs vs))(l:F 24 [.ref f] hp=some (.int i,a))(q:0<=i)(r:aH i=true)(u:∀s' d,Step [] ρ d s s'->Rep H0 d a s'->Q (i != 0) s'),wpAny (model pw w) A (truthy (.ref p.1)) Q noE s:=by
 revert F n;exists ce13_,F,n,A,s,ρ,hp,a,f,p,fs,vs,i,Q;intros;refine dk (cq R c j) λB C o=>?_;have X:=k.here R
 skip
 refine zA (m:=callSpecial? (.ref p.1) (zf "__bool__")) (zA (zA (o.inst.type.here ((jD X ak.bool).here (zD ?_)))));refine zA (zA (o.inst.type.here ((jD X ak.len).here ?_)))
 skip
 refine zA (wpAny_runValue (codeAny_builtin entry_len ?_));dsimp only[jr plain_len _];unfold Builtin.«len»;refine zA (m:=oneArg "len" _) (zD ?_);refine zA (m:=callSpecial? (.ref p.1) (zf "__len__")) (zQ (E:=noE) (special_fn X o.inst ak.len (beq_iff_eq.mp (ak.fn 24 (by decide))) (nV sf (⟨b.handled,by have:=b.depth;exact(this:A.depth+_<=_),by have:=b.units;refine(?_:A.units+1+_<=_);have D:A.in1.in1.units=A.units+1+1:=rfl;lia,b.frames,b.guards⟩:cj A.in1 n) R (.cons (.ref c) .nil) l λy s1 g v x z=>?_)) (λ_ _ h=>h) λ_ _ e=>e.elim);obtain⟨t,rfl⟩:=z;refine zA (yJ (zD ?_));refine zA (uC ?_);refine(?_:wpAny _ _ (if i<0 then _ else _) _ _ _);rw[if_neg (ua.mpr q)];show wpAny _ _ (if i>=2 ^ 63 then _ else _) _ _ _
 rw[if_neg (by have:=pV r;exact Int.not_le.mpr this)];exact zA (wpAny_mkInt (zD (zD (u {s1 with toks:=s1.toks+1} g (v.trans (Step.toks _)) (x.toks _)))))
theorem CS(k:aL H0 K)(ak:mQ K)(sf:SF H0 w F n){s:Shared}{p:Addr×Addr}{c:Str}{Q:Value->Shared->Prop}(d:cj A.in1.in1 n)(e:A.units+2<cLine)(R:Rep H0 ρ hp s)(a:ρ[kk]?=some p)(f:hp[kk]?=some (.acc fs vs))
 (g:F 25 [.ref kk] hp=some (.str c,hp')) (h:∀T s' b,Step [] ρ b s s'->Rep H0 b hp' s'->Q (.str c T) s'):wpAny (model pw w) A (call (.type "str") [.ref p.1]) Q noE s:=by
 refine dk (cq R a f) λr u o=>?_;refine kso_call (by exact(e:A.units+1+1<cLine)) (k.here R) o.inst ak.str (ak.fn 25 (by decide)) (nV sf d R (.cons (.ref a) .nil) g λy s1 i j l q=>?_);obtain⟨t,rfl⟩:=q
 ·exact h _ _ _ j l
theorem ac_of(k:aL H0 K)(ak:mQ K)(sf:SF H0 w F n):AC H0 w F n where
 item:=Cb k
 truth:=λA s ρ hp c m p j fs vs i Q a R b d e f g h=>xv k ak sf ⟨a.handled,by have:=a.depth;exact(zB this (zH ..):A.depth+_<=_),by have:=a.units;refine(?_:A.units+1+1+_<=_);exact fk1 this,a.frames,a.guards⟩ R b d e f g h
theorem bc_of(k:aL H0 K)(ak:mQ K)(sf:SF H0 w F n):BC H0 w F n where
 min:=λA s ρ st m x a vs l p Q b R r y z B j=>FU b R r y z B j
 len:=λA s ρ st o m x C fs vs i Q b R r q d D E j=>by
  refine el12 r λp f g=>?_;subst f
  skip
  refine mP d λu hp e d=>?_;cases d;exact len_own k ak sf ⟨b.handled,by have:=b.depth;exact zB this (zH ..),by have:=b.units;refine(?_:A.units+1+_<=_);exact fk1 this,b.frames,b.guards⟩ R g q e D E λT s' h t v=>j _ _ (cy h t v (.int _ _))
 str:=λA s ρ st o m x C fs vs c Q b R r q d j=>by
  refine el12 r λp f g=>?_;subst f
  skip
  refine mP d λu hp e d=>?_;cases d;exact CS k ak sf ⟨b.handled,by have:=b.depth;exact zB this (zH ..),by have:=b.units;refine(?_:A.units+1+1+_<=_);exact fk1 this,b.frames,b.guards⟩ (by have:=b.units;unfold cLine;exact fk1 this) R g q e λT s' h t v=>j _ _ (cy h t v (.str _ _))
end
end Mine
namespace Mine
open PySem PySem.Calls PyProof.Rows PySem.W PySem.SeqAt Builtin Builtin.ObjectAttr Builtin.Getset_descriptor
theorem Co:builtinKind "list.__new__"=some .builtinFn:=by decide +kernel
theorem Bf:splitId "list.__new__"=some ("list","__new__"):=by decide +kernel
theorem EN:Manifest.signature? "list.__new__"=some ⟨.any,"list","list",.cls,[⟨"args",.varPos,false⟩,⟨"kwargs",.varKw,false⟩]⟩:=by kernel_rfl
theorem AK(args:Args):(Code.builtin "list.__new__" args).quiet=true:=Code.quiet_builtin _ (by decide +kernel)
theorem x0(a:Value)(rest:List Value):Bind.checkArgs "list.__new__" ⟨.any,"list","list",.cls,[⟨"args",.varPos,false⟩,⟨"kwargs",.varKw,false⟩]⟩ ⟨a::rest,[]⟩=pure ():=by kernel_rfl
structure se (M:Model) (h:Heap) (C:Addr):Prop where
 obj:∃oc od cd sl,h.get? C=some ⟨oc,od,.cls cd,sl⟩/\cd.abstract=false/\cd.hasDel=false/\cd.mro.isEmpty=false
 made:Looks M h (Bind.madeBy (.ref C)) (some "list.__new__")
 base:Looks M h (Bind.staticBase (.ref C)) (.ref C)
 self:Looks M h (isSubtype (.ref C) (.ref C)) true
 lst:Looks M h (isSubtype (.ref C) (.type "list")) true
 call:Looks M h (specialOf (.ref C) "__call__") (some (.builtin "type.__call__"))
 typ:Looks M h (isInstance (.ref C) (.type "type")) true
set_option tactic.hygienic true in
theorem wk:∀{M:Model}{h:Heap}{C:Addr}(X:K.In h)(e:ru K C=true),se M h C:=by
 exists ce3_,M,h,C;intro X e;unfold ru at e;split at e
 ·rename_i oc od cd sl ho;simp only[za,Bool.not_eq_true',beq_iff_eq]at e;refine aA e λq0_ e8=>?_;refine aA q0_ λq0_ e7=>?_;refine aA q0_ λq0_ e6=>?_;refine aA q0_ λq0_ e5=>?_;refine aA q0_ λq0_ e4=>?_;refine aA q0_ λq0_ e3=>?_;refine aA q0_ λe1 e2=>?_;have hc:clsIn K C=some cd:=by unfold clsIn;rw[ho]
  have hm:Looks M h (mroOf (.ref C)) cd.mro:=(looks_clsIn X hc).andThen .now;obtain⟨c,l,hl⟩:∃c l,cd.mro=c::l:=by cases q:cd.mro with|nil=>replace e4:=q▸e4;cases e4|cons c l=>exact AU c l rfl
  have made:Looks M h (Bind.madeBy (.ref C)) (some "list.__new__"):=by
   intro A Q E s k q
   skip
   refine zA (hm A _ E s k ?_);rw[hl,yf];refine zA (zA (zA (zA (uW (k _ _ (X _ _ ho)) (zD ?_)))))
   skip
   exact Array.getElem?_toList▸e3.symm▸(zD (zD (zD q)))
  refine⟨(in44 oc od cd sl (X _ _ ho) e1 e2 e4),made,?_,looks_mroIn X ?_,looks_mroIn X ?_,looks_specialIn X e7,looks_instIn X e8⟩
  ·intro A Q E s k q
   skip
   refine zA (hm A _ E s k ?_);rw[hl,yf];exact zA (zA (zA (made A _ E s k (zD (zD (zD q))))))
  ·unfold mroIn;rw[hc,zp,if_neg (by rw[e4];decide),e5]
  ·unfold mroIn;rw[hc,zp,if_neg (by rw[e4];decide),e6]
 ·contradiction
noncomputable abbrev d1(C a:Addr):Obj:={cls:=.ref C,dict:=some a,data:=.seq #[]}
section
variable {prog:Program}{A:Around}{C:Addr}{R:Result->Shared->Prop}{h:Heap}{g:Array GenState}{d:Drawn}{t:Nat}{os:OsState}
theorem new_L:∀{rest:List Value}(Y:se (model prog w) h C)(e:R (.ok (.ret (.ref (h.objs.size+1)))) ⟨(h.push emptyDict).push (d1 C h.objs.size),g,d,t,os⟩),
 codeAny (model prog w) A (.call (.builtin "list.__new__") ⟨.ref C::rest,[]⟩) R ⟨h,g,d,t,os⟩:=by
 revert prog A C R h g d t os;exists ce10_,prog,A,C,R,h,g,d,t,os,rest;intros;obtain⟨⟨f,i,j,sl,c,u,l,v⟩,a,b,self,m,call,n⟩:=Y;refine codeAny_call_builtin_code (AK _) ?_;simp only[checkBuiltinCall,Co,Bf,EN];rw[x0];have here:Looks (model prog w) h (Bind.madeHere "list.__new__" (.ref C)) ():=b.andThen (a.andThen (ul (by rfl)));have o:Looks (model prog w) h (isType (.ref C)) true:=by
  intro A Q E s k q
  skip
  refine zA (uW (k _ _ c) (zD q))
 repeat (first|simp only[bne_self_eq_false,yK,if_false,Bool.not_true]|lk)
 refine codeAny_builtin_stack F.entry_list_new rfl λp st=>?_;refine(jr F.plain_list_new _)▸?_;simp only[(owner_list_new)];have r:((h.push {cls:=.type "dict",data:=.dict #[]}).push {cls:=.ref C,dict:=some h.objs.size,data:=.seq #[]}).get? C=some ⟨f,i,.cls j,sl⟩:=zJ _ (zJ _ c)
 repeat (first|simp only[bne_self_eq_false,yK,if_false,Bool.not_true,l]|lk)
 rw[yW];exact e
theorem rD:∀{rest:List Value}{c:Value}(Y:se (model prog w) h C)(m:Looks (model prog w) h (typeLookup (.ref C) "__init__") (some c))(n:∀self,Looks (model prog w) h (bindSpecial c self) (c,[self]))(p:codeAny (model prog w) (A.under (.builtin "type.__call__" ⟨.ref C::rest,[]⟩)) (.call c ⟨.ref (h.objs.size+1)::rest,[]⟩) (InitBack (h.objs.size+1) R) ⟨(h.push emptyDict).push (d1 C h.objs.size),g,d,t,os⟩),
 codeAny (model prog w) A (.call (.ref C) ⟨rest,[]⟩) R ⟨h,g,d,t,os⟩:=by
 revert prog A C R h g d t os;exists ck,prog,A,C,R,h,g,d,t,os,rest,c;intros;have q:=Y;obtain⟨⟨y,B,s,sl,i,D,E,u⟩,j,l,self,x,call,f⟩:=Y;refine codeAny_of_tree ?_
 skip
 refine nd_load i ?_;refine(?_:wpAny _ _ (callAny.viaDunder (.ref C) _) _ _ _)
 skip
 refine zA (call.at ?_);dsimp only;rw[tc_bind];refine zA (zD (zA (zD ?_)));refine zD (a:=Fin.again (.call (.builtin "type.__call__") ⟨.ref C::rest,[]⟩)) (And.intro rfl ?_);refine codeAny_call_builtin_at (Code.quiet_builtin _ (by decide +kernel)) entry_typeCall (check_slot tc_kind tc_split f (tc_args _ _ _) ?_);dsimp only[Builtin.«type.__call__»];have F:Looks (model prog w) h (mroOf (.ref C)) s.mro:=((Looks.ld (part:=none) i).andThen .now).andThen .now
 repeat (first|simp only[u,yK,if_false]|with_reducible refine uR ?_|lk)
 refine new_L q ?_;have k:∀b o,h.get? b=some o->((h.push emptyDict).push (d1 C h.objs.size)).get? b=some o:=λb o e=>zJ _ (zJ _ e);have G:Looks (model prog w) ((h.push emptyDict).push (d1 C h.objs.size)) (typeOf (.ref (h.objs.size+1))) (.ref C):=(Looks.ld (by heap_get:((h.push emptyDict).push (d1 C h.objs.size)).get? (h.objs.size+1)=some (d1 C h.objs.size))).andThen .now;have s1:=self.keeps k;have H:=m.keeps k;have I:=(n (.ref (h.objs.size+1))).keeps k;dsimp only[isInstance,callSpecial?,specialOf]
 repeat (first|with_reducible refine uR ?_|lk)
 refine jm p λr s' z=>?_;rcases r with e|(v|_|_|_)<;>first|exact z|exact z.elim|skip
 obtain⟨rfl,z⟩:=z;exact zD (zD z)
end
end Mine
namespace Mine
open PySem PySem.Calls PyProof.Rows PySem.W PySem.SeqAt
section
variable {F:Fs}{n m:Nat}{sc:Scope}
theorem Av(N:Nat):feet ((N+1:Nat),(N:Nat))=[N+1,N]:=by
 unfold feet;exact if_neg (by show ¬(N+1=N);exact yF (zq _))
theorem Rep.newTwo:∀{ρ:Rho}{hp:List O}{s s':Shared}{ob:O}(R:Rep H0 ρ hp s)(k:∀b o,s.heap.get? b=some o->s'.heap.get? b=some o)(g:AllBare s'.gens)(t:s'.os=s.os)(new:pA s'.heap (ρ++[(s.heap.objs.size+1,s.heap.objs.size)]) (s.heap.objs.size+1,s.heap.objs.size) ob),
 Rep H0 (ρ++[(s.heap.objs.size+1,s.heap.objs.size)]) (hp++[ob]) s'/\Step [] ρ (ρ++[(s.heap.objs.size+1,s.heap.objs.size)]) s s':=by
 exists ce5_,ρ,hp,s,s',ob;intros;have q:foot [(s.heap.objs.size+1,s.heap.objs.size)]=[s.heap.objs.size+1,s.heap.objs.size]:=by
  show feet _++[]=_
  rw[Av];rfl
 have l:∀b∈foot [(s.heap.objs.size+1,s.heap.objs.size)],s.heap.objs.size<=b:=λb c=>by
  rw[q]at c;simp only[zM,yM,or_false]at c;rcases c with rfl|rfl
  ·exact yq _
  ·exact zY _
 have st:Step [] ρ (ρ++[(s.heap.objs.size+1,s.heap.objs.size)]) s s':=⟨(av _ rfl (λb c=>uu (l b c))),λb o e=>⟨o,k b o e⟩,λb o e _ _ _=>k b o e,t⟩;have u:∀v y,VR s.heap ρ v y->VR s'.heap (ρ++[(s.heap.objs.size+1,s.heap.objs.size)]) v y:=λv y r=>st.val R (λb c=>by cases c) r;have old:∀b∈foot ρ,b<s.heap.objs.size:=λb c=>by refine eD (R.footObj c) λob e=>?_;exact yB e
 refine⟨⟨λb o e h=>k b o (R.old b o e h),R.tab.but λb _ o e=>k b o e,g,by simp[R.len],λi p o d f=>?_,?_,λb c=>?_,R.lo⟩,st⟩
 ·by_cases j:i<ρ.length
  ·replace d:=((zU j).symm).trans d
   rw[zU (R.len▸j)]at f;exact(R.obj i p o d f).mono (λb _ o e=>k b o e) u
  ·rw[yg (yU j)]at d;rw[yg (R.len▸(yU j)),<-R.len]at f;have:i-ρ.length=0:=by
    have:=(zh.mp d).1;simp at this;exact this
   rw[this]at d f;simp at d f
   subst d f;exact new
 ·simp only[aj];refine ye.mpr ⟨R.apart,?_,λa w b c=>?_⟩
  ·simp only[q];simp
  ·have x:=old a w;exact zd (zR x (l b c))
 ·rw[aj]at c;rcases zb.mp c with c|c
  ·exact R.above b c
  ·exact oK R.lo.big (zB R.low (l b c))
theorem kc{ys:List Value}(a:bt A n 0):cj (A.under (.builtin "type.__call__" ⟨.ref C::ys,[]⟩)) n:=by
 refine eD a.frames λb c=>?_;obtain⟨d,e⟩:=a.guards;refine⟨a.handled,?_,?_,⟨b,?_⟩,⟨d,?_⟩⟩
 ·have:=a.depth;refine(?_:A.depth+1+_<=_);exact fk1 this
 ·have:=a.units;refine(?_:A.units+1+_<=_);exact fk1 this
 ·exact c
 ·exact e
theorem pz{d:Addr}(a:h.get? d=some emptyDict):wo h ρ d []:=
 (cy (λ_=>none) (Heap.Ns1.of_empty (in34 _ (#[]) _ a rfl (λe b=>absurd b (by simp)) (λ_=>rfl))) (λn v e=>(nomatch e)) (λ_ _=>rfl))
theorem xA:∀{A:Around}{s:Shared}{ρ:Rho}{st i:St}{c:Nat}{vs:List V}{ys:List Value}{v:V}{Q:Value->Shared->Prop}(k:aL H0 K)(z:Ad K)(ak:mQ K)(sf:SF H0 w F n)(J:bt A n 0)(R:Rep H0 ρ st.hp s)(L:Al (VR s.heap ρ) vs ys)(a:newV F c vs st=some (v,i))(M:∀y s',aC H0 ρ v i.hp s y s'->i.loc=st.loc->Q y s'),wpAny (model pw w) A (call (.ref (ff c)) ys) Q noE s:=by
 revert F n;exists b5,F,n,A,s,ρ,st,i,c,vs,ys,v,Q;intros;obtain⟨h,g,d,t,N⟩:=s;have X:=k.here R;refine dl a (λB a=>?_) λ_ a=>ai a λB a=>?_
 ·subst B;refine bP (a:(cF F 10 _ _).bind _=_) λu st1 j a=>mE a λC _ e=>tH j λD E j=>?_;cases e;subst j;refine uR (make_core (makes_of X z.vf) (jD X z.vfI) (λself=>bind_fn X self (beq_iff_eq.mp (ak.fn 10 (by decide)))) (.inl rfl) ?_);have O:((h.push emptyDict).push (instObj cn h.objs.size)).get? h.objs.size=some emptyDict:=zJ _ (zN _ rfl);obtain⟨G,p⟩:=R.newTwo (s':=⟨(h.push emptyDict).push (instObj cn h.objs.size),g,d,t,N⟩) (ob:=.inst []) (λb o e=>zJ _ (zJ _ e)) R.gens rfl ⟨Nat.succ_ne_self _,⟨_,(by heap_get:((h.push emptyDict).push (instObj cn h.objs.size)).get? (h.objs.size+1)=some (instObj cn h.objs.size))⟩,pz O⟩;have f:(ρ++[(h.objs.size+1,h.objs.size)])[st.hp.length]?=some (h.objs.size+1,h.objs.size):=by rw[<-R.len];simp
  refine jm (sf _ _ _ _ 10 _ (.ref (h.objs.size+1)::ys) _ _ (kc J) G (.cons (.ref f) (L.mono λv y r=>p.nilVal R r)) E) λr s' ⟨y,H,l,q,I,x⟩=>?_;subst H;rw[show u=.none from C.1]at x;subst x;exact⟨rfl,M _ _ (cy l (p.trans q) I (.ref (q.ref _ _ f))) rfl⟩
 ·subst B;refine bP (a:(cF F 20 _ _).bind _=_) λu st1 j a=>mE a λC _ e=>tH j λD E j=>?_;cases e;subst j;refine uR (rD (wk X z.ac) (jD X z.acI) (λself=>bind_fn X self (beq_iff_eq.mp (ak.fn 20 (by decide)))) ?_);refine aA (R.newTwo (s':=⟨(h.push emptyDict).push (d1 aw h.objs.size),g,d,t,N⟩) (ob:=.acc [] []) (λb o e=>zJ _ (zJ _ e)) R.gens rfl ⟨Nat.succ_ne_self _,[],⟨_,_,(by heap_get:((h.push emptyDict).push (d1 aw h.objs.size)).get? (h.objs.size+1)=some (d1 aw h.objs.size))⟩,.nil,pz (zJ _ (zN _ rfl):((h.push emptyDict).push (d1 aw h.objs.size)).get? h.objs.size=some emptyDict)⟩) λG p=>?_;have f:(ρ++[(h.objs.size+1,h.objs.size)])[st.hp.length]?=some (h.objs.size+1,h.objs.size):=by rw[<-R.len];simp
  refine jm (sf _ _ _ _ 20 _ (.ref (h.objs.size+1)::ys) _ _ (kc J) G (.cons (.ref f) (L.mono λv y r=>p.nilVal R r)) E) λr s' ⟨y,H,l,q,I,x⟩=>?_;subst H;rw[show u=.none from C.1]at x;subst x;exact⟨rfl,M _ _ (cy l (p.trans q) I (.ref (q.ref _ _ f))) rfl⟩
end
namespace Fx
theorem slot_wget:Slot "wrapper_descriptor" "__get__" "wrapper_descriptor.__get__":=
 .of (owner:="wrapper_descriptor") (n:="__get__") (by rw[ui,jd];kernel_rfl) (by decide +kernel) (by decide +kernel) (by decide +kernel)
  (by first|exact .inl (by decide +kernel)|exact .inr (by decide +kernel)) (by rw[isSubtype_type];kernel_rfl)
theorem slot_mget:Slot "method_descriptor" "__get__" "method_descriptor.__get__":=
 .of (owner:="method_descriptor") (n:="__get__") (by rw[ui,jd];kernel_rfl) (by decide +kernel) (by decide +kernel) (by decide +kernel)
  (by first|exact .inl (by decide +kernel)|exact .inr (by decide +kernel)) (by rw[isSubtype_type];kernel_rfl)
theorem entry_wget:entryFor table "wrapper_descriptor.__get__"=some Builtin.«wrapper_descriptor.__get__»:=entryFor_of_tree (by kernel_rfl)
theorem entry_mget:entryFor table "method_descriptor.__get__"=some Builtin.«method_descriptor.__get__»:=entryFor_of_tree (by kernel_rfl)
theorem args_wget(a b c:Value):argsOk "wrapper_descriptor.__get__" ⟨[a,b,c],[]⟩:=by unfold argsOk;kernel_rfl
theorem args_mget(a b c:Value):argsOk "method_descriptor.__get__" ⟨[a,b,c],[]⟩:=by unfold argsOk;kernel_rfl
theorem type_init:typeOf (.builtin "list.__init__")=pure (.type "wrapper_descriptor"):=by show builtinType _=_;rw[vD];kernel_rfl
theorem type_len:typeOf (.builtin "list.__len__")=pure (.type "wrapper_descriptor"):=by show builtinType _=_;rw[vD];kernel_rfl
theorem type_pop:typeOf (.builtin "list.pop")=pure (.type "method_descriptor"):=by show builtinType _=_;rw[vD];kernel_rfl
theorem told_pop:Manifest.toldItsClass.contains "list.pop"=false:=by decide +kernel
end Fx
noncomputable abbrev cf(T id:String)(x:Addr):Obj:={cls:=.type T,dict:=none,data:=.fields #[.builtin id,.ref x],slots:=#[]}
section
variable {prog:Program}{A:Around}{E:Value->Shared->Prop}{h:Heap}{g:Array GenState}{d:Drawn}{t:Nat}{os:OsState}
theorem BJ{x:Addr}{P:Fin->Shared->Prop}(b:Looks (model prog w) h (isInstance (.ref x) (.type "list")) true)(c:P (.done (.ret (.ref h.objs.size))) ⟨h.push (cf "method-wrapper" "list.__init__" x),g,d,t,os⟩):
 wpAny (model prog w) A (Builtin.«wrapper_descriptor.__get__» ⟨[.builtin "list.__init__",.ref x,.ref C],[]⟩) P E ⟨h,g,d,t,os⟩:=by
 unfold Builtin.«wrapper_descriptor.__get__»;refine zA (zr (a:=(.builtin "list.__init__",some (.ref x),some (.ref C))) (by first|rfl|kernel_rfl) ?_)
 skip
 refine zA ?_
 skip
 refine zA (zr (a:=(zf "__init__",.type "list")) (by kernel_rfl) ?_);refine zA (Looks.at b ?_);refine zD ?_;exact zA (jH (zD c))
theorem DJ{x:Addr}{P:Fin->Shared->Prop}(b:Looks (model prog w) h (isInstance (.ref x) (.type "list")) true)(c:P (.done (.ret (.ref h.objs.size))) ⟨h.push (cf "method-wrapper" "list.__len__" x),g,d,t,os⟩):
 wpAny (model prog w) A (Builtin.«wrapper_descriptor.__get__» ⟨[.builtin "list.__len__",.ref x,.ref C],[]⟩) P E ⟨h,g,d,t,os⟩:=by
 unfold Builtin.«wrapper_descriptor.__get__»;refine zA (zr (a:=(.builtin "list.__len__",some (.ref x),some (.ref C))) (by first|rfl|kernel_rfl) ?_)
 skip
 refine zA ?_
 skip
 refine zA (zr (a:=(zf "__len__",.type "list")) (by kernel_rfl) ?_);refine zA (Looks.at b ?_);refine zD ?_;exact zA (jH (zD c))
theorem Ck{x:Addr}{P:Fin->Shared->Prop}(b:Looks (model prog w) h (isInstance (.ref x) (.type "list")) true)(c:P (.done (.ret (.ref h.objs.size))) ⟨h.push (cf "builtin_function_or_method" "list.pop" x),g,d,t,os⟩):
 wpAny (model prog w) A (Builtin.«method_descriptor.__get__» ⟨[.builtin "list.pop",.ref x,.ref C],[]⟩) P E ⟨h,g,d,t,os⟩:=by
 unfold Builtin.«method_descriptor.__get__»;refine zA (zr (a:=(.builtin "list.pop",some (.ref x),some (.ref C))) (by first|rfl|kernel_rfl) ?_);dsimp only;simp only[Fx.told_pop,yK,if_false];show wpAny _ _ ((_:Sem Unit)>>=λ_=>(newFields "builtin_function_or_method" [.builtin "list.pop",.ref x]>>=λv=>ret v)) _ _ _
 refine zA ?_
 skip
 refine zA (zr (a:=(zf "pop",.type "list")) (by kernel_rfl) ?_);refine zA (Looks.at b ?_);refine zD ?_;exact zA (jH (zD c))
theorem sD:∀{f D x C:Addr}{T id W a:String}{l₀ l:List Value}{name:Str}{m:Tok}{Q:Fin->Shared->Prop}(b:h.get? f=some {cls:=.type "super",dict:=none,data:=.fields #[.ref D,.ref x,.ref C],slots:=#[]})(i:Looks (model prog w) h (opaqueClassAbove (.ref C)) none)(n:Looks (model prog w) h (mroOf (.ref C)) l₀)(o:(l₀.dropWhile (· != .ref D)).drop 1=l)(X:K.In h)(p:alongIn K name l=some (some (.builtin id)))(q:typeOf (.builtin id)=pure (.type W))(sl:Slot W "__get__" a)(j:x≠C)(r:(name==("__class__":Str))=false)(c:∀{Q':Value->Shared->Prop}{E':Value->Shared->Prop},Q' (.ref h.objs.size) ⟨h.push (cf T id x),g,d,t,os⟩->wpAny (model prog w) A (call (.builtin a) [.builtin id,.ref x,.ref C]) Q' E' ⟨h,g,d,t,os⟩)(s:Q (.done (.ret (.ref h.objs.size))) ⟨h.push (cf T id x),g,d,t,os⟩),
 wpAny (model prog w) A (Builtin.«super.__getattribute__» ⟨[.ref f,.str name m],[]⟩) Q E ⟨h,g,d,t,os⟩:=by
 revert prog A E h g d t os;exists ck,prog,A,E,h,g,d,t,os,f,D,x;exists ce10_,C,T,id,W,a,l₀,l,name,m,Q;intros;have u:=sl.lookup;have k:(jV x==jV C)=false:=by simp[j]
 have e:({cls:=.type "super",dict:=none,data:=.fields #[.ref D,.ref x,.ref C],slots:=#[]}:Obj).data=.fields #[.ref D,.ref x,.ref C]:=rfl;have v:(#[.ref D,.ref x,.ref C]:Array Value)[0]?=some (.ref D):=rfl;have y:(#[.ref D,.ref x,.ref C]:Array Value)[1]?=some (.ref x):=rfl;have z:(#[.ref D,.ref x,.ref C]:Array Value)[2]?=some (.ref C):=rfl;dsimp only[Builtin.«super.__getattribute__»]
 repeat (first
  | (with_reducible refine yv b e v ?_)|(with_reducible refine yv b e y ?_)|(with_reducible refine yv b e z ?_)
  | (with_reducible refine ks_wpAny_notOpaque i ?_)
  | (with_reducible refine Looks.at n ?_;rw[o])
  | (refine ks_forIn_along X (λ_ _=>rfl) rfl ?_ p)
  | (with_reducible refine zr q ?_)
  | (with_reducible refine c ?_)
  | (with_reducible refine⟨_,rfl,?_⟩)
  | (simp only[r,k,vF,yK,if_false])
  | wp_step
  | dsimp only)
 all_goals exact s
end
section
variable {prog:Program}{A:Around}{E:Value->Shared->Prop}{h:Heap}{g:Array GenState}{d:Drawn}{t:Nat}{os:OsState}
theorem gU:∀{c D x C:Addr}{T id W a:String}{l₀ l:List Value}{name:Str}{pl:Sem Bool}{Q:Value×List Value->Shared->Prop}(e:h.get? c=some {cls:=.type "super",dict:=none,data:=.fields #[.ref D,.ref x,.ref C],slots:=#[]})(k:Looks (model prog w) h (opaqueClassAbove (.ref C)) none)(o:Looks (model prog w) h (mroOf (.ref C)) l₀)(p:(l₀.dropWhile (· != .ref D)).drop 1=l)(X:K.In h)(q:alongIn K name l=some (some (.builtin id)))(r:typeOf (.builtin id)=pure (.type W))(sl:Slot W "__get__" a)(m:x≠C)(s:(name==("__class__":Str))=false)(b:∀{u:Around}{j:Nat}{Q':Value->Shared->Prop}{E':Value->Shared->Prop},Q' (.ref h.objs.size) ⟨h.push (cf T id x),g,d,j,os⟩->wpAny (model prog w) u (call (.builtin a) [.builtin id,.ref x,.ref C]) Q' E' ⟨h,g,d,j,os⟩)(y:Q (.ref h.objs.size,[]) ⟨h.push (cf T id x),g,d,t+1,os⟩),
 wpAny (model prog w) A (getMethod (.ref c) name pl) Q E ⟨h,g,d,t,os⟩:=by
 revert prog A E h g d t os;exists ck,prog,A,E,h,g,d,t,os,c,D,x;exists ce10_,C,T,id,W,a,l₀,l,name,pl,Q;intros;have f:=F.ks_slot_super_ga.lookup;have i:=F.ks_canon_super_ga;have n:∀j,(⟨h,g,d,j,os⟩:Shared).TypeIs (.ref c) "super":=λ_=>⟨_,e,rfl⟩;unfold getMethod;refine zA (uh (n _) f ?_);show wpAny _ _ (if(Manifest.canonical "super.__getattribute__" != "object.__getattribute__")=true then _ else _) _ _ _
 rw[if_pos i];unfold getAttr getAttrBy;refine zA (zA (wpAny_mkText (yJ (zA (wpAny_typeOf (n _) (zA (zr f ?_)))))));show wpAny _ _ (getAttrByItsOwn (.ref c) (.str name t) (.type "super") (.builtin "super.__getattribute__") true false) _ _ _
 dsimp only[getAttrByItsOwn,hookBefore,callGetattribute,boundAndCalled];refine zA (zr (show(if onTheHeap (.type "super")then typeLookup (.type "super") "__getattr__" else pure none)=pure none from rfl) ?_);refine zA (wpAny_attempt (yJ ?_));show wpAny _ _ (bindSpecial (.builtin "super.__getattribute__") (.ref c)>>=_) _ _ _
 refine zA (zr (F.ks_slot_super_ga.bind _) ?_);refine zQ (Q:=λv s'=>v=.ref h.objs.size/\s'=⟨h.push (cf T id x),g,d,t+1,os⟩) (E:=λ_ _=>False)
  (jW F.ks_slot_super_ga (n _) F.ks_entry_super_ga (sD e k o p X q r sl m s b ⟨_,rfl,rfl,rfl⟩) (F.ks_gaArgs_super _ _)) (λv s' B=>?_) λ_ _ z=>z.elim
 obtain⟨rfl,rfl⟩:=B;exact zD (zD y)
theorem rZ{x:Addr}{Q:Value->Shared->Prop}(a:Looks (model prog w) h (isInstance (.ref x) (.type "list")) true)(b:Q (.ref h.objs.size) ⟨h.push (cf "method-wrapper" "list.__init__" x),g,d,t,os⟩):
 wpAny (model prog w) A (call (.builtin "wrapper_descriptor.__get__") [.builtin "list.__init__",.ref x,.ref C]) Q E ⟨h,g,d,t,os⟩:=
 jW Fx.slot_wget Fx.type_init Fx.entry_wget (BJ a ⟨_,rfl,b⟩) (Fx.args_wget _ _ _)
theorem wb{x:Addr}{Q:Value->Shared->Prop}(a:Looks (model prog w) h (isInstance (.ref x) (.type "list")) true)(b:Q (.ref h.objs.size) ⟨h.push (cf "method-wrapper" "list.__len__" x),g,d,t,os⟩):
 wpAny (model prog w) A (call (.builtin "wrapper_descriptor.__get__") [.builtin "list.__len__",.ref x,.ref C]) Q E ⟨h,g,d,t,os⟩:=
 jW Fx.slot_wget Fx.type_len Fx.entry_wget (DJ a ⟨_,rfl,b⟩) (Fx.args_wget _ _ _)
theorem vx{x:Addr}{Q:Value->Shared->Prop}(a:Looks (model prog w) h (isInstance (.ref x) (.type "list")) true)(b:Q (.ref h.objs.size) ⟨h.push (cf "builtin_function_or_method" "list.pop" x),g,d,t,os⟩):
 wpAny (model prog w) A (call (.builtin "method_descriptor.__get__") [.builtin "list.pop",.ref x,.ref C]) Q E ⟨h,g,d,t,os⟩:=
 jW Fx.slot_mget Fx.type_pop Fx.entry_mget (Ck a ⟨_,rfl,b⟩) (Fx.args_mget _ _ _)
theorem re:∀{T id:String}{u x:Addr}{pos:Pos}{env:Env}{f:Builtin}{Q:Value->Shared->Prop}(i:(T=="method")=false/\((T=="builtin_function_or_method")||(T=="method-wrapper"))=true)(k:h.get? u=some (cf T id x))(b:∀{o:Around}{Q':Unit->Shared->Prop}{E':Value->Shared->Prop},Q' () ⟨h,g,d,t,os⟩->wpAny (model prog w) o (checkBoundCall id ⟨[.ref x],[]⟩) Q' E' ⟨h,g,d,t,os⟩)(hp:plainId id=true)(p:entryFor table id=some f)(s:wpAny (model prog w) A.in1 (f ⟨[.ref x],[]⟩) (λc s'=>∃v,c=.done (.ret v)/\Q v s') E ⟨h,g,d,t,os⟩),
 wpAny (model prog w) A (callWith pos (.ref u) [] (backTo pos (starEach [] env)) []) Q E ⟨h,g,d,t,os⟩:=by
 revert prog A E h g d t os;exists bZ,prog,A,E,h,g,d,t,os;exists bZ,T,id,u,x,pos,env,f,Q;intros;have y:backTo pos (starEach [] env)=[]:=rfl;rw[y];unfold callWith;have z:evalArgs (.ref u) true [] []=pure ⟨[],[]⟩:=by first|rfl|kernel_rfl
 refine zA (yJ (zr z ?_));refine zA (jX ?_);dsimp only[List.any_nil,Bool.or_self];refine zA (m:=keeperOf (.ref u)) ?_;unfold keeperOf;refine zA (wpAny_load k ?_);have l:((yO T) != .type "method")=true:=by have:=i.1;simp at this ⊢;exact this
 have j:((yO T)==.type "method")=false:=by have:=i.1;simp at this ⊢;exact this
 have n:(((yO T)==.type "builtin_function_or_method")||((yO T)==.type "method-wrapper"))=true:=by have:=i.2;simp at this ⊢;exact this
 simp only[cf,l,n,if_true];refine zD ?_;refine zA (zQ (Q:=Q) (E:=E) (uR ?_) (λr s₂ B=>zA (yJ (wpAny_point (zD B)))) λ_ _ x=>x);refine codeAny_of_tree ?_;show wpAny _ A.in1 (callAny (.ref u) _) _ _ _
 dsimp only[callAny];refine zA (wpAny_load k ?_);have C:(((yO T)==.type "method")||((yO T)==.type "builtin_function_or_method")||((yO T)==.type "method-wrapper"))=true:=by rw[j,Bool.false_or];exact n
 simp only[cf,C,l,if_true];refine zA (b ?_);refine zA (zD (zD ?_));exact⟨plainId_quiet hp _,codeAny_builtin p (by rw[jr hp _];exact zQ s (λc s' a=>el12 a λv e q=>by subst e;exact q) λ_ _ e=>e)⟩
end
theorem Ae(x:Addr):checkBoundCall "list.__init__" ⟨[.ref x],[]⟩=pure ():=by kernel_rfl
theorem Cp(x:Addr):checkBoundCall "list.__len__" ⟨[.ref x],[]⟩=pure ():=by kernel_rfl
theorem sJ:plainId "list.__init__"=true:=by decide +kernel
theorem plain_len:plainId "list.__len__"=true:=by decide +kernel
theorem xy:plainId "list.pop"=true:=by decide +kernel
section
variable {F:Fs}{n m:Nat}{sc:Scope}
theorem oY:∀{f:Nat}{D:Str}{a:List Arg}{g:List Expr}{body:List Stmt}{q1:_}{q2:_}{q3:_}{A:Around}{s:Shared}{ρ:Rho}{hp p:List O}{vs:List V}{ys:List Value}{v:V}{ds:List V}{loc:List (Str×V)}(fo:kn H0)(T:Top H0)(hf:f∈br)(P:aK f=.FunctionDef D ⟨[],a,none,[],[],none,g⟩ body [] none [] sc q1 q2 q3)(rm:cj A 0)(R:Rep H0 ρ hp s)(al:Al (VR s.heap ρ) vs ys)(Q:dA fc g=some ds)(hb:iU (a.map (·.arg)) vs ds=some loc) (h:∀(o:Obj)(fd:FuncData)(s1:Shared),H0.get? (ae f)=some o->o.data=.func fd->fd.scope=sc->fd.globals=mainGlobals->fd.builtins=builtinsNs->fd.params=⟨[],a,none,[],[],none,g⟩->sc.kind=.function->Rep H0 ρ hp s1->ah H0 s1.heap ρ s.heap.objs.size loc->
 PySem.wpAt (model pw w) (A.deeper (callEnv fd s.heap.objs.size (ae f))) (.func body (callEnv fd s.heap.objs.size (ae f))) (execs body (callEnv fd s.heap.objs.size (ae f)))
  (λfl s2=>∃q,Step [s.heap.objs.size] ρ q s1 s2/\Rep H0 q p s2/\VR s2.heap q v (match fl with|.ret y=>y|_=>.none)) noE s1),
 codeAny (model pw w) A (.call (.ref (ae f)) ⟨ys,[]⟩) (λr s'=>∃y,r=.ok (.ret y)/\aC H0 ρ v p s y s') s:=by
 revert sc;exists ce10_,sc,f,D,a,g,body,q1,q2,q3,A;exists cc,s,ρ,hp,p,vs,ys,v,ds,loc;intros;obtain⟨⟨o,fd,cd,ho,hd,j,t,i,z,E,S,d,G,H⟩,hk,U,I,B,J,K⟩:=fo f hf _ _ _ _ _ _ _ _ P;refine kX (qY R j K H Q al hb) λus zs hB L k C=>?_;subst i;have W:=R.old _ _ ho (lI f hf);have M:s.heap.CodeRec fd.code fd.qualname:=by
  refine el43 S λc oc vs tq X Y r=>?_
  replace X:=d.symm.trans X;cases X
  exact in43 _ oc vs tq d (R.old _ _ Y G) r
 have N:s.heap.NoLimit:=by
  refine el12 T.lim λmm hn hv=>?_;exact av mm (R.ns hn (by decide)) hv
 refine ks_codeAny_call_defAt (by have:=rm.depth;skip;exact zu this (by decide)) W hd N M t hB B (λx Z=>?_) (λl hns kk=>?_) U I hk
 ·have:x.1∈a.map (·.arg):=(List.of_mem_zip Z).1;refine el12 (zv.mp this) λar har e=>?_;exact e▸(J ar har)
 ·refine aA (R.grow (s':={s with heap:=l,toks:=s.toks+((a.map (·.arg)).zip zs).length}) kk R.gens rfl) λR1 x1=>?_;have lr:ah H0 l ρ s.heap.objs.size loc:=by
   refine⟨(R.low:H0.objs.size<=s.heap.objs.size),R.notFoot,_,hns,λx u e=>?_⟩;simp only[C]at e;refine el12 (oB L k x u e) λy e1 r=>?_;refine av y ?_ (x1.nilVal R r);rw[kR (((List.map_fst_zip (eqg (L.length.symm.trans k:zs.length=(a.map (·.arg)).length))).symm)▸K)];exact e1
  refine ks_wpAt_mono (h o fd _ ho hd rfl z E j hk R1 lr) (λfl s2 h_=>cu h_ λρ2 x2 R2 r2=>⟨_,rfl,ρ2,x2.forget (s:=s) x1.alive fJ (λb o e _ _=>kk b o e) rfl,R2,r2⟩) λ_ _ e=>e.elim
set_option tactic.hygienic true in
theorem su:∀{f:Nat}{A:Around}{L:Addr}{s:Shared}{ρ:Rho}{hp:List O}{loc:List (Str×V)}{kk:Nat}{p:Addr×Addr}{fs:List (Str×V)}{vs:List V}{o:Obj}{fd:FuncData}{ar:Arg}{p0 p1 apos pos:Pos}{name:Str}{T' id W getId:String}{Bi:Builtin}{body:List Stmt}{Q:Value->Shared->Prop}{rest:List Arg}{dsE:List Expr}(T:Top H0)(k:aL H0 K)(sp:iQ H0 K)(hf:f∈[20,23,28])(R:Rep H0 ρ hp s)(lr:ah H0 s.heap ρ L loc)(hρ:ρ[kk]?=some p)(hk:hp[kk]?=some (.acc fs vs))(hv:loc.lookup ar.arg=some (.ref kk))(ho:H0.get? (ae f)=some o)(hd:o.data=.func fd)(hsc:fd.scope=sc)(hglob:fd.globals=mainGlobals)(hblt:fd.builtins=builtinsNs)(hpar:fd.params=⟨[],ar::rest,none,[],[],none,dsE⟩)(hsk:sc.kind=.function)(hks:sc.names.lookup ("super":Str)=some .globalImplicit)(hkc:sc.names.lookup ("__class__":Str)=some .free)(hka:sc.names.lookup ar.arg=some .local)(hn:(name==("__class__":Str))=false)(hfind:alongIn K name [.type "list",.type "object"]=some (some (.builtin id)))(hW:typeOf (.builtin id)=pure (.type W))(sl:Slot W "__get__" getId)(hT:(T'=="method")=false/\((T'=="builtin_function_or_method")||(T'=="method-wrapper"))=true)(hcall:∀{h:Heap}{g:Array GenState}{d:Drawn}{os:OsState}{x C:Addr}{A':Around}{t':Nat}{Q':Value->Shared->Prop}{E':Value->Shared->Prop},Looks (model pw w) h (isInstance (.ref x) (.type "list")) true->Q' (.ref h.objs.size) ⟨h.push (cf T' id x),g,d,t',os⟩->wpAny (model pw w) A' (call (.builtin getId) [.builtin id,.ref x,.ref C]) Q' E' ⟨h,g,d,t',os⟩)(hchk:∀{s':Shared}{x:Addr}{A':Around}{Q':Unit->Shared->Prop}{E':Value->Shared->Prop},Looks (model pw w) s'.heap (typeOf (.ref x)) (.ref aw)->K.In s'.heap->(∃ox,s'.heap.get? x=some ox/\∀c,ox.data≠.cls c)->Q' () s'->wpAny (model pw w) A' (checkBoundCall id ⟨[.ref x],[]⟩) Q' E' s')(hp':plainId id=true)(he:entryFor table id=some Bi) (hev:∃pl:Sem Bool,∀env:Env,eval (.Call (.Attribute (.Call (.Name "super" p0) [] [] p1) name apos) [] [] pos) env=(do
 let ov<-attributeBase (.Call (.Name "super" p0) [] [] p1) name env (eval (.Call (.Name "super" p0) [] [] p1) env)
 standAt apos.atName
 let(f,first)<-holding [ov] (getMethod ov name pl)
 callWith pos f first (backTo pos (starEach [] env)) [])) (h:∀s':Shared,Rep H0 ρ hp s'->Step [] ρ ρ s s'->wpAny (model pw w) A.in1 (Bi ⟨[.ref p.1],[]⟩) (λfin s2=>∃v,fin=.done (.ret v)/\Q v s2) noE s'),
 PySem.wpAt (model pw w) A (.func body (callEnv fd L (ae f))) (eval (.Call (.Attribute (.Call (.Name "super" p0) [] [] p1) name apos) [] [] pos) (callEnv fd L (ae f))) Q noE s:=by
 revert sc;exists ce10_,sc,f,A,L,s,ρ,hp,loc,kk,p;exists ce10_,fs,vs,o,fd,ar,p0,p1,apos,pos,name;exists cc,T',id,W,getId,Bi,body,Q,rest,dsE;intro T k sp hf R lr hρ hk hv ho hd hsc hglob hblt hpar hsk hks hkc hka hn hfind hW sl hT hcall hchk hp' he hev h;obtain⟨o',fd',cd,oc,vs',tf,ho',hd',hclo,hcode,hcdt,hoc,hocd,hvs⟩:=sp.fn f hf;rw[ho]at ho';cases ho';rw[hd]at hd';cases hd';have hfi:f∈br:=by
  simp only[zM,yM,or_false]at hf;rcases hf with rfl|rfl|rfl<;>decide
 refine dk (cq R hρ hk) λox od own=>?_;have X:=k.here R;have hE:(callEnv fd L (ae f)).scope=sc:=hsc;have hkind:∀{x:Str}{kd:NameKind},sc.names.lookup x=some kd->(callEnv fd L (ae f)).kindOf x=some kd:=λh=>by delta Env.kindOf;exact hE▸h
 have hk':(callEnv fd L (ae f)).scope.kind=.function:=hE▸hsk;refine wO (_root_.id T.glob) λmg hng _ _ _ _ _ hnone=>?_;obtain⟨mb,hnb,_,_,_,_,_,_,hsup,_⟩:=_root_.id T.blt;obtain⟨hL,hLf,mm,hns,hloc⟩:=_root_.id lr;refine el12 (hloc _ _ hv) λys hy ry=>?_;obtain⟨q,rfl,hρ'⟩:=ry;rw[hρ]at hρ';cases hρ';refine el12 k.acMro λcdC hcC hmro=>?_;obtain⟨oD,hD1,hD2⟩:∃oD,s.heap.get? aw=some oD/\oD.data=.cls cdC:=by
  have hD:=hcC;unfold clsIn at hD;split at hD
  ·rename_i c d cd' sl ho;refine(zE hD)▸?_;exact av _ (X _ _ ho) rfl
  ·contradiction
 have hsub:mroIn K aw (.ref aw)=some true:=by delta mroIn;rw[hcC,zp,if_neg (by rw[hmro];simp),hmro];rfl
 have hnc:∀c,ox.data≠.cls c:=λc e=>by
  have:=own.inst.no;unfold notCls at this;simp only[e]at this;exact Bool.noConfusion this
 have hxC:p.1≠aw:=by
  intro e;have h1:=own.inst.at_;simp only[e,hD1]at h1;obtain rfl:=zE h1;exact hnc _ hD2
 obtain⟨hh,g,d,t,os⟩:=s;refine eD hev λpl hev=>?_;refine ks_wpAt_MethodCall (pl:=pl) ?_ (hev _);refine ks_wpAt_super_base (env:=callEnv fd L (ae f)) (hkind hks) (hkind hkc) hn rfl (R.old _ _ ho (lI f hfi)) hd (by rw[hpar];rfl) hcode (R.old _ _ hoc hcdt) hocd hvs (beq_self_eq_true _) (by decide +kernel) ?_;refine ks_loadName_global hk' (hkind hks) (loadGlobal_builtin (by refine(?_:Heap.Ns _ fd.globals _);exact hglob▸(R.ns hng (by decide))) (hnone _ (by decide)) (by refine(?_:Heap.Ns _ fd.builtins _);exact hblt▸(R.ns hnb (by decide))) hsup ⟨rfl,?_⟩);refine wpAny_loadName_free (v:=.ref aw) hk' (hkind hkc) (show fd.closure.lookup _=_ by exact congrArg _ hclo) (el12 sp.cell λoc e dc=>(av oc (R.old _ _ e (by decide)) dc):Heap.IsCell _ 124 _) ?_;refine jU hk' (hkind hka) hns hy ?_;refine ks_wpAny_isType_cls hD1 hD2 ⟨rfl,?_⟩;refine ks_wpAny_call_super hD1 hD2 own.inst.at_ own.inst.cls hnc (looks_mroIn X hsub) (λh' e kk=>?_);have X':K.In h':=X.keeps kk;have L1:∀{h2:Heap},(∀b o,h'.get? b=some o->h2.get? b=some o)->Looks (model pw w) h2 (isInstance (.ref p.1) (.type "list")) true:=λk2=>by
  refine(own.inst.type.keeps λb o e=>k2 b o (kk b o e)).andThen (looks_mroIn (X'.keeps k2) ?_)
  delta mroIn;rw[hcC,zp,if_neg (by refine hmro▸?_;simp),hmro];rfl
 refine gU e (looks_opaque X' sp.stat) (l₀:=cdC.mro) ?_ (by refine hmro▸?_;rfl) X' hfind hW sl hxC hn (λq=>hcall (L1 λ_ _ e=>e) q) ?_
 ·exactλA Q E s k q=>zA ((looks_clsIn X' hcC) A _ E s k (zD q))
 refine re hT (Heap.get?_push_at rfl rfl) (λq=>hchk ?_ ?_ ?_ q) hp' he ?_
 ·exact own.inst.type.keeps λb o e=>zJ _ (kk b o e)
 ·exact X'.keeps λb o e=>zJ _ e
 ·exact av ox (zJ _ (kk _ _ own.inst.at_)) hnc
 ·refine aA (R.grow (s':=⟨h'.push (cf T' id p.1),g,d,t+1,os⟩) (λb o e=>zJ _ (kk b o e)) R.gens rfl) λR1 x1=>?_;exact h _ R1 x1
end
section
variable {A:Around}{s:Shared}{E:Value->Shared->Prop}
theorem B_len{a:Addr}{o:Obj}{xs:Array Value}{n:Nat}{Q:Value->Shared->Prop}(c:s.heap.get? a=some o)(d:o.data=.seq xs n)(h:Q (.int xs.size s.toks) {s with toks:=s.toks+1}):
 wpAny (model pw w) A (Builtin.«list.__len__» ⟨[.ref a],[]⟩) (λb s'=>∃v,b=.done (.ret v)/\Q v s') E s:=by
 show wpAny _ _ (do retInt (<-seqSize a)) _ _ s
 unfold seqSize;refine zA (zA (wpAny_load c ?_));rw[d];exact zD (zA (wpAny_mkInt (zD ⟨_,rfl,h⟩)))
theorem FQ:∀{a:Addr}{o:Obj}{xs:Array Value}{n:Nat}{x:Value}{Q:Value->Shared->Prop}(g:s.heap.get? a=some o)(i:o.data=.seq xs n)(b:xs.back?=some x)(c:xs.size<=sizeLine)(h:Q x {s with heap:=s.heap.update a (zw (·.eraseIdxIfInBounds (xs.size-1)))}),
 wpAny (model pw w) A (Builtin.«list.pop» ⟨[.ref a],[]⟩) (λd s'=>∃v,d=.done (.ret v)/\Q v s') E s:=by
 revert A s E;exists cc,A,s,E,a,o,xs,n,x,Q;intros;show wpAny _ _ (vP (.ref a)>>=_) _ _ s
 refine zA (uA g i ?_);have j:0<xs.size:=by
  rcases jR xs.size with q|q
  ·rw[Array.back?_eq_getElem?,Array.getElem?_eq_none (fk1 (zS q))]at b;cases b
  ·exact q
 rw[if_neg (by simp;intro q;rw[q]at j;simp at j)];have e:seqIndex? (-1) xs.size=some (xs.size-1):=by
  unfold seqIndex?;have k:(if(-1:Int)<0 then -1+(xs.size:Int)else -1)=(xs.size:Int)-1:=by rw[if_pos (by decide)];rfl
  refine(k).symm▸?_;rw[if_pos (by rw[za];exact⟨decide_eq_true (by lia),decide_eq_true (by simp +arith)⟩)];congr 1;exact tnp _
 rw[e];have f:xs[xs.size-1]?=some x:=by rw[Array.back?_eq_getElem?]at b;exact b
 simp only[zp,f,jO];exact zA (listUpdate_at g i (zD ⟨x,rfl,h⟩) c (by simp only[vH];split<;>first|exact yo c|(simp only[Array.size_eraseIdx];exact fk2 c ‹xs.size-1<xs.size›)))
theorem Ge{a:Addr}{o:Obj}{xs:Array Value}{n:Nat}{Q:Value->Shared->Prop}(c:s.heap.get? a=some o)(d:o.data=.seq xs n)(e:xs.size<=sizeLine)
 (h:Q .none {s with heap:=s.heap.update a (zw λ_=>#[])}):
 wpAny (model pw w) A (Builtin.«list.__init__» ⟨[.ref a],[]⟩) (λb s'=>∃v,b=.done (.ret v)/\Q v s') E s:=by
 show wpAny _ _ (vP (.ref a)>>=_) _ _ s
 refine zA (uA c d ?_);refine zA (listUpdate_at c d (zA (uC (zD ⟨.none,rfl,h⟩))) e (by simp))
end
theorem AE:alongIn K (nm "__len__") [.type "list",.type "object"]=some (some (.builtin "list.__len__")):=by kernel_rfl
theorem BL:alongIn K (nm "pop") [.type "list",.type "object"]=some (some (.builtin "list.pop")):=by kernel_rfl
theorem wf:alongIn K (nm "__init__") [.type "list",.type "object"]=some (some (.builtin "list.__init__")):=by kernel_rfl
theorem FC:Manifest.signature? "list.pop"=some ⟨.positional,"list.pop","pop",.self,[⟨"index",.posOnly,false⟩]⟩:=by kernel_rfl
theorem DY:builtinKind "list.pop"=some .method:=by decide +kernel
theorem lp_va:Manifest.varargsMethods.contains "list.pop"=false:=by decide +kernel
theorem DO(x:Addr):Bind.checkArgs "list.pop" ⟨.positional,s!"{"_Accumulator"}.{Bind.lastOf "list.pop"}","pop",.self,[⟨"index",.posOnly,false⟩]⟩ ⟨[.ref x],[]⟩=pure ():=by kernel_rfl
theorem DN:∀{s:Shared}{x:Addr}{A:Around}{Q:Unit->Shared->Prop}{E:Value->Shared->Prop}{b:ClassData}(i:clsIn K aw=some b)(j:b.mro=[.ref aw,.type "list",.type "object"])(d:b.qualname.toString="_Accumulator")(ty:typeIn K (.ref aw)=some (.type "type"))(L:Looks (model pw w) s.heap (typeOf (.ref x)) (.ref aw))(X:K.In s.heap)(k:∃e,s.heap.get? x=some e/\∀c,e.data≠.cls c)(l:Q () s),wpAny (model pw w) A (checkBoundCall "list.pop" ⟨[.ref x],[]⟩) Q E s:=by
 exists dI,s,x,A,Q,E,b;intros;have a:mroIn K aw (.type "module")=some false:=by unfold mroIn;rw[i,zp,if_neg (by rw[j];simp),j];rfl
 obtain⟨e,f,g⟩:=k;dsimp only[checkBoundCall];rw[FC];dsimp only[DY];show wpAny _ _ (if _ then _ else _) _ _ _
 rw[if_neg (by decide)];refine zA (Looks.at (h:=s.heap) (L.andThen (looks_mroIn X a)) ?_);rw[if_neg (by rw[lp_va];decide)];refine zA (ks_wpAny_isType_inst f g ?_);rw[if_neg (by decide)];refine zA (Looks.at (h:=s.heap) L ?_);dsimp only;refine zA (Looks.at (h:=s.heap) (looks_clsIn X i) ?_);refine zA (Looks.at (h:=s.heap) (looks_typeIn X ty) ?_);rw[if_pos (by decide),d];exact zr (DO x) l
section
variable {F:Fs}{n m:Nat}{sc:Scope}
theorem pk:(("method-wrapper":String)=="method")=false/\((("method-wrapper":String)=="builtin_function_or_method")||(("method-wrapper":String)=="method-wrapper"))=true:=by decide
theorem De:(("builtin_function_or_method":String)=="method")=false/\((("builtin_function_or_method":String)=="builtin_function_or_method")||(("builtin_function_or_method":String)=="method-wrapper"))=true:=by decide
theorem tw:∀{A:Around}{s:Shared}{ρ:Rho}{hp:List O}{as:List V}{ys:List Value}{v:V}{a:List O}(fo:kn H0)(T:Top H0)(k:aL H0 K)(sp:iQ H0 K)(x:cj A 0)(R:Rep H0 ρ hp s)(z:Al (VR s.heap ρ) as ys)(i:gV 28 as hp=some (some (v,a))),
 codeAny (model pw w) A (.call (.ref (ae 28)) ⟨ys,[]⟩) (λr s'=>∃y,r=.ok (.ret y)/\aC H0 ρ v a s y s') s:=by
 exists bZ,A,s,ρ,hp,as,ys,v,a;intros;refine sp28E (zE (i:some (sp28 as hp)=_)) λj fs vs B l t ev es=>?_;clear i;subst ev es;refine b0 B z λy r=>vR rfl r λp b=>?_;refine oY fo T (f:=28) (by decide) rfl x R (.cons (.ref b) .nil) (ds:=[]) (loc:=[(nm "self",.ref j)]) rfl (by rfl) λo fd s1 C D g c d e h E G=>?_;refine jS (uT ?_);refine su T k sp (f:=28) (by decide) E G b l (by rfl) C D g c d e h (by rfl) (by rfl) (by rfl) (by decide) AE Fx.type_len Fx.slot_wget pk (λL q=>wb L q) (λ_ _ _ q=>zr (Cp _) q) plain_len PySem.F.entry_list_len ⟨_,λ_=>rfl⟩ λs2 u H=>?_;obtain⟨_,xs,⟨J,sl,I⟩,ax,_⟩:=u.obj j p _ b l;refine B_len I rfl ?_;refine cy ρ ((H.trans (Step.toks _)).wide) (u.toks _) ?_;have:(xs.toArray.size:Int)=vs.length:=by rw[ax.length];rfl
 simp only[this];exact .int _ _
theorem vu:∀{A:Around}{s:Shared}{ρ:Rho}{hp:List O}{as:List V}{ys:List Value}{v:V}{j:List O}(fo:kn H0)(T:Top H0)(k:aL H0 K)(sp:iQ H0 K)(c:cj A 1)(R:Rep H0 ρ hp s)(S:Al (VR s.heap ρ) as ys)(P:gV 20 as hp=some (some (v,j))),
 codeAny (model pw w) A (.call (.ref (ae 20)) ⟨ys,[]⟩) (λr s'=>∃y,r=.ok (.ret y)/\aC H0 ρ v j s y s') s:=by
 exists bZ,A,s,ρ,hp,as,ys,v,j;intros;refine sp20E (zE (P:some (sp20 as hp)=_)) λd i fs vs U C a ev es=>?_;clear P;subst ev es;refine so U S λy z r W=>vR rfl r λp t=>?_;have D:cj A 0:=⟨c.handled,by have:=c.depth;exact zB (zW ..) this,by have:=c.units;exact zB (zW ..) this,c.frames,c.guards⟩;refine eD c.frames λX u=>?_;refine oY fo T (f:=20) (by decide) rfl D R (.cons (.ref t) (.cons W .nil)) (ds:=[.int 0]) (loc:=[(nm "self",.ref d),(nm "initial_size",.int i)]) rfl (by rfl) λo fd s1 Y Z l b g x E R1 lr=>?_;have G:aN (callEnv fd s.heap.objs.size (ae 20)) fd.scope:=⟨by refine(?_:fd.scope.kind=_);exact congrArg _ l,rfl,b,g⟩;simp only[l]at G;have H:bt (A.deeper (callEnv fd s.heap.objs.size (ae 20))) 0 0:=⟨c.handled,by have:=c.depth;refine(?_:A.depth+1+_<=_);exact fk1 this,by have:=c.units;refine(?_:A.units+3+_+_<=_);exact fk1 this,⟨_,by refine(?_:A.frames.map _=_);exact congrArg _ u⟩,c.guards⟩;refine jS (um ?_);refine zQ (mr (F:=λ_ _ _=>none) T k (by decide) rfl (oi rfl) (oi rfl) _ _ _ ρ ⟨[(nm "self",.ref d),(nm "initial_size",.int i)],hp⟩ .next ⟨[(nm "self",.ref d),(nm "initial_size",.int i)],hp.set d (.acc (setField fs (nm "_initial_size") (.int i)) vs)⟩ H G R1 lr ?_) (λfl s2 h_=>lB h_ λI Q R2 l2 fr=>?_) λ_ _ e=>e
 ·refine Sm.x_attr (Sm.e_var rfl) (Sm.e_var rfl) ?_;exact Sm.bS rfl (Sm.altR (Sm.nIA C) (Sm.bS (Sm.oA C) (if_pos a.1)))
 ·first|contradiction|cases fr
  have h:=Q.ref _ _ t;have J:d<hp.length:=(zh.mp C).1;have B:(hp.set d (.acc (setField fs (nm "_initial_size") (.int i)) vs))[d]?=some (.acc (setField fs (nm "_initial_size") (.int i)) vs):=List.getElem?_set_self J;refine jS (ks_wpAt_Expr_any ?_ (G.quiet));refine su T k sp (f:=20) (by decide) R2 l2 h B (by rfl) Y Z l b g x E (by rfl) (by rfl) (by rfl) (by decide) wf Fx.type_init Fx.slot_wget pk (λL q=>rZ L q) (λ_ _ _ q=>zr (Ae _) q) sJ PySem.F.entry_list_init ⟨_,λ_=>rfl⟩ λs3 R3 x3=>?_;refine mJ (fg k R3 h B rfl) λo3 xs n3 _ hg M N _ turn=>?_;have hz:xs.toArray.size<=sizeLine:=by
   have:=N.length;have:=a.2.2;have:=pT;simp only[ze];exact fk3 a.2.2 (eqg ‹vs.length=xs.length›) this
  refine Ge hg M hz ?_;obtain⟨R4,x4⟩:=turn (λ_=>#[]) [] [] rfl .nil;refine um (wpAny_execs_nil ?_);refine cy I (Q.trans (x3.trans x4).wide) ?_ .none
  ·have e:(hp.set d (.acc (setField fs (nm "_initial_size") (.int i)) vs)).set d (ku (.acc (setField fs (nm "_initial_size") (.int i)) vs) [])=hp.set d (.acc (setField fs (nm "_initial_size") (.int i)) []):=by rw[List.set_set];rfl
   simp only[<-e];exact R4
noncomputable def F28:Fs:=λf as hp=>if f=28 then sp28 as hp else none
theorem Al.getLast{R:V->Value->Prop}:∀{vs:List V}{xs:List Value},Al R vs xs->∀{u:V},vs.getLast?=some u->∃x,xs.getLast?=some x/\R u x
 | [],_,al,u,h=>by exact no h
 | [v],_,al,u,h=>by
  refine bY al.cons_inv λx xs a r b=>?_;subst a;cases b.nil_inv;refine(zE h)▸?_;exact av x rfl r
 | v::v'::vs,_,al,u,h=>by
  refine bY al.cons_inv λx xs a r b=>?_;subst a;have c:(v'::vs).getLast?=some u:=by replace h:=List.getLast?_cons_cons.symm.trans h;exact h
  refine el12 (Al.getLast b c) λy d e=>?_;refine bY b.cons_inv λz zs a _ _=>?_;subst a;exact av y (List.getLast?_cons_cons.trans d) e
theorem Al.dropLast{R:V->Value->Prop}:∀{vs:List V}{xs:List Value},Al R vs xs->Al R vs.dropLast xs.dropLast
 | [],_,al=>al.nil_inv▸.nil
 | [v],_,al=>by
  refine bY al.cons_inv λx xs a r b=>?_;subst a;cases b.nil_inv;exact .nil
 | v::v'::vs,_,al=>by
  refine bY al.cons_inv λx xs a r b=>?_;subst a;refine bY b.cons_inv λz zs a d c=>?_;subst a;exact .cons r (Al.dropLast (.cons d c))
set_option tactic.hygienic true in
theorem sy(xs:List Value):xs.toArray.eraseIdxIfInBounds (xs.toArray.size-1)=List.toArray xs.dropLast:=by
 unfold vH;split
 ·rename_i h;apply Array.ext';refine Array.toList_eraseIdx.trans ?_;simp only[ze,List.eraseIdx_length_sub_one]
 ·rename_i h
  replace h:=ze▸h
  have:xs=[]:=zk.mp (by lia);subst this;rfl
theorem BV:∀{A:Around}{s:Shared}{ρ:Rho}{hp:List O}{as:List V}{ys:List Value}{v:V}{h:List O}(fo:kn H0)(T:Top H0)(k:aL H0 K)(sp:iQ H0 K)(SO:gr w H0)(set:(H0.get? 212).isSome)(TO:eQ H0)(tc:TC H0 w)(d:cj A 1)(R:Rep H0 ρ hp s)(Z:Al (VR s.heap ρ) as ys)(D:gV 23 as hp=some (some (v,h))),
 codeAny (model pw w) A (.call (.ref (ae 23)) ⟨ys,[]⟩) (λr s'=>∃y,r=.ok (.ret y)/\aC H0 ρ v h s y s') s:=by
 exists bZ,A,s,ρ,hp,as,ys,v,h;intros;refine sp23E (zE (D:some (sp23 as hp)=_)) λa fs vs ea E c j=>?_;clear D;refine b0 ea Z λy r=>vR rfl r λp G=>?_;have rm0:cj A 0:=⟨d.handled,by have:=d.depth;exact zB (zW ..) this,by have:=d.units;exact zB (zW ..) this,d.frames,d.guards⟩;refine eD d.frames λfrs H=>?_;refine oY fo T (f:=23) (by decide) rfl rm0 R (.cons (.ref G) .nil) (ds:=[]) (loc:=[(nm "self",.ref a)]) rfl (by rfl) λo fd s1 ho hd B g l I hsk R1 lr=>?_;have eo:aN (callEnv fd s.heap.objs.size (ae 23)) fd.scope:=⟨by refine(?_:fd.scope.kind=_);exact congrArg _ B,rfl,g,l⟩;simp only[B]at eo;have J:bt (A.deeper (callEnv fd s.heap.objs.size (ae 23))) 0 0:=⟨d.handled,by have:=d.depth;refine(?_:A.depth+1+_<=_);exact fk1 this,by have:=d.units;refine(?_:A.units+3+_+_<=_);exact fk1 this,⟨_,by refine(?_:A.frames.map _=_);exact congrArg _ H⟩,d.guards⟩;have sf:SF H0 w F28 0:=λA s ρ hp f as ys v h d R Z D=>by
  refine ai (D:(if _ then _ else none)=_) λhf D=>?_;subst hf;exact tw fo T k sp d R Z (congrArg some D)
 have M:=pT;refine jS (ks_wpAt_If (um ?_));refine zQ (xZ (F:=F28) (n:=0) (m:=0) T SO set rfl (tR T k TO tc sf rfl rfl rfl (by decide) rfl (oi rfl) SEs.nil) BX _ _ _ ρ ⟨[(nm "self",.ref a)],hp⟩ (decide (vs.length=0)) ⟨[(nm "self",.ref a)],hp⟩ J eo R1 lr ?_) (λb s2 h_=>cE h_ λhb C _=>el12 C λN U R2=>?_) λ_ _ e=>e
 ·have P:ev F28 (.var (nm "self")) ⟨[(nm "self",.ref a)],hp⟩=some (.ref a,⟨[(nm "self",.ref a)],hp⟩):=rfl;have e3:ev F28 (.int 0) ⟨[(nm "self",.ref a)],hp⟩=some (.int 0,⟨[(nm "self",.ref a)],hp⟩):=rfl;have e4:evs F28 [] ⟨[(nm "self",.ref a)],hp⟩=some ([],⟨[(nm "self",.ref a)],hp⟩):=rfl;have e5:aW (.ref a) (nm "part_count") ⟨[(nm "self",.ref a)],hp⟩=some (.fn 28):=Sm.mo_acc E (by decide) c.2 rfl;refine(Sm.t_cmp (Sm.e_meth P e4 e5 e5 (Sm.mv_acc E (by decide) rfl ((if_pos rfl).trans (Sm.bS rfl (Sm.bS rfl (Sm.bS (Sm.oA E) (if_pos c.1))))):cU F28 (.ref a) (nm "part_count") [] ⟨[(nm "self",.ref a)],hp⟩=some (.int vs.length,⟨[(nm "self",.ref a)],hp⟩))) e3 rfl).trans ?_;congr 2;rw[uM,beq_iff_eq,decide_eq_true_iff];simp +arith
 have t:=U.ref _ _ G;have l2:=lr.step U R1 T.size;subst hb;by_cases W:vs.length=0
 ·rw[decide_eq_true W,if_pos rfl];have:vs=[]:=zk.mp W;subst this;have e1:=p1 j;have P:=p3 j;subst e1 P;refine jS (uT (um ?_));refine zQ (Bp (F:=F28) (n:=0) (m:=0) (by decide) (SEs.cons T rfl rA (SEs.cons T rfl rA SEs.nil)) _ _ _ N ⟨[(nm "self",.ref a)],hp⟩ (.tup [.str (nm ""),.str (nm "")]) ⟨[(nm "self",.ref a)],hp⟩ J eo R2 l2 ?_) (λy s3 h_=>aA h_ λC _=>cu C λρ3 x3 Y r3=>(cy ρ3 ((U.trans x3).wide) Y r3)) λ_ _ e=>e;exact Sm.e_tup rfl rfl
 ·rw[decide_eq_false W,if_neg (by decide)];refine um (wpAny_execs_nil ?_);obtain⟨u,hu⟩:∃u,vs.getLast?=some u:=by
   cases q:vs.getLast? with
   | none=>exact absurd (zk.mpr (yH.mp q)) W
   | some u=>exact⟨u,rfl⟩
  replace j:=hu▸j
  have e1:=p1 j;have P:=p2 j;subst e1 P;refine el12 k.acMro λcd Q S=>?_;refine el12 sp.qual λcd' z hqu=>?_;rw[Q]at z;cases z;refine jS (uT ?_);refine su T k sp (f:=23) (by decide) R2 l2 t E (by rfl) ho hd B g l I hsk (by rfl) (by rfl) (by rfl) (by decide) BL Fx.type_pop Fx.slot_mget De (λL q=>vx L q) (λL X hx q=>DN Q S hqu sp.ty L X hx q) xy PySem.F.entry_list_pop ⟨_,λ_=>rfl⟩ λs3 Y x3=>?_;refine mJ (fg k Y t E rfl) λo3 xs n3 _ hg hd3 i _ turn=>?_;have j:xs.toArray.size<=sizeLine:=by
   have:=i.length;have:=c.1;simp only[ze];exact fk3 c.1 M (eqg ‹vs.length=xs.length›)
  have hl2:=i.length;refine el12 (i.getLast hu) λx hx rx=>?_;refine FQ hg hd3 (by rw[List.back?_toArray];exact hx) j ?_;refine aA (turn (·.eraseIdxIfInBounds (xs.toArray.size-1)) xs.dropLast vs.dropLast (sy xs) i.dropLast) λR4 x4=>?_;exact cy N (((U.trans x3).trans x4).wide) R4 (x4.nilVal Y rx)
end
noncomputable def k8(h:Heap)(a:Addr)(items:Array Value):Prop:=∃o n,h.get? a=some o/\o.data=.seq items n
theorem k8.at{a:Addr}{items:Array Value}(x:k8 h a items)(k:∀o,h.get? a=some o->h'.get? a=some o):k8 h' a items:=
 fw x λo n e d=>⟨o,n,k o e,d⟩
section
variable {A:Around}{E:Value->Shared->Prop}{s:Shared}
theorem Bd:∀{a:Addr}{Q:Value->Shared->Prop}(L:LL w s.heap a)(e:Looks (model pw w) s.heap (specialOf (.ref a) "__iter__") (some (.builtin "list.__iter__")))(f:Q (.ref s.heap.objs.size) {s with heap:=s.heap.push {cls:=.type "list_iterator",data:=.fields #[.ref a,.int 0 0]}}),wpAny (model pw w) A (pyIter (.ref a)) Q E s:=by
 revert A E s;exists ce5_,A,E,s,a,Q;intros;unfold pyIter;refine zA (e.here ?_);show wpAny _ A (callSpecialIfBoundUnlessNone? (.ref a) "__iter__" _>>=_) Q E s
 have b:∀{Q':Option Value->Shared->Prop},Q' (some (.ref s.heap.objs.size)) {s with heap:=s.heap.push {cls:=.type "list_iterator",data:=.fields #[.ref a,.int 0 0]}}->wpAny (model pw w) A (callSpecialIfBoundUnlessNone? (.ref a) "__iter__" (do rule "iter.none";raiseError "TypeError" s!"'{← typeNameOf (.ref a)}' object is not iterable")) Q' E s:=λ{Q'} q=>by
  dsimp only[callSpecialIfBoundUnlessNone?,bindSpecialIfBound?];refine yJ (zA (zA (e.here ?_)));dsimp only[slot_list_iter.bind];refine zA (wpAny_askSetting (wpAny_ite ?_));have g:wpAny (model pw w) A (call (.builtin "list.__iter__") [.ref a]) (λv=>Q' (some v)) E s:=by
   refine eN (rest:=[]) L (.inl (by decide +kernel)) (n:="__iter__") (by decide +kernel) slot_list_iter.plain entry_list_iter (args_list_iter _) ?_;show wpAny _ _ (do ret (<-newFields "list_iterator" [.ref a,rawInt 0])) _ _ s
   exact zA (jH (zD ⟨_,rfl,q⟩))
  have c:∀(r:Sem Value),wpAny (model pw w) A (if(Value.builtin "list.__iter__"==vK)=true then(r>>=λv=>pure (some v))else(call (.builtin "list.__iter__") [.ref a]>>=λv=>pure (some v))) Q' E s:=λr=>by
   rw[if_neg (by decide)];exact zA (zQ g (λv s' d=>zD d) λ_ _ d=>d)
  split
  ·exact zA (zD (zD (c _)))
  ·exact wpAny_tryCatch (zA (zD (zD (c _))))
 refine zA (b ?_);exact zA (uh (T:="list_iterator") ⟨_,zN _ rfl,rfl⟩ slot_listiter_next.lookup (zD f))
theorem xD:∀{a l:Addr}{i:Nat}{items:Array Value}{x:Value}{Q:Option Value->Shared->Prop}(hit:s.heap.IsListIter a l i)(g:k8 s.heap l items)(h:items[i]?=some x)(j:∀d,d.IsListIter a l (i+1)->jl a s.heap d->Q (some x) {s with heap:=d}),wpAny (model pw w) A (pyNext (.ref a)) Q E s:=by
 revert A E s;exists cc,A,E,s,a,l,i,items,x,Q;intros;obtain⟨o,c,k,b⟩:=_root_.id hit;obtain⟨m,n,e,f⟩:=g;unfold pyNext;refine zA (wpAny_attempt (uY (name:=zf "__next__") hit.typeIs slot_listiter_next (jW slot_listiter_next hit.typeIs entry_listiter_next ?_ (args_listiter_next _))));show wpAny _ _ (field (.ref a) 0>>=_) _ _ s
 refine zA (yv c b (x:=.ref l) rfl ?_);show wpAny _ _ (if(jV l==vK)=true then _ else _) _ _ s
 rw[if_neg (show ¬((jV l==vK)=true)from uG)];show wpAny _ _ (field (.ref a) 1>>=_) _ _ s
 refine zA (yv c b (x:=.int i 0) rfl ?_);show wpAny _ _ (seqItems? (.ref l)>>=_) _ _ s
 refine zA (yx e f ?_);simp only[Int.toNat_natCast,h];refine zA (wpAny_setField c b (by simp) (zD ⟨x,rfl,zD (j _ ?_ (jl.update ..))⟩));exact⟨_,jI _ c (Obj.isFreed_of_fields (Obj.data_mapFields b _)),(Obj.cls_mapFields ..).trans k,by
  rw[Obj.data_mapFields b];simp[rawInt]⟩
theorem BO:∀{c l:Addr}{i:Nat}{items:Array Value}{Q:Option Value->Shared->Prop}(j:A.handled=none)(hit:s.heap.IsListIter c l i)(k:k8 s.heap l items)(n:items[i]?=none)(p:∀h,Heap.ExtBut c s.heap h->Q none {s with heap:=h}),wpAny (model pw w) A (pyNext (.ref c)) Q E s:=by
 revert A E s;exists bZ,A,E,s,c,l,i,items,Q;intros;obtain⟨o,d,q,e⟩:=_root_.id hit;obtain⟨r,t,f,g⟩:=k;unfold pyNext;refine zA (wpAny_attempt (uY (name:=zf "__next__") hit.typeIs slot_listiter_next (jW slot_listiter_next hit.typeIs entry_listiter_next ?_ (args_listiter_next _))));show wpAny _ _ (field (.ref c) 0>>=_) _ _ s
 refine zA (yv d e (x:=.ref l) rfl ?_);show wpAny _ _ (if(jV l==vK)=true then _ else _) _ _ s
 rw[if_neg (show ¬((jV l==vK)=true)from uG)];show wpAny _ _ (field (.ref c) 1>>=_) _ _ s
 refine zA (yv d e (x:=.int i 0) rfl ?_);show wpAny _ _ (seqItems? (.ref l)>>=_) _ _ s
 refine zA (yx f g ?_);simp only[Int.toNat_natCast,n];refine zA (jw (zA (wpAny_setField d e (by simp) ?_)));show wpAny _ _ (newExc (.type "StopIteration") []>>=_) _ _ _
 refine zA ?_;simp only[newExc,newTuple];refine zA (jH ?_ (by size_fits));refine zA (m:=firstArgMember _ _) (zr (a:=vK) (by first|rfl|(simp only[firstArgMember];rfl)) ?_);refine jH ?_ (by size_fits);dsimp only[raiseNew];refine zA (wpAny_handled ?_);rw[show A.in1.handled=none from j];refine zA (zD (wpAny_throw ?_));refine zA (uy (T:="StopIteration") (b:=true) ⟨_,zN _ rfl,rfl⟩ isSubtype_stop ?_);exact zD (p _ (((jl.update ..).extBut.push _).push _))
theorem AD(B:A.handled=none)(I ax:Addr)(u:ax≠I)(items:Array Value)(d:Nat->Addr)(a:Nat->Array Value)
 (hit:∀j,j<items.size->items[j]?=some (.ref (d j))) (m:∀j,j<items.size->d j≠I):
 WalksU pw w A I (I::ax::(yS items.size).map d) [I] items.size (λj v=>j<items.size/\v=a j)
  (λj h=>h.IsListIter I ax j/\k8 h ax items/\∀k,k<items.size->h.IsTuple (d k) (a k))
  (λj T h=>(j<items.size/\T=d j)/\h.IsListIter I ax (j+1)/\k8 h ax items/\∀k,k<items.size->h.IsTuple (d k) (a k)) where
 sub:=λb l=>by simp at l;simp[l]
 frame:=λ_ _ _ st y=>⟨st.1.at λo e=>y I (by simp) o e,st.2.1.at λo e=>y ax (by simp) o e,
  λk c=>(st.2.2 k c).at λo e=>y (d k) (zy _ (zy _ (zv.mpr ⟨k,jn.mpr c,rfl⟩))) o e⟩
 item:=λi s Q E r st f=>by
  refine xD st.1 st.2.1 (x:=.ref (d i)) (hit i r) λt n g=>?_;have tup:∀k,k<items.size->t.IsTuple (d k) (a k):=λk c=>(st.2.2 k c).extBut g.extBut (m k c);exact f (d i) (a i) t s.toks ⟨r,rfl⟩ (tup i r) ⟨⟨r,rfl⟩,n,st.2.1.at λo e=>g.extBut _ o u e,tup⟩ λb o l e=>g.extBut b o (λh=>l (by simp[h])) e
 go:=λ_ _ _ _ _ s Q _ p f=>wpAny_letOwnedTupleGo_listiter p.2.1 (f s.heap p.2 λ_ _ _ e=>e)
 apart:=λj T _ p q=>by
  rcases zM.mp q with e|e
  ·exact m j p.1.1 (p.1.2▸e)
  ·contradiction
 done:=λs Q E st f=>BO B st.1 st.2.1 (by simp) λt z=>f t s.toks λb o l e=>z b o (λh=>l (by simp[h])) e
 self:=λ_ _ _ _ st f=>uo st.1 f
end
theorem qT(n:Nat):passing (λ_=>true) n 0=yS n:=by
 unfold passing;refine List.drop_zero.trans ?_;exact List.filter_eq_self.mpr (λ_ _=>rfl)
section
variable {F:Fs}{n m:Nat}{sc:Scope}
theorem Rep.tabled{s:Shared}(R:Rep H0 ρ hp s)(k:∀b ob,b∉aO->s.heap.get? b=some ob->s'.heap.get? b=some ob)(t:ib s'.heap)(g:AllBare s'.gens)(o:s'.os=s.os):Rep H0 ρ hp s'/\Step [] ρ ρ s s':=by
 have d:∀b∈foot ρ,b∉aO:=λb a=>(R.above b a).2;have f:∀b ob,s.heap.get? b=some ob->∃o',s'.heap.get? b=some o':=λb ob e=>by
  by_cases a:b∈aO
  ·refine el12 (tabObj t a) λo' j _=>?_;exact⟨o',j⟩
  ·exact⟨ob,k b ob a e⟩
 have st:Step [] ρ ρ s s':=⟨(av [] ((zo _).symm) (by simp[foot])),f,λb ob e _ _ h=>k b ob h e,o⟩;refine⟨⟨λb ob e h=>k b ob h (R.old b ob e h),t,g,R.len,λi p ob c l=>(R.obj i p ob c l).mono (λb a o e=>k b o (d b (ya.mpr (av p (yT c) a))) e) λv y r=>st.val R (λb a=>by cases a) r,R.apart,R.above,R.lo⟩,st⟩
theorem Dr(sp:iQ H0 K)(j:cP∈[((166:Addr),(162:Addr)),(173,169)]){M:Model}{E:Value->Shared->Prop}{s:Shared}(R:Rep H0 ρ hp s)(l:env.code=.ref cP.1){Q:Value->Shared->Prop}
 (B:∀code d w,(∀b o,b∉aO->s.heap.get? b=some o->d.get? b=some o)->s.heap.objs.size<=d.objs.size->ib d->Q code {s with heap:=d,toks:=w}):wpAny M A (genexprCode env pos qn gsc) Q E s:=by
 refine kX R.tab λps N C D G H=>?_;refine kX (sp.code cP j) λo vs I p J r=>?_;have t:∀{c P:Addr}{ps:Array Value},env.code=.ref c->s.heap.IsCode c P ps->s.heap.TableAt c P ps->P∈aO->(∀d,Heap.ExtBut P s.heap d->(∃f,d.IsCode c P f/\d.get? P=some (X.tableObj f))->ib d)->wpAny M A (genexprCode env pos qn gsc) Q E s:=λ{c P ps} l u v O S=>by
  cases q:codeAmong pos ps.toList with
  | some L=>
   refine wpAny_genexprCode_hit l u q ?_;exact B L s.heap s.toks (λ_ _ _ e=>e) (zY _) R.tab
  | none=>
   refine wpAny_genexprCodeX l u v q λL d w i x y k _ T _=>?_;refine B _ d w (λb o U e=>i b o (λV=>U (V▸O)) e) (zB x (zg y)) (S d i (av _ k T.2))
 simp only[zM,yM,or_false]at j;rcases j with rfl|rfl
 ·refine t l C ⟨(mf o vs (R.old _ _ I (by decide)) p J r),G⟩ (by decide) λd i g=>el12 g λf a b=>?_;exact mf f N a (D.extBut i (by decide) (by decide)) b (i _ _ (by decide) H)
 ·refine t l D ⟨(mf o vs (R.old _ _ I (by decide)) p J r),H⟩ (by decide) λd i h=>el12 h λz a b=>?_;exact mf ps z (C.extBut i (by decide) (by decide)) a (i _ _ (by decide) G) b
theorem pairs_at:∀{vs:List V}{xs:List Value}{ps:List (Str×Str)},pairsOf vs=some ps->Al (VR h ρ) vs xs->
 xs.length=ps.length/\∀(j:Nat),∃z:Addr×Tok×Tok,∀p,ps[j]?=some p->xs[j]?=some (.ref z.1)/\h.IsTuple z.1 #[.str p.1 z.2.1,.str p.2 z.2.2]
 | [],xs,ps,e,al=>by
  obtain rfl:=zE e;cases al.nil_inv;exact⟨rfl,λj=>⟨(0,0,0),λp e=>by simp at e⟩⟩
 | v::vs,xs,ps,e,al=>by
  refine bY al.cons_inv λx f a r c=>?_;subst a;refine bE (e:(mK v).bind _=_) λg _ e=>bE e λp _ e=>mE e λi k q=>?_;subst q;obtain⟨l,o⟩:=pairs_at k c;have r:VR h ρ (.tup [.str p.1.1,.str p.1.2]) x:=by simp only[g.2,p.2]at r;exact r
  refine cu r λT a d H=>?_;subst a;refine el12 d λys s b=>?_;obtain⟨u,w,rfl,y,b⟩:=b.cons_inv;obtain⟨A,B,rfl,C,b⟩:=b.cons_inv;cases b.nil_inv;obtain⟨D,rfl⟩:∃t,u=.str p.1.1 t:=by cases y;exact⟨_,rfl⟩
  obtain⟨E,rfl⟩:∃t,A=.str p.1.2 t:=by cases C;exact⟨_,rfl⟩
  refine⟨congrArg (· + 1) l,λj=>?_⟩;cases j with
  | zero=>exact⟨(T,D,E),λp e=>by cases e;exact⟨rfl,s⟩⟩
  | succ j=>exact(o j).imp λz G p e=>G p e
end
section
variable {F:Fs}{n m:Nat}{sc:Scope}
structure GenOf (w:World) (A:Around) (H0:Heap) (ρ:Rho) (hp:List O) (s:Shared) (P:Nat->Value->Prop) (n:Nat) (a:Addr) (s5:Shared):Prop where
 rep:Rep H0 ρ hp s5
 step:Step [] ρ ρ s s5
 keep:∀b o,b∉aO->s.heap.get? b=some o->s5.heap.get? b=some o
 walk:∃fp wr g St,WalksS pw w A.in4 a fp wr (GenOnlyQ g) n P St/\St 0 s5/\(∀i s',St i s'->s'.TypeIs (.ref a) "generator")/\a∈fp/\(∀b∈fp,b<s5.heap.objs.size)/\(∀b∈wr,s.heap.objs.size<=b)
theorem FV{G:Array GenState->Array GenState->Prop}{n:Nat}{P P':Nat->Value->Prop}{St:Nat->Shared->Prop}(W:WalksS pw w A I fp wr G n P St)(h:∀j v,P j v->P' j v):WalksS pw w A I fp wr G n P' St where
 sub:=W.sub
 grefl:=W.grefl
 gtrans:=W.gtrans
 frame:=W.frame
 item:=λi s Q E a st b=>W.item i s Q E a st λv s' hp=>b v s' (h i v hp)
 done:=W.done
 self:=W.self
theorem rE{G:Array GenState->Array GenState->Prop}{n:Nat}{P:Nat->Value->Prop}{St:Nat->Shared->Prop}(W:WalksS pw w A I fp wr G n P St):
 WalksS pw w A I fp wr G (n+1) (λi v=>match i with|0=>False|i+1=>P i v) (λi s=>match i with|0=>False|i+1=>St i s) where
 sub:=W.sub
 grefl:=W.grefl
 gtrans:=W.gtrans
 frame:=λi s c d st a e=>by
  cases i with
  | zero=>exact st.elim
  | succ i=>exact W.frame i s c d st a e
 item:=λi s Q E f st b=>by
  cases i with
  | zero=>exact st.elim
  | succ i=>exact W.item i s Q E (Nat.le_of_lt_succ f) st b
 done:=W.done
 self:=λi s Q E st b=>by
  cases i with
  | zero=>exact st.elim
  | succ i=>exact W.self i s Q E st b
theorem sU:∀{cP:Addr×Addr}{A:Around}{env:Env}{s:Shared}{ρ:Rho}{hp:List O}{loc:List (Str×V)}{kk:Nat}{p:Addr×Addr}{fs:List (Str×V)}{vs:List V}{ps:List (Str×Str)}{me:Str}{elt:Expr}{xa xb:Str}{pa pb pt ip pos:Pos}{kt:Nat}{d:Scope}{P:Nat->Value->Prop}{Q:Value->Shared->Prop}(T:Top H0)(k:aL H0 K)(sp:iQ H0 K)(hcP:cP∈[((166:Addr),(162:Addr)),(173,169)])(hh:A.handled=none)(Y:A.depth<recursionLimit)(eo:aN env sc)(hcode:env.code=.ref cP.1)(R:Rep H0 ρ hp s)(lr:ah H0 s.heap ρ env.locals loc)(hx:ap sc me=true)(hv:loc.lookup me=some (.ref kk))(E:ρ[kk]?=some p)(hk:hp[kk]?=some (.acc fs vs))(hps:pairsOf vs=some ps)(hco:d.isCoroutine=false)(hclos:∀e:Env,closureFor d e=pure [])(hcell:∀y∈d.names,y.2≠.cell)(h0:d.names.lookup (".0":Str)=some NameKind.local)(hxa:d.names.lookup xa=some .local)(hxb:d.names.lookup xb=some .local)(hab:xa≠xb)(u:d.kind=.function) (helt:∀(G:Around)(E':Value->Shared->Prop)(j:Nat)(a b:Str)(ta tb:Tok)(s₂:Shared)(f:Str->Option Value)(z:Env),G.handled=none->ps[j]?=some (a,b)->aN z d->s₂.heap.Ns z.locals f->f xa=some (.str a ta)->f xb=some (.str b tb)->
 (∀D,H0.Ns mainGlobals D->s₂.heap.Ns mainGlobals D)->(∀mb,H0.Ns builtinsNs mb->s₂.heap.Ns builtinsNs mb)->wpAny (model pw w) G (eval elt z) (λy s₃=>P j y/\Keeps s₂ s₃) E' s₂) (hQ:∀a s5,GenOf w A H0 ρ hp s P ps.length a s5->Q (.ref a) s5),
 wpAny (model pw w) A (eval (.GeneratorExp elt [⟨.Tuple [.Name xa pa,.Name xb pb] kt pt,.Name me ip,[],0⟩] d pos) env) Q noE s:=by
 revert sc;exists ce13_,sc,cP,A,env,s,ρ,hp,loc,kk,p,fs,vs,ps;exists ce13_,me,elt,xa,xb,pa,pb,pt,ip,pos,kt,d,P,Q;intros;refine dk (cq R E hk) λox od own=>?_;obtain⟨_,xs,⟨nn,sl,hxo⟩,ax,_⟩:=R.obj kk p _ E hk;refine aA (pairs_at hps ax) λhlen H=>?_;obtain⟨Z,hZ⟩:∃Z:Nat->Addr×Tok×Tok,∀j q,ps[j]?=some q->xs[j]?=some (.ref (Z j).1)/\s.heap.IsTuple (Z j).1 #[.str q.1 (Z j).2.1,.str q.2 (Z j).2.2]:=⟨λj=>Classical.choose (H j),λj=>Classical.choose_spec (H j)⟩;have I:∀j,j<xs.toArray.size->∃q,ps[j]?=some q:=λj l=>⟨ps[j]'(by simp at l;exact hlen▸l),zP _⟩;have hI:Looks (model pw w) s.heap (specialOf (.ref p.1) "__iter__") (some (.builtin "list.__iter__")):=own.inst.type.andThen (jD (k.here R) (k.acL (nm "__iter__","list.__iter__") (by decide)));obtain⟨mgb,bm,ob,hnb,hbm,hbne,hbt,hbo,hbc,hbd,hbp⟩:=sp.bi;have gd:=(cA (sc:=sc) (x:=me));obtain⟨hl1,hl2⟩:=dE hx;refine wpAny_GeneratorExp_walksQT hh hco (hclos _) hcell h0 hxa hxb hab u Y ?_ (λ_=>rfl);obtain⟨hLo,_,mm,B,hloc⟩:=_root_.id lr;refine el12 (hloc me _ hv) λy e1 r=>?_;refine el12 r λq q1_ S=>?_;subst q1_;rw[E]at S;cases S;refine wpAny_Name (jU eo.kind (eo.loc hl1) B e1 ?_) hl2;refine Bd (LL.of_acc k R own) hI ?_;refine aA (R.push {cls:=.type "list_iterator",data:=.fields #[.ref p.1,.int 0 0]} s.toks) λR2 x2=>?_;have J:∀b,296<=b->b∉aO:=λb c B=>by
  unfold aO at B;simp only[zM,yM,or_false]at B;rcases B with rfl|rfl<;>exact absurd c (by decide)
 have C:296<=s.heap.objs.size:=zB T.size R.low;have U:∀{h':Heap},(∀b o,b∉aO->s.heap.get? b=some o->h'.get? b=some o)->h'.NoLimit:=λ{h'} kp=>by
  refine el12 T.lim λmm B hv=>?_;exact av mm (gB (R.ns B (by decide)) λo e=>kp _ _ (by decide) e) hv
 have kp2:∀b o,b∉aO->s.heap.get? b=some o->(s.heap.push {cls:=.type "list_iterator",data:=.fields #[.ref p.1,.int 0 0]}).get? b=some o:=λb o _ e=>zJ _ e;refine⟨U kp2,Dr sp hcP R2 hcode λcode h3 tk hk3 hsz3 tab3=>?_⟩;have t:∀b o,b∉aO->s.heap.get? b=some o->h3.get? b=some o:=λb o c e=>hk3 b o c (kp2 b o c e);have nsk:∀{a:Addr}{D:Str->Option Value},a∉aO->H0.Ns a D->h3.Ns a D:=λha B=>gB (R.ns B ha) λo e=>t _ _ ha e;refine wpAny_builtinsFor (by simp only[eo.glob];exact nsk (by decide) hnb) hbm hbne (t _ _ hbt (R.old _ _ hbo hbt)) hbc hbd hbp ?_;have hp1:p.1∈foot ρ:=(kL (yT E)).1;have X:p.1<s.heap.objs.size:=yB hxo;have hTs:∀j,j<xs.toArray.size->(Z j).1<s.heap.objs.size/\(Z j).1∉aO:=λj l=>by
  refine eD (I j l) λq L=>?_;obtain⟨_,o,ho,hc,_⟩:=hZ j q L;refine⟨yB ho,λht=>?_⟩;refine el12 (tabObj R.tab ht) λo' ho' hc'=>?_;rw[ho]at ho';cases ho';rw[hc]at hc';cases hc'
 have M:s.heap.objs.size<h3.objs.size:=by
  have:(s.heap.push {cls:=.type "list_iterator",data:=.fields #[.ref p.1,.int 0 0]}).objs.size<=h3.objs.size:=hsz3;rw[yW]at this;exact this
 have hW:∀G:Around,G.handled=none->WalksU pw w G s.heap.objs.size _ _ _ _ _ _:=λG hA=>
  AD hA s.heap.objs.size p.1 (zd X) xs.toArray (λj=>(Z j).1) (λj=>match ps[j]? with|some q=>#[.str q.1 (Z j).2.1,.str q.2 (Z j).2.2]|none=>#[.none,.none])
   (λj l=>by
    obtain⟨q,L⟩:=I j l;simpa using (hZ j q L).1)
   (λj l=>zd (hTs j l).1)
 refine⟨_,_,_,_,_,_,_,λ_=>true,P,rfl,hW,?_,⟨?_,?_,λj l=>?_⟩,λb c=>?_,U t,?_,λhref hhref=>⟨?_,?_⟩,λa h5 tk5 gs hgb hag hsz5 hk5 W H=>?_⟩
 ·rintro i vals ⟨_,rfl⟩;split
  ·exact AU _ _ rfl
  ·exact AU _ _ rfl
 ·exact cy _ (hk3 _ _ (J _ C) (zN _ rfl)) rfl rfl
 ·exact wM _ _ (t _ _ ((R.above _ hp1).2:p.1∉aO) hxo) rfl
 ·refine eD (I j l) λq L=>?_
  skip
  simp only[L];obtain⟨_,o,ho,r⟩:=hZ j q L;exact av o (t _ _ (hTs j l).2 ho) r
 ·rcases zM.mp c with rfl|c
  ·exact M
  ·rcases zM.mp c with rfl|c
   ·exact Nat.lt_trans X M
   ·refine el12 (zv.mp c) λj l q2_=>?_;subst q2_;exact Nat.lt_trans (hTs j (jn.mp l)).1 M
 ·intro hc;have:cStatics=s.heap.objs.size:=zG.mp hc;exact absurd (this▸C) (by decide)
 ·intro G E' i va vb s₂ f _ _ _ _ _ _;exact zD ⟨rfl,s₂.heap,s₂.toks,rfl,λ_ _ e=>e⟩
 ·rintro G E' i va vb s₂ f hA' ⟨hi,g⟩ _ hns hma hmb hkeep;refine eD (I i hi) λq L=>?_
  replace g:=L▸g
  obtain⟨rfl,rfl⟩:va=.str q.1 (Z i).2.1/\vb=.str q.2 (Z i).2.2:=by
   have:=congrArg Array.toList g;simpa using this
  have nk:∀{a:Addr}{D:Str->Option Value},a<296->a∉aO->H0.Ns a D->s₂.heap.Ns a D:=λ{a D} ha c B=>gB (nsk c B) λo e=>
   hkeep a (jn.mpr (yB e)) (λh=>by have e2:a=s.heap.objs.size:=zG.mp h;exact absurd C (e2▸(Nat.not_le.mpr ha))) o (hhref _ _ e)
  refine helt G E' i q.1 q.2 _ _ s₂ f _ hA' L ⟨u,rfl,eo.glob,rfl⟩ hns hma hmb (λD h=>nk (by decide) (by decide) h) (λmb h=>nk (by decide) (by decide) h)
 ·have kp5:∀b o,b∉aO->s.heap.get? b=some o->h5.get? b=some o:=λb o c e=>hk5 b o (t b o c e);obtain⟨R5,x5⟩:=R.tabled (s':={s with gens:=s.gens.push gs,toks:=tk5,heap:=h5}) kp5 (tab3.but λb _ ob e=>hk5 b ob e) (R.gens.push hgb) rfl;have hag':h3.objs.size<a:=hag;have e:(passing (λ_=>true) xs.toArray.size 0)=yS ps.length:=by rw[qT];congr 1
  rw[e,js]at W;have W':=FV (P':=P) W λj v N=>el12 N λi hi hp=>by
   have:j<(yS ps.length).length:=(zh.mp hi).1;have e2:(yS ps.length)[j]?=some j:=by simp only[js]at this;simp[this]
   replace hi:=e2.symm.trans hi;refine(zE hi)▸?_
   exact hp
  refine hQ a _ ⟨R5,x5,kp5,_,_,_,_,W',H,(λi s' st=>st.1.typeIs),zj,?_,?_⟩
  ·intro b c;show b<h5.objs.size
   rw[hsz5];rcases zM.mp c with rfl|c
   ·exact zq _
   ·rcases zM.mp c with rfl|c
    ·exact yL hag
    ·exact yL (Nat.lt_trans (jn.mp c) hag)
  ·intro b c;rcases zM.mp c with rfl|c
   ·exact zg M
   ·exact(zG.mp c)▸(zY _)
end
theorem wC(a b:Value):argsOk "sum" ⟨[a,b],[]⟩:=by unfold argsOk;kernel_rfl
section
variable {F:Fs}{n m:Nat}{sc:Scope}
noncomputable def ik(a:Int)(val:Nat->Int):Nat->Int|0=>a|j+1=>val j
theorem dw(a:Int)(val:Nat->Int):∀n,preSum (ik a val) (n+1)=a+preSum val n
 | 0=>by refine(?_:0+a=a+0);simp +arith
 | n+1=>by
  refine(?_:preSum (ik a val) (n+1)+val n=a+(preSum val n+val n));rw[dw a val n];simp +arith
theorem xq:∀{A:Around}{s:Shared}{a:Addr}{c:Int}{k:Tok}{p q:List Addr}{G:Array GenState->Array GenState->Prop}{n:Nat}{P:Nat->Value->Prop}{St:Nat->Shared->Prop}{val:Nat->Int}{E:Value->Shared->Prop}{Q:Value->Shared->Prop}(W:WalksS pw w A.in1 a p q G n P St)(d:St 0 s)(r:∀b∈p,b<s.heap.objs.size)(f:∀i v,P i v->∃t,v=.int (val i) t)(l:InLong c)(g:∀j,j<n->InLong (val j)/\InLong (c+preSum val (j+1)))(y:∀s' u,Moved q G s s'->Q (.int (c+preSum val n) u) s'),wpAny (model pw w) A (call (.builtin "sum") [.ref a,.int c k]) Q E s:=by
 exists ce14_,A,s,a,c,k,p,q,G,n,P,St,val,E,Q;intros;refine call_function_tree PySem.F.kind_sum PySem.F.plain_sum PySem.F.entry_sum (wC _ _) ?_;dsimp only[Builtin.«sum»];dsimp only[zL,yt];rw[if_neg (by decide)];refine zA (zr (show ur "sum" ["start"] 0 ⟨[.int c k],[]⟩=pure [some (.int c k)]from rfl) ?_);refine zA (W.self 0 _ _ _ d ?_);have z:(decide (-(2 ^ 63)<=c)&&decide (c<2 ^ 63))=true:=by
  simp only[za];exact⟨decide_eq_true l.1,decide_eq_true l.2⟩
 dsimp only;split
 case isFalse hneg=>exact absurd z hneg
 refine zA (jw (zA (wpAny_mkInt (zA (zD ?_)))));dsimp only[yf,jJ];refine zA (zA (zA (uy (T:="int") (b:=false) (typeIs_int _ _ _) PySem.sub_int_str ?_)));dsimp only[yK,if_false];refine zD (zA (zA (uy (T:="int") (b:=false) (typeIs_int _ _ _) PySem.sub_int_bytes ?_)));dsimp only[yK,if_false];refine zD (zA (zA (uy (T:="int") (b:=false) (typeIs_int _ _ _) PySem.sub_int_bytearray ?_)));dsimp only[yK,if_false];refine zD (zD ?_);refine zA (jH ?_);have B:=rE W;have h:s.toks<=s.toks+1:=yq _;refine zD ⟨plainId_quiet PySem.F.plain_sum_loop _,codeAny_sum_loopS B (ik c val) (λi v hp=>?_) (λj C=>?_) s.heap.objs.size (λx=>yu _ (r _ x)) n 1 _ s.toks 0 (Nat.add_succ_sub_one ..) (uc _)
  (W.frame 0 s _ _ d h λb _ o e=>zJ _ e) ?_ λs' u x=>?_⟩
 ·cases i with
  | zero=>exact hp.elim
  | succ i=>exact f i v hp
 ·rw[dw];cases j with
  | zero=>exact⟨l,by show InLong (c+0);rw[Int.add_zero];exact l⟩
  | succ j=>exact g j (Nat.le_of_lt_succ C)
 ·have:preSum (ik c val) 1=c:=by rw[dw];exact Int.add_zero _
  exact this.symm▸(zN _ rfl)
 ·refine(?_:Q _ s');rw[dw];exact y s' u (x.drop_new h)
end
section
variable {F:Fs}{n m:Nat}{sc:Scope}
theorem Ak(k:aL H0 K){s:Shared}(R:Rep H0 ρ hp s){p:Addr×Addr}(o:Own H0 s ρ p C fs ox od){x:Str}{v:V}(b:x∈fldNames)(c:fs.lookup x=some v)
 {Q:Value->Shared->Prop} (h:∀y,VR s.heap ρ v y->Q y {s with toks:=s.toks+1}):wpAny (model pw w) A (getAttr (.ref p.1) x true) Q noE s:=by
 refine lB o.rep λj d e f _=>?_;refine el12 (f x v c) λy g r=>?_;refine cu (k.dict C o.mem) λl i a _=>?_;refine lb (k.here R) o.inst (k.ga C o.mem) (k.gat C o.mem) ?_ r.handed (h y r);unfold findObj;rw[i,zp,k.fld C o.mem x b,zp];rw[zp];unfold PySem.W.ownOf;rw[a,if_pos rfl];dsimp only;rw[fX d e.ns,g];rfl
theorem qx{E:Value->Shared->Prop}{s:Shared}(b:aN cenv gsc)(e:bx gsc (nm "len")=true){x:Str}(f:ap gsc x=true){g:Str->Option Value}(k:s.heap.Ns cenv.locals g){a:Str}(l:g x=some (.str a t))
 {i j:Str->Option Value} (o:s.heap.Ns mainGlobals i) (p:i (nm "len")=none) (q:s.heap.Ns builtinsNs j) (c:j (nm "len")=some (.builtin "len")) (u:a.length<=1000) {Q:Value->Shared->Prop}
 (h:∀r d,Q (.int a.length r) {s with toks:=d}):wpAny (model pw w) A (eval (.Call (.Name (nm "len") np) [.Name x xp] [] pos) cenv) Q E s:=by
 refine jf (uv b.kind (by unfold Env.kindOf;rw[b.names];exact(cA e).1) (loadGlobal_builtin (by rw[b.glob];exact o) p (by rw[b.blt];exact q) c ?_) (cA e).2);refine uE rfl (evalArgs_plain (uz (wpAny_Name (jU b.kind (b.loc (dE f).1) k l (spliced_nil ?_)) (dE f).2)));exact P.len_str (by lia) (h _ _)
theorem wX:∀(ps:List (Str×Str))(i:Int),ps.foldl (λn p=>n+((p.1.length:Int)+(p.2.length:Int))) i=i+preSum (λj=>match ps[j]? with|some p=>(p.1.length:Int)+(p.2.length:Int)|none=>0) ps.length:=by
 intro ps;have a:∀(f:Nat->Int)(n:Nat),preSum f (n+1)=f 0+preSum (λj=>f (j+1)) n:=by
  intro f n
  induction n with
  | zero=>refine(?_:0+f 0=f 0+0);simp +arith
  | succ n b=>
   refine(?_:preSum f (n+1)+f (n+1)=f 0+(preSum (λj=>f (j+1)) n+f (n+1)));simp only[b];simp +arith
 induction ps with
 | nil=>intro i;refine(?_:i=i+0);simp +arith
 | cons p ps b=>
  intro i;refine uL.trans ?_;simp only[b,zL,a];simp only[List.getElem?_cons_zero,List.getElem?_cons_succ];simp +arith
theorem nB{f:Nat->Int}{c:Int}:∀{n:Nat},(∀j,j<n->0<=f j/\f j<=c)->0<=preSum f n/\preSum f n<=c*n
 | 0,_=>⟨Int.le_refl _,by show(0:Int)<=c*0;simp +arith⟩
 | n+1,h=>by
  obtain⟨a,e⟩:=nB (n:=n) λj b=>h j (yL b);obtain⟨d,g⟩:=h n (zq _);refine⟨by show 0<=preSum f n+f n;exact ik2 a d,?_⟩;show preSum f n+f n<=c*((n+1:Nat):Int)
  have:c*((n+1:Nat):Int)=c*n+c:=by push_cast;simp only[Int.mul_add,Int.mul_one]
  lia
theorem BG:∀{A:Around}{s:Shared}{ρ:Rho}{hp:List O}{as:List V}{ys:List Value}{v:V}{D:List O}(fo:kn H0)(T:Top H0)(k:aL H0 K)(sp:iQ H0 K)(rm:cj A 0)(R:Rep H0 ρ hp s)(al:Al (VR s.heap ρ) as ys)(he:gV 24 as hp=some (some (v,D))),
 codeAny (model pw w) A (.call (.ref (ae 24)) ⟨ys,[]⟩) (λr s'=>∃y,r=.ok (.ret y)/\aC H0 ρ v D s y s') s:=by
 exists bZ,A,s,ρ,hp,as,ys,v,D;intros;refine sp24E (zE (he:some (sp24 as hp)=_)) λkk fs vs ps i0 ea hk hps hi0 h ev es=>?_;clear he;subst ev es;obtain⟨hsm,hnn,hlen,u⟩:=h;refine b0 ea al λy r=>vR rfl r λp l=>?_;refine oY fo T (f:=24) (by decide) rfl rm R (.cons (.ref l) .nil) (ds:=[]) (loc:=[(nm "self",.ref kk)]) rfl (by rfl) λo fd s1 ho hd M E N hpar hsk Q lr=>?_;have S:aN (callEnv fd s.heap.objs.size (ae 24)) fd.scope:=⟨by refine(?_:fd.scope.kind=_);exact congrArg _ M,rfl,E,N⟩;simp only[M]at S;refine bY (sp.gen (24,166) (zj)) λo' fd' U X hcd=>?_;rw[ho]at U;cases U;rw[hd]at X;cases X;refine wO T.glob λmg hn _ _ _ _ _ c=>?_;refine BQ (_root_.id T.blt) λmb H b1 _ _ b4 _=>?_;refine jS (uT (um ?_));refine jf (fE S rfl Q hn (c _ (by decide)) H b4 ?_);refine uE rfl (evalArgs_plain (uz ?_));refine sU (A:=A.deeper (callEnv fd s.heap.objs.size (ae 24))) T k sp (cP:=(166,162)) (zj) rm.handled (by have:=rm.depth;refine(?_:A.depth+1<_);unfold recursionLimit;exact fk1 this) S hcd Q lr (me:=nm "self") rfl (by rfl) l hk hps rfl (λ_=>rfl) (by decide) (by rfl) (by rfl) (by rfl) (by decide) rfl
  (P:=λj y=>∃t,y=.int (match ps[j]? with|some p=>(p.1.length:Int)+(p.2.length:Int)|none=>0) t) (λA' E' j a b ta tb s₂ m₂ cenv hA' d Y Z hma hmb hmg z=>?_) λg I G=>?_
 ·obtain⟨ha,h⟩:=u (a,b) (yT d);refine wpAny_BinOp (qx Y rfl (by rfl) Z hma (hmg _ hn) (c _ (by decide)) (z _ H) b1 ha λtk tk'=>?_);refine qx (s:={s₂ with toks:=tk'}) Y rfl (by rfl) Z hmb (hmg _ hn) (c _ (by decide)) (z _ H) b1 h λtk2 tk3=>?_;refine add_int ?_;exact⟨by rw[d];exact⟨_,rfl⟩,s₂.heap,_,rfl,λ_ _ e=>e⟩
 ·have lr5:=lr.step G.step Q T.size;obtain⟨_,_,mm5,hn5,J⟩:=_root_.id lr5;refine el12 (J (nm "self") _ (by rfl)) λy5 e5 r5=>?_;refine el12 r5 λq L B=>?_;subst L;rw[l]at B;cases B;refine dk (cq G.rep l hk) λox od own=>?_;refine uz (Ed rfl (wpAny_Name (jU S.kind (S.loc rfl) hn5 e5 ?_) rfl));refine Ak k G.rep own (x:=nm "_initial_size") (by decide) hi0 λy r6=>spliced_nil ?_;refine eD r6 λt6 L=>?_;subst L;refine el46 G.walk λfp wr gn St W hst hT ha hfp hwr=>?_;have hi:=cB.mp hsm;have C:∀j,j<ps.length->0<=(match ps[j]? with|some p=>(p.1.length:Int)+(p.2.length:Int)|none=>0)/\(match ps[j]? with|some p=>(p.1.length:Int)+(p.2.length:Int)|none=>0)<=2000:=λj d=>by
   have e:ps[j]?=some ps[j]:=zP d;refine e▸?_;refine aA (u _ (yZ d)) λh1 h2=>?_;refine(?_:(0:Int)<=((ps[j].1.length:Nat):Int)+((ps[j].2.length:Nat):Int)/\((ps[j].1.length:Nat):Int)+((ps[j].2.length:Nat):Int)<=2000);constructor<;>lia
  have hpre:∀j,j<=ps.length->0<=preSum (λj=>match ps[j]? with|some p=>(p.1.length:Int)+(p.2.length:Int)|none=>0) j/\preSum (λj=>match ps[j]? with|some p=>(p.1.length:Int)+(p.2.length:Int)|none=>0) j<=2000*j:=λj d=>nB λi hi=>C i (zR hi d);have hlidI:bk<=1000000000000:=by decide
  refine xq (s:={I with toks:=I.toks+1}) W.in4_1 (W.frame 0 I I.heap _ hst (yq _) λ_ _ _ e=>e) hfp (λi v hv=>hv) (by unfold InLong;exact⟨jg (by decide) hnn,Int.lt_of_le_of_lt hi.2 (by decide)⟩) (λj d=>?_) λs7 t7 hm=>?_
  ·refine aA (C j d) λh1 h2=>?_;obtain⟨h3,h4⟩:=hpre (j+1) d;have:(((j+1:Nat):Int))<=1000:=by lia
   generalize (match ps[j]? with|some p=>(p.1.length:Int)+(p.2.length:Int)|none=>0)=z1 at h1 h2⊢;generalize preSum _ (j+1)=z2 at h3 h4⊢
   skip
   refine⟨⟨?_,?_⟩,?_,?_⟩<;>lia
  ·have hbig:296<=s1.heap.objs.size:=zB T.size Q.low;have kp:∀b o,b<s1.heap.objs.size->I.heap.get? b=some o->s7.heap.get? b=some o:=λb o h e=>hm.heap b o (λhw=>yu _ (zR h (hwr b hw))) e;refine aA (Q.tabled (s':=s7) (λb o h e=>kp b o (yB e) (G.keep b o h e)) (G.rep.tab.but λb h o e=>kp b o (zR (io h) hbig) e) (AllBare.movedS (s:={I with toks:=I.toks+1}) G.rep.gens hm) (hm.os.trans G.step.os)) λR7 x7=>?_;refine cy ρ x7.wide R7 ?_;rw[wX];exact .int _ _
end
theorem iR:∀(l:List Str),Txt.join (nm "") l=toS (l.flatMap λx=>x.cps.toList):=by
 intro l;refine(show Txt.join (nm "") l=Str.join (nm "") l from StrLaws.glued_eq_join _ _).trans ?_;have e:nm ""=⟨#[]⟩:=rfl;refine e▸?_
 induction l with
 | nil=>rfl
 | cons a r b=>
  simp only[PyProof.Rows.join_nil_cons,b,zm];have:∀(x y:Str),x++y=⟨x.cps++y.cps⟩:=λ_ _=>rfl;rw[this];unfold toS;congr 1;rw[<-List.append_toArray]
theorem wj(ps:List (Str×Str)):Txt.join (nm "") ((yS ps.length).map λj=>match ps[j]? with|some p=>Txt.join (nm "") [p.1,p.2]|none=>Str.empty)=toS (ps.flatMap λp=>p.1.cps.toList++p.2.cps.toList):=by
 have e:((yS ps.length).map λj=>match ps[j]? with|some p=>Txt.join (nm "") [p.1,p.2]|none=>Str.empty)=ps.map λp=>Txt.join (nm "") [p.1,p.2]:=by
  apply uq;intro j;refine(Classical.em (j<ps.length)).elim (λa=>?_) λa=>?_
  ·simp[zP a,a]
  ·simp[vJ.mp a]
 rw[e,iR];congr 1;rw[List.flatMap_map];congr 1;funext p
 simp only[iR];simp[toS]
section
variable {F:Fs}{n m:Nat}{sc:Scope}
theorem AF(fo:kn H0)(T:Top H0)(k:aL H0 K)(sp:iQ H0 K){s:Shared}{ys:List Value}{v:V}(rm:cj A 0)(R:Rep H0 ρ hp s)(al:Al (VR s.heap ρ) as ys)(he:gV 25 as hp=some (some (v,hp'))):
 codeAny (model pw w) A (.call (.ref (ae 25)) ⟨ys,[]⟩) (λr s'=>∃y,r=.ok (.ret y)/\aC H0 ρ v hp' s y s') s:=by
 refine sp25E (zE (show some (sp25 as hp)=_ from he)) λkk fs vs ps ea hk hps i ev es=>?_;clear he;subst ev es;obtain⟨H,z⟩:=i;refine b0 ea al λy r=>vR rfl r λp I=>?_;refine oY fo T (f:=25) (by decide) rfl rm R (.cons (.ref I) .nil) (ds:=[]) (loc:=[(nm "self",.ref kk)]) rfl (by rfl) λo fd s1 ho hd J C L hpar hsk R1 lr=>?_;have eo:aN (callEnv fd s.heap.objs.size (ae 25)) fd.scope:=⟨by show fd.scope.kind=_;rw[J],rfl,C,L⟩;rw[J]at eo;obtain⟨o',fd',M,N,hcd⟩:=sp.gen (25,173) (by simp);rw[ho]at M;cases M;rw[hd]at N;cases N;obtain⟨mg,hn,_,_,_,_,q,hnone⟩:=T.glob;obtain⟨te,O⟩:=q (nm "EMPTYSTRING",nm "") (by simp[constNames]);refine jS (uT (um ?_));refine Ac rfl rfl rfl (by decide) (eE eo rfl R1 hn O (GM.join ?_));refine uE rfl (evalArgs_plain (uz ?_));refine sU (A:=A.deeper (callEnv fd s.heap.objs.size (ae 25))) T k sp (cP:=(173,169)) (by simp) rm.handled (by have:=rm.depth;show A.depth+1<_;unfold recursionLimit;exact fk1 this) eo hcd R1 lr (me:=nm "self") rfl (by rfl) I hk hps rfl (λ_=>rfl) (by decide) (by rfl) (by rfl) (by rfl) (by decide) rfl
  (P:=λj y=>∃t,y=.str (match ps[j]? with|some p=>Txt.join (nm "") [p.1,p.2]|none=>Str.empty) t) (λA' E' j a b ta tb s₂ m₂ cenv hA' d c Q hma hmb hmg hmb2=>?_) λg s5 G=>spliced_nil ?_
 ·obtain⟨ha,i⟩:=z (a,b) (yT d);refine zQ (E:=noE) (Ac rfl rfl rfl (by decide) (uv c.kind (by unfold Env.kindOf;rw[c.names];rfl) (loadGlobal_global (by rw[c.glob];exact hmg _ hn) O (GM.join ?_)) rfl)) (λ_ _ h=>h) λ_ _ e=>e.elim;refine uE rfl (evalArgs_plain (uz (wpAny_Tuple (k:=0) ?_)));refine uz (wpAny_Name (jU c.kind (c.loc rfl) Q hma ?_) rfl);refine uz (wpAny_Name (jU c.kind (c.loc rfl) Q hmb (spliced_nil ⟨by show 2<=sizeLine;decide,spliced_nil ?_⟩)) rfl);refine join_tuple (D:=s₂.heap.objs.size) (items:=#[.str a ta,.str b tb]) (ys:=[a,b]) ⟨_,zN _ rfl,rfl,_,rfl⟩ (.cons a ta (.cons b tb .nil)) ?_ λt' k'=>⟨by rw[d];exact⟨_,rfl⟩,_,_,rfl,λb o e=>zJ _ e⟩;have:(nm "").length=0:=rfl;dsimp only;rw[this];dsimp only at ha i;exact fk2 ha i
 ·obtain⟨fp,wr,gn,St,W,hst,hT,ha,hfp,hwr⟩:=G.walk;refine SC.joinGen W.in4_2 hT hst hfp ha (λj v hv=>let⟨u,e⟩:=hv;⟨_,u,e⟩) (λs7 S hm B=>?_) (zB H (by decide));have U:S.length=ps.length:=by simpa[strValues] using B.1
  have hl:S.map (·.1)=(yS ps.length).map (λj=>match ps[j]? with|some p=>Txt.join (nm "") [p.1,p.2]|none=>Str.empty):=by
   apply uq;intro j;by_cases d:j<ps.length
   ·have X:j<S.length:=U▸d;obtain⟨u,hv⟩:=B.2 j (.str S[j].1 S[j].2) (by simp[strValues,zP X]);injection hv with Y _
    rw[jt,jt,zP X,List.getElem?_range d];simp only[jO,Option.some.injEq];exact Y
   ·rw[yr (by simpa[U] using yU d),yr (by simpa using yU d)]
  rw[hl];refine⟨joinOk_of ?_,λt' tk=>?_⟩
  ·have:(nm "").length=0:=rfl;rw[this,Nat.mul_zero,Nat.add_zero];have hs:∀(l:List Str),(∀x∈l,x.length<=2000)->(l.map (·.length)).sum<=2000*l.length:=by
    intro l
    induction l with
    | nil=>intro _;simp
    | cons a r ih=>
     intro h;have Y:=h a (by simp);have h2:=ih λx hx=>h x (by simp[hx]);simp only[zV,ji,zL];exact fk2 Y h2
   refine zB (hs _ λx hx=>?_) ?_
   ·obtain⟨j,d,rfl⟩:=zv.mp hx;have d:=jn.mp d;rw[zP d];obtain⟨Y,h2⟩:=z _ (yZ d);show(Txt.join (nm "") [ps[j].1,ps[j].2]).length<=2000
    rw[iR];show((List.flatMap _ _).toArray).size<=2000
    have e1:ps[j].1.length=ps[j].1.cps.toList.length:=by simp[Str.length]
    have e2:ps[j].2.length=ps[j].2.cps.toList.length:=by simp[Str.length]
    simp only[zm,List.flatMap_nil,zo,ze,zF];exact jY Y h2
   ·simp only[zC,js];lia
  ·have Z:296<=s1.heap.objs.size:=zB T.size R1.low;have kp:∀b o,b<s1.heap.objs.size->s5.heap.get? b=some o->s7.heap.get? b=some o:=λb o i e=>hm.heap b o (λhw=>yu _ (zR i (hwr b hw))) e;obtain⟨R7,x7⟩:=R1.tabled (s':={s7 with toks:=tk}) (λb o i e=>kp b o (yB e) (G.keep b o i e)) (G.rep.tab.but λb i o e=>kp b o (zR (io i) Z) e) (AllBare.movedS (s':=s7) G.rep.gens hm) (hm.os.trans G.step.os);refine⟨ρ,x7.wide,R7,?_⟩;rw[wj];exact .str _ _
end
end Mine
namespace Mine
open PySem PySem.Sre PySem.Sre.M
noncomputable def mH(c:Nat):Bool:=c==32||c==9
section
variable (text:Array Nat) (s:Nat) (must outer:Bool) (st0:Nat) (marks:Array (Option Nat)) (w:Nat) (seen:Seen)
noncomputable def mC:M:=
 {code:=code0,text,lim:=text.size,start:=s,lastStart:=st0,mustAdvance:=must,pc:=5,pos:=s,handed:=s,outermost:=outer,marks,frames:=[{wait:=.nextStart,pc:=5,pos:=s,outermost:=outer}],weight:=w,seen}
noncomputable def sY:M:={mC text s must outer st0 (marks.setIfInBounds 0 (some s)) w seen with lastmark:=0,pc:=7}
noncomputable def BE(n:Nat):M:=
 {mC text s must outer st0 marks (w+1) seen with lastmark:=0,pc:=19,pos:=s+n,handed:=s+n,frames:=[{wait:=.giveBack,pc:=7,pos:=s+n,outermost:=outer,count:=n,kept:={lastmark:=0}},{wait:=.nextStart,pc:=5,pos:=s,outermost:=outer}]}
noncomputable def Bm(n:Nat):M:={BE text s must outer st0 (marks.setIfInBounds 1 (some (s+n))) w seen n with lastmark:=1,lastindex:=1,pc:=21}
noncomputable def nQ:M:={sY text s must outer st0 marks w seen with answer:=some false}
theorem lq:(mC text s must outer st0 marks w seen).step=sY text s must outer st0 marks w (seen.add 17):=rfl
theorem sr(n:Nat):(BE text s must outer st0 marks w seen n).step=Bm text s must outer st0 marks w (seen.add 17) n:=by kernel_rfl
theorem Bo(n:Nat)(a:0<n):(Bm text s must outer st0 marks w seen n).step={Bm text s must outer st0 marks w (seen.add 1) n with handed:=s+n,answer:=some true}:=by
 have e:((must&&(s+n==s))=false):=by
  rw[Bool.and_eq_false_iff];right;rw[beq_eq_false_iff_ne];exact yF (Nat.add_le_add_left a _)
 show(if(outer&&(false&&_||must&&(s+n==s)))=true then _ else _)=_
 rw[e,vM,Bool.false_or,uH];rfl
theorem xr(n:Nat):({Bm text s must outer st0 marks w seen n with handed:=s+n,answer:=some true}:M).step=
 {Bm text s must outer st0 marks w seen n with handed:=s+n,answer:=some true,frames:=[{wait:=.nextStart,pc:=5,pos:=s,outermost:=outer}],weight:=w,pc:=7,pos:=s+n,outermost:=outer}:=rfl
end
theorem qi:∀(c:Nat)(b:Seen),∃a,accepts code0 11 c b=.ok (mH c,a):=by
 exists ce2_,c,b;unfold accepts;show ∃a,inSet code0 c 22 13 true b=_
 show ∃a,(if(c==32)=true then _ else _)=_
 by_cases h:(c==32)=true
 ·rw[if_pos h];exact⟨_,by unfold mH;rw[h];rfl⟩
 ·rw[if_neg h];show ∃a,(if(c==9)=true then _ else _)=_
  by_cases d:(c==9)=true
  ·rw[if_pos d];exact⟨_,by unfold mH;rw[d,Bool.or_true]⟩
  ·rw[if_neg d];refine⟨((b.add 16).add 16).add 0,?_⟩;unfold mH;rw[(Bool.not_eq_true _).mp h,(Bool.not_eq_true _).mp d];rfl
noncomputable def cL(text:Array Nat):Nat->Nat->Nat
 | 0,_=>0
 | n+1,p=>if mH (text.getD p 0)then cL text n (p+1)+1 else 0
theorem lT(text:Array Nat):∀(n p f:Nat)(a:Seen),∃b,Sre.run code0 text 11 n p f a=.ok (f+cL text n p,b)
 | 0,p,f,a=>⟨a,rfl⟩
 | n+1,p,f,a=>by
  obtain⟨c,e⟩:=qi (text.getD p 0) a;dsimp only[Sre.run];rw[e];show ∃b,(if mH (text.getD p 0)=true then _ else _)=_
  dsimp only[cL];by_cases h:mH (text.getD p 0)=true
  ·rw[if_pos h,if_pos h];obtain⟨d,g⟩:=lT text n (p+1) (f+1) c;exact⟨d,by rw[g];congr 2;exact Nat.add_right_comm ..⟩
  ·rw[if_neg h,if_neg h];exact⟨c,rfl⟩
section
variable (text:Array Nat) (s:Nat) (must outer:Bool) (marks:Array (Option Nat)) (seen:Seen)
theorem mO:∀(h:s=text.size),(sY text s must outer text.size marks 1 seen).step=nQ text s must outer text.size marks 1 (seen.add 24):=by
 revert text s must outer marks seen;exists dI,text,s,must,outer,marks,seen;intro h;subst h;show(if((1:Nat):Int)>((text.size:Int)-(text.size:Int))then _ else _)=_
 rw[if_pos (by simp +arith)];rfl
theorem vq:∀(h:s<text.size)(n:Nat)(e:n=cL text (min 4294967295 (((text.size:Int)-(s:Int)).toNat)) s),
 ∃a,(sY text s must outer text.size marks 1 seen).step=if n=0 then nQ text s must outer text.size marks 1 a else BE text s must outer text.size (marks.setIfInBounds 0 (some s)) 1 a n:=by
 revert text s must outer marks seen;exists dI,text,s,must,outer,marks,seen;intros;obtain⟨b,d⟩:=lT text (min 4294967295 (((text.size:Int)-(s:Int)).toNat)) s 0 ((seen.add 24).add 13);rw[ym,<-e]at d;refine⟨b,?_⟩;show(if((1:Nat):Int)>((text.size:Int)-(s:Int))then _ else _)=_
 rw[if_neg (by lia)];show(match Sre.run code0 text 11 (min 4294967295 (((text.size:Int)-(s:Int)).toNat)) s 0 ((seen.add 24).add 13)with|.error f=>_|.ok (n,seen)=>_)=_
 rw[d];show(if n<1 then _ else _)=_
 by_cases c:n=0
 ·rw[if_pos (by exact fk1 (zS c)),if_pos c];rfl
 ·rw[if_neg (Nat.not_lt_of_le (jQ c)),if_neg c];rfl
theorem oj(h:s<text.size):(nQ text s must outer text.size marks 1 seen).step=mC text (s+1) false false text.size (marks.setIfInBounds 0 (some s)) 1 seen:=by
 show(if s<text.size then _ else _)=_
 rw[if_pos h];rfl
theorem mI(h:s=text.size):(nQ text s must outer text.size marks 1 seen).step.outcome=none/\(nQ text s must outer text.size marks 1 seen).step.step.outcome=some .failed:=by
 have e:(nQ text s must outer text.size marks 1 seen).step=(if s<text.size then _ else _):=rfl;rw[e,if_neg (Nat.not_lt_of_le (eqg h))];exact⟨rfl,rfl⟩
end
noncomputable def dT(text:Array Nat):Nat->Nat->Option Nat
 | 0,_=>none
 | d+1,s=>if mH (text.getD s 0)then some s else dT text d (s+1)
noncomputable def dH(m:M)(k:Nat)(r:M):Prop:=∀j,runFor (k+j) m=runFor j r
theorem dH.one{m r:M}(h:m.outcome.isSome=false)(e:m.step=r):dH m 1 r:=λj=>by
 rw[jP 1 j];show(if m.outcome.isSome then m else runFor j m.step)=_
 rw[if_neg (by rw[h];decide),e]
theorem dH.trans{a b c:M}{k l:Nat}(x:dH a k b)(y:dH b l c):dH a (k+l) c:=λj=>by
 rw[jk,x,y]
noncomputable def tY(text:Array Nat)(r:Option (Nat×Nat))(m:M):Prop:=match r with
 | none=>m.outcome=some .failed
 | some (p,n)=>m.outcome=some .matched/\m.start=p/\m.handed=p+n/\m.marks=#[some p,some (p+n)]/\m.lastmark=1
noncomputable def bv(text:Array Nat)(s:Nat):Option (Nat×Nat):=(dT text (text.size-s) s).map λp=>(p,cL text (min 4294967295 (((text.size:Int)-(p:Int)).toNat)) p)
theorem Ax(text:Array Nat):∀(d s:Nat)(i h:Bool)(c:Array (Option Nat))(j:Seen),d+s=text.size->c.size=2->
 ∃k m,k<=3*d+7/\dH (mC text s i h text.size c 1 j) k m/\tY text (bv text s) m
 | 0,s,i,h,c,j,hd,hm=>by
  have r:s=text.size:=by lia
  obtain⟨q,w⟩:=mI text s i h c ((j.add 17).add 24) r;refine⟨1+1+1+1,_,zH ..,(((dH.one rfl (lq ..)).trans (dH.one rfl (mO text s i h c (j.add 17) r))).trans (dH.one rfl rfl)).trans (dH.one (by rw[q];rfl) rfl),?_⟩;have:bv text s=none:=by unfold bv;rw[r,Nat.sub_self];rfl
  rw[this];exact w
 | d+1,s,i,h,c,j,hd,hm=>by
  have r:s<text.size:=fk1 (zS hd);obtain⟨o,q⟩:=vq text s i h c (j.add 17) r _ rfl;have e:text.size-s=d+1:=yE (fk2 (eqg hd) (@sb text.size s (fk1 (zS hd)))) (fk2 (zS hd) (sa text.size s));have v:=dH.one rfl (lq text s i h text.size c 1 j);have p:min 4294967295 (((text.size:Int)-(s:Int)).toNat)=(min 4294967295 (((text.size:Int)-(s:Int)).toNat)-1)+1:=by lia
  by_cases u:mH (text.getD s 0)=true
  ·have t:cL text (min 4294967295 (((text.size:Int)-(s:Int)).toNat)) s≠0:=by
    rw[p];unfold cL;rw[if_pos u];exact vY _
   rw[if_neg t]at q;have x:bv text s=some (s,cL text (min 4294967295 (((text.size:Int)-(s:Int)).toNat)) s):=by
    unfold bv;rw[e];dsimp only[dT];rw[if_pos u];rfl
   rw[x];generalize cL text (min 4294967295 (((text.size:Int)-(s:Int)).toNat)) s=n at t q;refine⟨1+1+1+1+1+1+1,_,zH ..,(((((v.trans (dH.one rfl q)).trans (dH.one rfl (sr ..))).trans (dH.one rfl (Bo _ _ _ _ _ _ _ _ n (jQ t)))).trans (dH.one rfl (xr ..))).trans (dH.one rfl rfl)).trans (dH.one rfl rfl),rfl,rfl,rfl,?_,rfl⟩;show(((c.setIfInBounds 0 (some s)).setIfInBounds 1 (some (s+n))))=_
   obtain⟨l⟩:=c
   match l,hm with
   | [a,b],_=>rfl
  ·have t:cL text (min 4294967295 (((text.size:Int)-(s:Int)).toNat)) s=0:=by
    rw[p];unfold cL;rw[if_neg u]
   rw[if_pos t]at q;obtain⟨k,m,y,g,f⟩:=Ax text d (s+1) false false (c.setIfInBounds 0 (some s)) o (yE (fk1 (zS hd)) (fk1 (eqg hd))) (by simp[hm]);refine⟨1+1+1+k,m,fk1 y,((v.trans (dH.one rfl q)).trans (dH.one rfl (oj text s i h c o r))).trans g,?_⟩;have:bv text s=bv text (s+1):=by
    unfold bv;rw[e,show text.size-(s+1)=d by exact yE (fk2 (eqg hd) (@sb text.size (s+1) (fk1 (zS hd)))) (fk2 (zS hd) (sa text.size (s+1)))]
    conv=>lhs;dsimp only[dT]
    rw[if_neg u]
   rw[this];exact f
end Mine
namespace Mine
open PySem PySem.Sre PySem.Sre.M PySem.Calls PyProof.Rows PySem.W PySem.Builtin.Re
theorem oC:∀(text:Array Nat)(pos:Nat)(a:Bool)(hp:pos<=text.size),∃k m,k<=3*text.size+7/\dH (forSearch code0 text 1 pos text.size a) k m/\tY text (bv text pos) m:=by
 exists ce3_,text,pos,a;intro hp;by_cases h:pos=text.size
 ·subst h;have e:forSearch code0 text 1 text.size text.size a=((if(decide (text.size>text.size)||decide (text.size-text.size<1))=true then _ else _):M):=rfl;rw[e,if_pos (by rw[Bool.or_eq_true];right;exact decide_eq_true (by simp +arith))];refine⟨1,_,uc _,dH.one rfl rfl,?_⟩;have:bv text text.size=none:=by unfold bv;rw[Nat.sub_self];rfl
  rw[this];rfl
 ·have e:forSearch code0 text 1 pos text.size a=((if(decide (pos>text.size)||decide (text.size-pos<1))=true then _ else _):M):=rfl;rw[e,if_neg (by rw[Bool.or_eq_true];intro q;rcases q with q|q<;>have:=of_decide_eq_true q<;>lia)];obtain⟨k,m,b,g,f⟩:=Ax text (text.size-pos) pos a true (Array.replicate 2 none) (({}:Sre.Seen).add 14) (Nat.sub_add_cancel hp) rfl;exact⟨k,m,fk4 b (yj text.size pos) (yj text.size pos) (yj text.size pos),g,f⟩
theorem dR{r:M}(h:r.outcome.isSome=true):∀j,runFor j r=r
 | 0=>rfl
 | j+1=>by show(if r.outcome.isSome then r else _)=r;rw[if_pos h]
theorem gK:∀(a b:Nat)(m:M),runFor (a+b) m=runFor b (runFor a m)
 | 0,b,m=>by rw[ym];rfl
 | a+1,b,m=>by
  rw[Nat.add_right_comm];show(if m.outcome.isSome then m else runFor (a+b) m.step)=runFor b (if m.outcome.isSome then m else runFor a m.step)
  by_cases h:m.outcome.isSome=true
  ·rw[if_pos h,if_pos h,dR h]
  ·rw[if_neg h,if_neg h,gK]
section
variable {MM:Model}{A:Around}{E:Value->Shared->Prop}{s:Shared}
theorem Eh:∀(turns:Nat){k:Nat}{m r:M}{Q:M->Shared->Prop},dH m k r->r.outcome.isSome=true->k<=4*turns->0<turns->Q r s->wpAny MM A (reDrive turns m) Q E s
 | 0,_,_,_,_,_,_,_,h,_=>absurd h (by decide)
 | turns+1,k,m,r,Q,g,hr,hk,_,hq=>by
  have b:runFor k m=r:=g 0;unfold reDrive;show wpAny _ _ (if(runFor 4 m).outcome.isSome=true then pure (runFor 4 m)else _) _ _ _
  by_cases h:(runFor 4 m).outcome.isSome=true
  ·rw[if_pos h];have e:runFor 4 m=r:=by
    by_cases a:k<=4
    ·have:=g (4-k);rw[show k+(4-k)=4 by exact Nat.add_sub_cancel' a]at this;rw[this,dR hr]
    ·have:=gK 4 (k-4) m;rw[show 4+(k-4)=k by exact yE (fk1 (@sb k 4 (fk1 (Nat.lt_of_not_le a)))) (fk1 (sa k 4)),b,dR h]at this;exact this.symm
   rw[e];exact zD hq
  ·rw[if_neg h];have a:¬k<=4:=λa=>by
    have:=g (4-k);rw[show k+(4-k)=4 by exact Nat.add_sub_cancel' a,dR hr]at this;rw[this]at h;exact h hr
   refine zA (jw ?_);refine Eh turns (k:=k-4) (λj=>?_) hr (fk2 hk (@sb k 4 (fk1 (Nat.lt_of_not_le a)))) (by lia) hq;have:=g j;rw[show k+j=4+(k-4+j) by exact yE (fk1 (sa k 4)) (fk1 (@sb k 4 (fk1 (Nat.lt_of_not_le a)))),gK]at this;exact this
theorem lR{d c:Type}{f:d->c->Sem (ForInStep c)}{b:c}{Q:c->Shared->Prop}(h:∀a (Q':ForInStep c->Shared->Prop),Q' (.yield b) s->wpAny MM A (f a b) Q' E s)(e:Q b s):∀(l:List d),wpAny MM A (forIn l b f) Q E s
 | []=>by rw[jJ];exact zD e
 | a::l=>by
  rw[yf];refine zA (h a _ ?_);exact lR h e l
set_option tactic.hygienic true in
theorem sv{t:ReTarget}{start:Nat}{must:Bool}{Q:Option M->Shared->Prop}(hc:t.code=code0)(hg:t.groups=1)(hl:t.lim=t.text.size)(hs:start<=t.text.size)(hz:t.text.size<=1000000)
 (h:∀m:Option M,(match bv t.text start with|none=>m=none|some (p,n)=>∃m',m=some m'/\m'.start=p/\m'.handed=p+n/\m'.marks=#[some p,some (p+n)]/\m'.lastmark=1)->Q m s):
 wpAny MM A (reNextFound t start must) Q E s:=by
 unfold reNextFound reRunToEnd;rw[hc,hg,hl];obtain⟨k,m,hk,g,f⟩:=oC t.text start must hs;have hsome:m.outcome.isSome=true:=by
  unfold tY at f;split at f
  ·rw[f];rfl
  ·rw[f.1];rfl
 refine zA (Eh _ g hsome (by lia) (by decide) ?_);refine zA (lR (λa Q' q=>?_) ?_ _)
 ·split
  ·exact zA (jw (zD q))
  ·exact zD q
 ·unfold tY at f;split at f
  ·rename_i e;rw[f];exact zD (h none (by rw[e]))
  ·rename_i p n e;obtain⟨f1,f2,f3,f4,f5⟩:=f;rw[f1];exact zD (h (some m) (by rw[e];exact⟨m,rfl,f2,f3,f4,f5⟩))
end
noncomputable def sl(text:Array Nat)(b e:Nat):List Nat:=(text.toList.take e).drop b
noncomputable def gG(text:Array Nat):Nat->Nat->List (List Nat)
 | 0,p=>[sl text p text.size]
 | f+1,p=>match bv text p with
  | none=>[sl text p text.size]
  | some (q,n)=>sl text p q::sl text q (q+n)::gG text f (q+n)
theorem pU(c:Nat):mH c=isW c:=rfl
theorem bB(text:Array Nat)(i:Nat)(h:i<text.size):text.toList.drop i=text.getD i 0::text.toList.drop (i+1):=by
 refine(vA (h)).trans ?_;congr 1;simp[Array.getD,h]
theorem i5(text:Array Nat):∀(n p:Nat),p+n<=text.size->cL text n p=(((text.toList.drop p).take n).takeWhile isW).length
 | 0,p,_=>by simp[cL]
 | n+1,p,h=>by
  dsimp only[cL];rw[bB text p (fk1 h),List.take_succ_cons,jz,pU];by_cases a:isW (text.getD p 0)=true
  ·rw[if_pos a,if_pos a,zL,i5 text n (p+1) (fk1 h)]
  ·rw[if_neg a,if_neg a];rfl
theorem g1(text:Array Nat):∀(d p:Nat),p+d=text.size->(match dT text d p with
 | none=>(text.toList.drop p).dropWhile (!isW ·)=[]
 | some q=>p<=q/\q<text.size/\(text.toList.drop p).dropWhile (!isW ·)=text.toList.drop q/\(text.toList.drop p).takeWhile (!isW ·)=sl text p q/\isW (text.getD q 0)=true)
 | 0,p,h=>by
  have:text.toList.drop p=[]:=jq.mpr (by simp;exact eqg h);refine(?_:(text.toList.drop p).dropWhile _=[]);exact congrArg _ this
 | d+1,p,h=>by
  dsimp only[dT];have hp:p<text.size:=fk1 (zS h);rw[pU];refine Decidable.byCases (λa:isW (text.getD p 0)=true=>?_) λa=>?_
  ·rw[if_pos a];refine in05 (zY _) hp ?_ ?_ a
   ·rw[bB text p hp,ja,a];rfl
   ·have e:sl text p p=[]:=jq.mpr (by simp;exact Nat.min_le_left ..);simp only[e,bB text p hp,jz,a];rfl
  ·rw[if_neg a];have c:=g1 text d (p+1) (yE (fk1 (zS h)) (fk1 (eqg h)));have b:isW (text.getD p 0)=false:=(Bool.not_eq_true _).mp a;cases q:dT text d (p+1)with
   | none=>
    replace c:=q▸c
    refine(?_:(text.toList.drop p).dropWhile _=[]);rw[bB text p hp,ja,b];exact c
   | some r=>
    simp only[q]at c;obtain⟨f,g,i,j,k⟩:=c;refine in05 (zg f) g ?_ ?_ k
    ·simp only[bB text p hp,ja,b];exact i
    ·rw[bB text p hp,jz,b]
     skip
     rw[j]
     delta sl
     have:p<(text.toList.take r).length:=by simp;lia
     simp only[vA this];congr 1;simp[Array.getD,hp]
theorem iW(text:Array Nat)(p:Nat)(hp:p<=text.size)(o:text.size<=1000000):match bv text p with
 | none=>(text.toList.drop p).dropWhile (!isW ·)=[]
 | some (q,n)=>p<=q/\0<n/\q+n<=text.size/\(text.toList.drop p).dropWhile (!isW ·)=text.toList.drop q/\q<text.size/\(text.toList.drop p).takeWhile (!isW ·)=sl text p q/\
  (text.toList.drop q).takeWhile isW=sl text q (q+n)/\(text.toList.drop q).dropWhile isW=text.toList.drop (q+n):=by
 have h:=g1 text (text.size-p) p (Nat.add_sub_cancel' hp)
 delta bv
 cases e:dT text (text.size-p) p with
 | none=>replace h:=e▸h;exact h
 | some q=>
  simp only[e]at h;obtain⟨g,d,i,j,k⟩:=h;refine(?_:_/\_);refine(by lia:min 4294967295 (((text.size:Int)-(q:Int)).toNat)=text.size-q)▸?_;have f:=i5 text (text.size-q) q (fk1 (@sb text.size q (zg d)));rw[(yX (by simp):(text.toList.drop q).take (text.size-q)=text.toList.drop q)]at f;refine f▸?_;have a:=List.takeWhile_prefix isW (l:=text.toList.drop q);have b:=a.length_le;simp only[yC,Array.length_toList]at b;have c:0<((text.toList.drop q).takeWhile isW).length:=by
   simp only[bB text q d,jz,k];simp
  refine⟨g,c,fk2 b (@sb text.size q (zg d)),i,d,j,?_,?_⟩
  ·delta sl
   simp only[List.drop_take];exact((show q+((text.toList.drop q).takeWhile isW).length-q=((text.toList.drop q).takeWhile isW).length by simp +arith).symm)▸(List.prefix_iff_eq_take.mp a)
  ·have:=jC (p:=isW) (l:=text.toList.drop q);have m:(text.toList.drop q).dropWhile isW=(text.toList.drop q).drop ((text.toList.drop q).takeWhile isW).length:=by
    conv=>rhs;arg 2;rw[<-this]
    simp only[List.drop_left]
   refine m.trans ?_;exact uV
theorem g0(text:Array Nat)(a:text.size<=1000000):∀(f p:Nat),p<=text.size->gG text f p=dU f (text.toList.drop p)
 | 0,p,hp=>by
  dsimp only[gG,dU,sl];rw[yX (by simp)]
 | f+1,p,hp=>by
  have h:=iW text p hp a;dsimp only[gG,dU];cases e:bv text p with
  | none=>
   replace h:=e▸h
   have h:(text.toList.drop p).dropWhile (!isW ·)=[]:=h;simp only[h];show[sl text p text.size]=[text.toList.drop p]
   unfold sl;rw[yX (by simp)]
  | some r=>
   obtain⟨q,n⟩:=r;rw[e]at h;obtain⟨l,m,c,d,g,i,j,k⟩:=h;refine d▸?_;have b:=bB text q g;simp only[b];show _=_::_::_
   simp only[<-b,i,j,k,<-g0 text a f (q+n) c]
section
variable {MM:Model}{A:Around}{E:Value->Shared->Prop}
noncomputable abbrev gI:=Array Value×Nat×Nat×Bool×Int×Bool
theorem mv{z:Type}{text:Array Nat}(K:text.size<=1000000){f:z->gI->Sem (ForInStep gI)}
 (L:∀(x:z)(b:gI)(s:Shared)(Q:ForInStep gI->Shared->Prop),b.2.2.2.2.2=true->Q (.yield b) s->wpAny MM A (f x b) Q E s)
 (M:∀(x:z)(u:Array Value)(p:Nat)(c:Bool)(n:Int)(s:Shared)(Q:ForInStep gI->Shared->Prop),p<=text.size->
  (match bv text p with|none=>Q (.yield (u,p,p,c,n,true)) s|some (q,k)=>∀C D T i,Q (.yield ((u.push (.str (toS (sl text p q)) C)).push (.str (toS (sl text q (q+k))) D),q+k,q+k,i,n+1,false)) {s with toks:=T})->
  wpAny MM A (f x (u,p,p,c,n,false)) Q E s):
 ∀(l:List z)(g p:Nat)(d:List Value)(v:List Str)(c:Bool)(n:Int)(s:Shared)(Q:gI->Shared->Prop),p<=text.size->text.size-p<g->g<=l.length->StrsAre d v->
  (∀j m w i G T,StrsAre j m->m++[toS (sl text w text.size)]=v++(gG text g p).map toS->w<=text.size->Q (j.toArray,w,w,i,G,true) {s with toks:=T})->
  wpAny MM A (forIn l (d.toArray,p,p,c,n,false) f) Q E s
 | [],g,p,d,v,c,n,s,Q,hp,hg,hl,hv,hQ=>by simp at hl;lia
 | a::l,0,p,d,v,c,n,s,Q,hp,hg,hl,hv,hQ=>by lia
 | a::l,g+1,p,d,v,c,n,s,Q,hp,hg,hl,hv,hQ=>by
  have B:∀(l:List z)(b:gI)(s:Shared),b.2.2.2.2.2=true->Q b s->wpAny MM A (forIn l b f) Q E s:=by
   intro l
   induction l with
   | nil=>intro b s _ q;simp only[jJ];exact zD q
   | cons x l H=>
    intro b s N q;rw[yf];exact zA (L x b s _ N (H b s N q))
  have sp:=iW text p hp K;rw[yf];refine zA (M a _ p c n s _ hp ?_);cases e:bv text p with
  | none=>
   refine B l _ s rfl ?_;refine hQ d v p c n s.toks hv ?_ hp;dsimp only[gG];refine e▸?_;rfl
  | some r=>
   obtain⟨q,k⟩:=r;simp only[e]at sp;obtain⟨S,F,O,_⟩:=sp;intro C D T i;refine(by simp:(d.toArray.push (.str (toS (sl text p q)) C)).push (.str (toS (sl text q (q+k))) D)=(d++[Value.str (toS (sl text p q)) C,Value.str (toS (sl text q (q+k))) D]).toArray)▸?_;refine mv K L M l g (q+k) _ (v++[toS (sl text p q),toS (sl text q (q+k))]) i (n+1) _ Q O (by lia) (by simpa using hl) ?_ λj m w o G P I R J=>?_
   ·have app:∀{vs:List Value}{ys:List Str},StrsAre vs ys->∀{vs2 ys2},StrsAre vs2 ys2->StrsAre (vs++vs2) (ys++ys2):=by
     intro vs ys h
     induction h with
     | nil=>intro _ _ F;exact F
     | cons y t _ H=>intro _ _ F;exact .cons y t (H F)
    exact app hv (.cons _ _ (.cons _ _ .nil))
   ·refine hQ j m w o G P I ?_ J;refine R.trans ?_
    conv=>rhs;dsimp only[gG]
    simp only[e];simp
end
theorem pY:entryFor table "re.Pattern.split"=some Builtin.«re.Pattern.split»:=entryFor_of_tree (by kernel_rfl)
theorem rL(a b:Value):argsOk "re.Pattern.split" ⟨[a,b],[]⟩:=by unfold argsOk;kernel_rfl
theorem pM(b:Value):reNamed "re.Pattern.split" "split" ["string","maxsplit"] 1 [b] []=pure [some b,none]:=by rfl
theorem lg(text:Array Nat)(b e:Nat):(⟨text.extract b e⟩:Str)=toS (sl text b e):=by
 delta toS sl
 congr 1;apply Array.ext';simp[Array.toList_extract,List.drop_take]
section
variable {A:Around}{s:Shared}{ρ:Rho}{hp:List O}
theorem iO{A:Around}{E:Value->Shared->Prop}{s:Shared}{text:Array Nat}{b e:Nat}(a:text.size<=lid){Q:Value->Shared->Prop}(c:Q (.str (toS (sl text b e)) s.toks) {s with toks:=s.toks+1}):wpAny (model pw w) A (reSlice text 0 b e) Q E s:=by
 unfold reSlice;rw[if_pos (by decide),lg];refine wpAny_mkStr c ?_;have:(toS (sl text b e)).length<=text.size:=by
  rw[<-lg];show(text.extract b e).size<=text.size
  simp;exact fk1 (jT e text.size)
 exact zB this (zB a bn)
theorem sA:∀{z:Str}{t:Tok}{Q:Value->Shared->Prop}(po:nR H0)(R:Rep H0 ρ hp s)(B:z.cps.size<=lid)(D:(dU (z.cps.size+1) z.cps.toList).length<=lid)(hQ:∀(g:List Value)(T:Nat),StrsAre g ((dU (z.cps.size+1) z.cps.toList).map toS)->Q (.ref s.heap.objs.size) {s with heap:=s.heap.push {cls:=.type "list",data:=.seq g.toArray},toks:=T}),
 wpAny (model pw w) A (Builtin.«re.Pattern.split» ⟨[.ref 43,.str z t],[]⟩) (λI s'=>∃v,I=.done (.ret v)/\Q v s') noE s:=by
 revert A s ρ hp;exists bK,A,s,ρ,hp,z,t,Q;intros;obtain⟨o,vs,c,V,W,ho,X,hd,E,h5,h6,J,oc,xs,n,K,L,j⟩:=po.obj;have M:=R.old _ _ ho (by decide);have F:=R.old _ _ K J;have Y:lid=1000000:=rfl;dsimp only[Builtin.«re.Pattern.split»]
 skip
 refine zA (zr (pM _) ?_);refine zA (zD ?_)
 skip
 refine zA (zA (wpAny_fieldsOf M hd ?_));refine zA (m:=reTextOf (.str z t)) (zr (a:=(z.cps,0)) rfl ?_)
 skip
 refine h6▸?_;refine E▸?_;refine h5▸?_;refine zA (zr (a:=()) rfl ?_)
 skip
 refine zA (zA (yx F L (zD ?_)));refine zD ?_
 skip
 refine j▸?_;refine zA ?_;refine mv (text:=z.cps) (B) (f:=_) ?_ ?_ (yS (reMostMatches _)) (z.cps.size+1) 0 [] [] false 0 s _ (jG _) (zq _) (by unfold reMostMatches;simp;simp +arith) .nil ?_
 ·rintro x ⟨G,st,la,mu,n,ov⟩ s Q' N q;have N:ov=true:=N;subst N;exact zD q
 ·intro x G p Z n s Q' hp C;refine(?_:wpAny _ _ (if(!false)=true then _ else _) _ _ _);rw[if_pos (show(!false)=true from rfl)];refine zA ?_
  skip
  rw[if_neg (by simp)];refine sv (t:=⟨_,_,code0,z.cps,0,1,0,z.cps.size⟩) rfl rfl rfl hp (by exact(B:z.cps.size<=_)) λm i=>?_;have i:(match bv z.cps p with|none=>m=none|some (p,n)=>∃l,m=some l/\l.start=p/\l.handed=p+n/\l.marks=#[some p,some (p+n)]/\l.lastmark=1):=i;cases e:bv z.cps p with
  | none=>
   rw[e]at i C;have i:m=none:=i;subst i;exact zD C
  | some r=>
   obtain⟨q,k⟩:=r;rw[e]at i C;refine ws i λl P e1 e2 e3 e4=>?_;subst P;have C:∀V W T d,Q' (.yield ((G.push (.str (toS (sl z.cps p q)) V)).push (.str (toS (sl z.cps q (q+k))) W),q+k,q+k,d,n+1,false)) {s with toks:=T}:=C;refine(?_:wpAny _ _ (reSlice z.cps 0 p l.start>>=_) _ _ _);refine e1▸?_;refine zA (iO B ?_);refine(?_:wpAny _ _ (forIn [0] _ _>>=_) _ _ _);rw[yf];refine zA (zA (zA ?_));dsimp only[reMachineGroup];rw[if_neg (by refine e4▸?_;decide),e3];show wpAny _ _ (if q+k<q then _ else _) _ _ _
   rw[if_neg (Nat.not_lt_of_le (zW ..))];refine iO B (zD ?_);dsimp only;dsimp only[jJ];refine zD (zD ?_);rw[e2];exact C _ _ _ _
 ·intro b S H d n' T hv U hp';refine(?_:wpAny _ _ (if(!true)=true then _ else _) _ _ _);rw[if_neg (by decide)];refine zA (iO B ?_);have U:S++[toS (sl z.cps H z.cps.size)]=(dU (z.cps.size+1) z.cps.toList).map toS:=by
   refine U▸?_;refine(g0 z.cps (B) _ _ (jG _))▸?_;rfl
  have app:∀{vs:List Value}{ys:List Str},StrsAre vs ys->∀{vs2 ys2},StrsAre vs2 ys2->StrsAre (vs++vs2) (ys++ys2):=by
   intro vs ys h
   induction h with
   | nil=>intro _ _ E;exact E
   | cons y t _ ih=>intro _ _ E;exact .cons y t (ih E)
  have u:=app hv (StrsAre.cons (toS (sl z.cps H z.cps.size)) T .nil);simp only[U]at u;have el:(b.toArray.push (Value.str (toS (sl z.cps H z.cps.size)) T)).toList=b++[Value.str (toS (sl z.cps H z.cps.size)) T]:=by simp
  refine zA (wpAny_newList ?_ ?_)
  ·refine zD (av _ rfl ?_);show Q _ _
   rw[el];exact hQ _ _ u
  ·rw[el];have:=u.len_eq;simp only[zC]at this;have:=bn;exact fk3 D (zS ‹(b++[Value.str (toS (sl z.cps H z.cps.size)) T]).length=(dU (z.cps.size+1) z.cps.toList).length›) this
end
end Mine
namespace Mine
open PySem PySem.Calls PyProof.Rows PySem.W
section
theorem pg:∀{ys:List (List Nat)}{a:List Value},StrsAre a (ys.map toS)->Al (VR h ρ) (ys.map λl=>V.str (toS l)) a
 | [],a,h=>by cases h;exact .nil
 | y::ys,a,h=>by
  rw[zV]at h;cases h with
  | cons _ t h=>exact .cons (.str _ _) (pg h)
theorem EA(j:nR H0)(m:ie H0):TC H0 w where
 get:=λA s ρ hp i t Q n R a=>by
  obtain⟨f,⟨o,es,ep,d,p,q,r,v⟩,g⟩:=m.map w;have k:s.heap.MapOf (intKind pw w) 223 f:=⟨o,es,ep,R.old _ _ d (by decide),p,q,r,v⟩;refine call_meetsIn PySem.F.slot_dict_get k.typeIs PySem.F.entry_dict_get (PySem.F.args_dict_get_2 _ _) (meets_dict_get (intKind pw w) 223 (intKind_is pw w i t) (by decide)) ⟨f,k,?_⟩;have h:=g i;unfold b3V at a;cases e:b3Tab.lookup i with
  | none=>
   rw[e]at h;have h:f i=none:=h;rw[h];refine a .none _ ?_;rw[e];exact .none
  | some z=>
   rw[e]at h;obtain⟨u,h⟩:=h;rw[h];refine a (.str z u) _ ?_;rw[e];exact .str _ _
 split:=λA s ρ hp z t Q n R x y a=>by
  obtain⟨o,vs,c,B,C,d,b,_⟩:=j.obj;refine jW dM ⟨o,R.old _ _ d (by decide),b⟩ pY ?_ (rL _ _);refine sA j R x y λl T g=>a _ _ ?_;exact R.newList (pg g) T
end
end Mine
namespace Mine
open PySem PySem.Calls PyProof.Rows PySem.W PySem.SeqAt
section
variable {F:Fs}{n m:Nat}{sc:Scope}
theorem cj.le{n k:Nat}(a:cj A n)(h:k<=n):cj A k:=⟨a.handled,by have:=a.depth;lia,by have:=a.units;lia,a.frames,a.guards⟩
theorem Cv:∀(fo:kn H0)(T:Top H0)(k:aL H0 K)(sp:iQ H0 K)(SO:gr w H0)(set:(H0.get? 212).isSome)(TO:eQ H0)(tc:TC H0 w),xU H0 w (n+1):=by
 revert n;exists ce1_,n;intros;exists cc,A,s,ρ,hp,f,as,ys,v,j;intro b R c a;by_cases d:f=20
 ·subst d;exact vu fo T k sp (b.le (uc _)) R c a
 by_cases e:f=23
 ·subst e;exact BV fo T k sp SO set TO tc (b.le (uc _)) R c a
 by_cases g:f=24
 ·subst g;exact BG fo T k sp (b.le (jG _)) R c a
 by_cases h:f=25
 ·subst h;exact AF fo T k sp (b.le (jG _)) R c a
 by_cases i:f=28
 ·subst i;exact tw fo T k sp (b.le (jG _)) R c a
 unfold gV at a;rw[if_neg d,if_neg e,if_neg g,if_neg h,if_neg i]at a;cases a
theorem CY(l:TopLaid H0 w K){n:Nat}(sf:SF H0 w F n):eA H0 w F n K where
 T:=l.T
 SO:=l.SO
 set:=l.set
 AI:=ac_of l.k l.ak sf
 AS:=xf l.k
 bc:=bc_of l.k l.ak sf
 k:=l.k
 TO:=l.TO
 tc:=EA l.pat l.dict
 sf:=sf
 new:=λA s ρ st a c vs ys v Q b R d e f=>xA l.k l.mko l.ak sf b R d e f
 call:=l.call
theorem qG(l:TopLaid H0 w K):∀n,SF H0 w (run tabNow n) n
 | 0=>λA s ρ hp f as ys v a c R d b=>no b
 | n+1=>DL l.fo (CY l (qG l n)) (Cv l.fo l.T l.k l.sp l.SO l.set l.TO (EA l.pat l.dict))
theorem TopLaid.sound{v:World}{k:Frag}(l:TopLaid h v k)(n:Nat):SF h v (run tabNow n) n:=Bl qG (h,v,k) l n
end
end Mine
namespace MineH
open PySem PySem.Calls PyProof.Rows PySem.W
section
variable (tb:String->Option Builtin) (p:Program) (w:World) (n₀:Nat) (ann:Option Value)
noncomputable def Ex{b:Type}(x:Sem b)(s:Shared)(pos:Pos)(n:Nat)(v:b)(s':Shared)(a:Pos):Prop:=
 ∀(K:b->Sem Fin)(H:Value->Sem Fin)(d:Bool->Bool)(lv:List Value->List Value)(c:Code)(B:List Frame)(N:Nat)(r:Shared),
  topRun tb p w n₀ ann N s' ⟨K v,c,a,B⟩=some r->topRun tb p w n₀ ann (n+N) s ⟨x.wrap K H d lv,c,pos,B⟩=some r
end
section
variable {tb:String->Option Builtin}{p:Program}{w:World}{n₀:Nat}{ann:Option Value}{α β:Type}
theorem bw{s r:Shared}{N:Nat}(a:through t=false)(b:stepOk n₀ ann t=true)(c:step (denote tb) p w s t=.go s' t')(k:topRun tb p w n₀ ann N s' t'=some r):topRun tb p w n₀ ann (N+1) s t=some r:=by
 dsimp only[topRun];rw[a,b,c];exact k
theorem Ex.pure{a:α}{s:Shared}:Ex tb p w n₀ ann (yc a:Sem α) s pos 0 a s pos:=λK H gd lv c B N r k=>by
 rw[ym];exact k
theorem Ex.bind{x:Sem α}{f:α->Sem β}{s s1 s2:Shared}{q:Pos}{n m:Nat}{a:α}{b:β}(d:Ex tb p w n₀ ann x s q n a s1 q1)(e:Ex tb p w n₀ ann (f a) s1 q1 m b s2 q2):Ex tb p w n₀ ann (x>>=f) s q (n+m) b s2 q2:=λK H g lv c B N r k=>by
 rw[Sem.bind_eq_wrap',Sem.wrap_wrap,jk];exact d _ _ _ _ c B (m+N) r (e K H g lv c B N r k)
theorem Ex.keep{x:Sem α}{s s1:Shared}{q:Pos}{n:Nat}{a:α}(h:Ex tb p w n₀ ann x s q n a s1 q1):Ex tb p w n₀ ann (x.keep vs) s q n a s1 q1:=λK H b lv c B N r k=>by
 rw[Sem.keep_eq_wrap,Sem.wrap_wrap];exact h _ _ _ _ c B N r k
theorem Ex.holding{x:Sem α}{s s1:Shared}{q:Pos}{n:Nat}{a:α}(h:Ex tb p w n₀ ann x s q n a s1 q1):Ex tb p w n₀ ann (holding vs x) s q n a s1 q1:=by
 unfold jK;split
 ·exact h
 ·exact h.keep
theorem Ex.onRaise{x:Sem α}{f:Value->Sem Unit}{s s1:Shared}{q:Pos}{n:Nat}{a:α}(h:Ex tb p w n₀ ann x s q n a s1 q1):Ex tb p w n₀ ann (x.onRaise f) s q n a s1 q1:=λK H b lv c B N r k=>by
 rw[Sem.onRaise_eq_wrap,Sem.wrap_wrap];exact h _ _ _ _ c B N r k
theorem Ex.tryCatch{x:Sem α}{f:Value->Sem α}{s s1:Shared}{q:Pos}{n:Nat}{a:α}(h:Ex tb p w n₀ ann x s q n a s1 q1):Ex tb p w n₀ ann (x.tryCatch f) s q n a s1 q1:=λK H b lv c B N r k=>by
 rw[Sem.tryCatch_eq_wrap,Sem.wrap_wrap];exact h _ _ _ _ c B N r k
theorem Ex.congr{x y:Sem α}{s s1:Shared}{q:Pos}{n:Nat}{a:α}(e:x=y)(h:Ex tb p w n₀ ann y s q n a s1 q1):Ex tb p w n₀ ann x s q n a s1 q1:=e▸h
theorem Ex.steps{x:Sem α}{s s1:Shared}{q:Pos}{n m:Nat}{a:α}(h:Ex tb p w n₀ ann x s q n a s1 q1)(e:n=m):Ex tb p w n₀ ann x s q m a s1 q1:=e▸h
theorem thr{B:List Frame}{x:Bool}(h:x=false):(B.isEmpty&&x)=false:=by rw[h,uH]
theorem Ex.rule{s:Shared}{q:Pos}:Ex tb p w n₀ ann (rule g) s q 1 () s q:=λK H a lv c B N r k=>by
 rw[jP 1 N];exact bw (thr rfl) rfl rfl k
theorem Ex.at_{s:Shared}{q:Pos}:Ex tb p w n₀ ann (standAt q') s q 1 () s q':=λK H a lv c B N r k=>by
 rw[jP 1 N];exact bw (thr rfl) rfl rfl k
theorem Ex.fresh{s:Shared}{q:Pos}:Ex tb p w n₀ ann fresh s q 1 s.toks {s with toks:=s.toks+1} q:=λK H a lv c B N r k=>by
 rw[jP 1 N];exact bw (thr rfl) rfl rfl k
theorem Ex.alloc{o:Obj}{s:Shared}{q:Pos}:Ex tb p w n₀ ann (alloc o) s q 1 s.heap.objs.size {s with heap:=s.heap.push o} q:=λK H a lv c B N r k=>by
 rw[jP 1 N];exact bw (thr rfl) rfl rfl k
theorem Ex.load{a:Addr}{part:Option Value}{o:Obj}{s:Shared}{q:Pos}(h:s.heap.get? a=some o):Ex tb p w n₀ ann (loadPart a part) s q 1 o s q:=λK H b lv c B N r k=>by
 rw[jP 1 N];refine bw (thr rfl) rfl ?_ k;obtain⟨hp,g,d,t,e⟩:=s;show(match hp.get? a with|some o=>_|none=>_)=_
 have h:hp.get? a=some o:=h;rw[h];rfl
theorem Ex.update{a:Addr}{part:Option Value}{f:Obj->Obj}{o:Obj}{s:Shared}{q:Pos}(h:s.heap.get? a=some o)(b:Nat.ble n₀ a=true):Ex tb p w n₀ ann (updatePart a part f) s q 1 () {s with heap:=s.heap.update a f} q:=λK H e lv c B N r k=>by
 rw[jP 1 N];refine bw (thr rfl) ?_ ?_ k
 ·show(true&&(Nat.ble n₀ a||_||_||_))=true
  rw[b];rfl
 obtain⟨hp,g,d,t,i⟩:=s;have h:hp.get? a=some o:=h;show(if(hp.get? a).isSome=true then _ else _)=_
 rw[h];rfl
theorem Ex.ask{s:Shared}{q:Pos}:Ex tb p w n₀ ann ask s q 1 ⟨p,w.params⟩ s q:=λK H a lv c B N r k=>by
 rw[jP 1 N];exact bw (thr rfl) rfl rfl k
theorem AP(i:Int)(t:Tok):denote treeTable (.call (.builtin "int.__hash__") ⟨[.int i t],[]⟩)=.pure (.again (.builtin "int.__hash__" ⟨[.int i t],[]⟩)):=by kernel_rfl
theorem vo(i:Int)(t:Tok):denote treeTable (.builtin "int.__hash__" ⟨[.int i t],[]⟩)=.fresh λk=>.pure (.done (.ret (.int (rawHash i) k))):=by kernel_rfl
theorem Ex.callHash{i:Int}{s:Shared}{q:Pos}:Ex treeTable p w n₀ ann (call (.builtin "int.__hash__") [.int i t]) s q 4 (.int (rawHash i) s.toks) {s with toks:=s.toks+1} q:=λK H a lv c B N r k=>by
 rw[jP 4 N];refine bw (thr rfl) rfl rfl ?_;rw[AP];refine bw rfl (by kernel_rfl) rfl ?_;rw[vo];refine bw rfl (by kernel_rfl) rfl ?_;refine bw rfl (by kernel_rfl) rfl ?_;exact k
theorem ny(i:Int)(t:Tok):specialOf (.int i t) (zf "__hash__")=yc (some (.builtin "int.__hash__")):=by
 show typeLookup (.type "int") (zf "__hash__")=_
 exact slot_int_hash.lookup
theorem Ex.bindHash{i:Int}{s:Shared}{q:Pos}:Ex tb p w n₀ ann (bindSpecialIfBound? (.int i t) (zf "__hash__")) s q 1 (some (.builtin "int.__hash__",[.int i t])) s q:=by
 unfold bindSpecialIfBound?;rw[ny];refine(Ex.bind Ex.pure (Ex.bind Ex.ask (n:=1) (m:=0) ?_)).steps (by rfl);have e:bindSpecial (.builtin "int.__hash__") (.int i t)=yc (.builtin "int.__hash__",[.int i t]):=slot_int_hash.bind _;dsimp only[e];split
 ·exact(Ex.bind Ex.pure Ex.pure).steps rfl
 ·exact((Ex.bind Ex.pure Ex.pure).steps rfl).tryCatch
theorem Ex.pyHash{i:Int}{s:Shared}{q:Pos}:Ex treeTable p w n₀ ann (pyHash (.int i t)) s q 5 (hashInt i) {s with toks:=s.toks+1} q:=by
 have b:=rawHash_range i
 delta PySem.pyHash pyHashByItsType
 have c:[zl i t].any Value.onHeap=false:=rfl;refine(Ex.bind (n:=0) (m:=5) (a:=()) (s1:=s) (q1:=q) ?_ ?_).steps rfl
 ·rw[cRoomFor,if_neg (by rw[c];exact uG)];exact Ex.pure
 dsimp only;rw[ny];refine(Ex.bind Ex.pure (m:=5) ?_).steps (by rfl);rw[if_neg (by decide)];refine(Ex.bind Ex.pure (m:=5) ?_).steps (by rfl);rw[if_neg (by decide)];unfold callSpecialIfBoundUnlessNone?;refine(Ex.bind (n:=5) (m:=0) (a:=some (.int (rawHash i) s.toks)) (s1:={s with toks:=s.toks+1}) (q1:=q) (Ex.holding ((Ex.bind Ex.bindHash (m:=4) ?_).steps rfl)) ?_).steps rfl
 ·dsimp only;rw[if_neg (by decide)];exact(Ex.bind Ex.callHash (f:=λv=>yc (some v)) Ex.pure).steps rfl
 ·dsimp only;show Ex _ _ _ _ _ (if(decide (-(2:Int) ^ 63<=rawHash i)&&decide (rawHash i<2 ^ 63))=true then _ else _) _ _ _ _ _ _
  rw[if_pos (by rw[decide_eq_true b.1,decide_eq_true b.2];rfl)];exact Ex.pure
end
noncomputable abbrev aB(es:Array DictEntry)(ep:Nat):Obj:={cls:=.type "dict",dict:=none,data:=.dict es ep,slots:=#[]}
noncomputable def put(h:Heap)(a:Addr)(o:Obj):Heap:=⟨h.objs.setIfInBounds a o,h.life⟩
theorem lJ(h:Heap)(a:Addr)(o:Obj):(put h a o).objs.size=h.objs.size:=by simp[put]
theorem h9{a:Addr}(b:a<h.objs.size):(put h a (aB es ep)).get? a=some (aB es ep):=by
 unfold Heap.get? put;simp only[yQ b]
theorem xh{a b:Addr}{o:Obj}(c:b≠a):(put h a o).get? b=h.get? b:=by
 unfold Heap.get? put;rw[jb (Ne.symm c)]
theorem sq{a:Addr}{o:Obj}{f:Obj->Obj}(c:a<h.objs.size):(put h a o).update a f=put h a (f o):=by
 obtain⟨b,l⟩:=h;have c:a<b.size:=c;show(⟨(b.setIfInBounds a o).modify a f,l⟩:Heap)=⟨b.setIfInBounds a (f o),l⟩
 congr 1;apply vL;intro i;by_cases d:i=a
 ·subst d;rw[Array.getElem?_modify,if_pos rfl,yQ c,yQ c];rfl
 ·simp[Array.getElem?_modify,vT,d,Ne.symm d]
theorem kQ(h:Heap)(o:Obj):h.push o=put (h.push o) h.objs.size o:=by
 obtain⟨a,l⟩:=h;show(⟨a.push o,l⟩:Heap)=⟨(a.push o).setIfInBounds a.size o,l⟩
 congr 1;apply vL;intro i;by_cases b:i=a.size
 ·subst b;simp
 ·simp[vT,Ne.symm b]
section
variable {tb:String->Option Builtin}{p:Program}{w:World}{n₀:Nat}{ann:Option Value}{α β:Type}
theorem Ex.entries{a:Addr}{part:Option Value}{s:Shared}{q:Pos}(h:s.heap.get? a=some (aB es ep)):Ex tb p w n₀ ann (dictEntries a part) s q 1 es s q:=by
 unfold dictEntries;exact(Ex.bind (Ex.load h) (m:=0) (b:=es) (Ex.pure (a:=es))).steps rfl
theorem Ex.epoch{a:Addr}{part:Option Value}{s:Shared}{q:Pos}(h:s.heap.get? a=some (aB es ep)):Ex tb p w n₀ ann (dictEpoch a part) s q 1 ep s q:=by
 unfold dictEpoch;exact(Ex.bind (Ex.load h) (m:=0) (b:=ep) (Ex.pure (a:=ep))).steps rfl
theorem we{es:Array DictEntry}{h:Int}(b:∀e∈es.toList,e.hash≠h):placesWithHash es.size (λi=>es[i]?.map (·.hash)) h=[]:=by
 unfold placesWithHash;rw[List.filter_eq_nil_iff];intro i a;have a:=jn.mp a;dsimp only;rw[uK a];rw[jO,beq_iff_eq,Option.some.injEq];exact b _ (by simp)
theorem Ex.findNone:∀{a:Addr}{k h:Int}{t:Tok}{es:Array DictEntry}{ep:Nat}{s:Shared}{q:Pos}(b:s.heap.get? a=some (aB es ep))(c:∀e∈es.toList,e.hash≠h),Ex tb p w n₀ ann (dictFind a (.int k t) h) s q 1 none s q:=by
 revert tb p w n₀ ann;exists Mine.ce13_,tb,p,w,n₀,ann,a,k,h,t,es,ep,s,q;intros;unfold dictFind;refine Ex.holding ?_;refine(Ex.bind (Ex.entries b) (m:=0) ?_).steps rfl;dsimp only;rw[we c];show Ex _ _ _ _ _ (if([zl k t].all carriedByValue)=true then _ else _) _ _ _ _ _ _
 rw[if_pos (show[zl k t].all carriedByValue=true from rfl)];unfold dictWalkPlain;exact(Ex.bind (Ex.pure (a:=_)) (m:=0) (Ex.pure (a:=none))).steps rfl
theorem Ex.pushEntry{a:Addr}{part:Option Value}{e:DictEntry}{b:Heap}{s:Shared}{q:Pos}(d:s.heap=put b a (aB es ep))(c:a<b.objs.size)(g:Nat.ble n₀ a=true)(h:es.size<1000):
 Ex tb p w n₀ ann (updateDictKeys a (·.push e) part) s q 3 () {s with heap:=put b a (aB (es.push e) (ep+1))} q:=by
 have f:s.heap.get? a=some (aB es ep):=by rw[d];exact h9 c
 have i:s.heap.update a (Obj.mapDictKeys (·.push e))=put b a (aB (es.push e) (ep+1)):=by rw[d,sq c];rfl
 unfold updateDictKeys;refine(Ex.bind (Ex.load f) (m:=2) ?_).steps rfl;dsimp only;refine(Ex.bind (Ex.update f g) (m:=1) ?_).steps rfl;rw[i];unfold lookBehind;refine(Ex.bind (Ex.load (o:=aB (es.push e) (ep+1)) (h9 c)) (m:=0) ?_).steps rfl;have:(Data.dict (es.push e) (ep+1)).pastItsLine=none:=by
  show(if(es.push e).size>sizeLine+1 then _ else none)=none
  have j:2000<=sizeLine:=by decide
  rw[if_neg (by rw[Array.size_push];exact Nat.not_lt_of_le (zB h (zH ..)))]
 dsimp only;rw[this];exact Ex.pure
theorem Ex.setNew{a:Addr}{k:Int}{v:Value}{b:Heap}{s:Shared}{q:Pos}(c:s.heap=put b a (aB es ep))(d:a<b.objs.size)(f:Nat.ble n₀ a=true)(g:es.size<1000)(h:∀e∈es.toList,e.hash≠hashInt k):
 Ex treeTable p w n₀ ann (dictSet a (.int k t) v) s q 10 () {s with heap:=put b a (aB (es.push ⟨hashInt k,.int k t,v⟩) (ep+1)),toks:=s.toks+1} q:=by
 unfold dictSet;refine Ex.holding ((Ex.bind Ex.pyHash (m:=5) ?_).steps rfl);unfold dictSetHashed;refine Ex.holding ?_;refine(Ex.bind (Ex.findNone (s:={s with toks:=s.toks+1}) (es:=es) (ep:=ep) (by rw[show({s with toks:=s.toks+1}:Shared).heap=s.heap from rfl,c];exact h9 d) h) (m:=4) ?_).steps rfl;exact(Ex.bind Ex.rule (Ex.pushEntry (s:={s with toks:=s.toks+1}) c d f g)).steps rfl
end
noncomputable abbrev aS:=Int×Str
noncomputable def aE(q0:Pos)(x:aS):Sem Value×Sem Value:=(mkInt x.1,do let v<-mkText x.2;standAt q0;pure v)
noncomputable def au:Nat->List aS->List DictEntry
 | _,[]=>[]
 | T,x::r=>⟨hashInt x.1,.int x.1 T,.str x.2 (T+1)⟩::au (T+3) r
theorem dF:∀(T:Nat)(l:List aS),(au T l).map (·.hash)=l.map λx=>hashInt x.1
 | _,[]=>rfl
 | T,x::r=>by simp only[au,zV,zV,dF]
theorem ca:∀(T:Nat)(l:List aS),(au T l).length=l.length
 | _,[]=>rfl
 | T,x::r=>by simp only[au,zL,zL,ca]
theorem kb:∀(T:Nat)(l m:List aS),au T (l++m)=au T l++au (T+3*l.length) m
 | T,[],m=>by simp[au]
 | T,x::r,m=>by
  simp only[je,au,au,kb,je,zL];congr 3;exact Nat.add_right_comm ..
section
variable {tb:String->Option Builtin}{p:Program}{w:World}{n₀:Nat}{ann:Option Value}{α β:Type}
theorem Ex.mkInt{i:Int}{s:Shared}{q:Pos}:Ex tb p w n₀ ann (mkInt i) s q 1 (.int i s.toks) {s with toks:=s.toks+1} q:=
 (Ex.bind Ex.fresh (f:=λt=>yc (zl i t)) Ex.pure).steps rfl
theorem Ex.mkTxt{x:Str}{s:Shared}{q:Pos}:Ex tb p w n₀ ann (mkText x) s q 1 (.str x s.toks) {s with toks:=s.toks+1} q:=
 (Ex.bind Ex.fresh (f:=λt=>yc (Value.str x t)) Ex.pure).steps rfl
theorem Ex.val{x:Str}{s:Shared}{q:Pos}(a:x.length<=100):Ex tb p w n₀ ann (do let v<-mkText x;standAt q0;yc v) s q 2 (.str x s.toks) {s with toks:=s.toks+1} q0:=
 (Ex.bind Ex.mkTxt (f:=λv=>do standAt q0;yc v) (Ex.bind Ex.at_ Ex.pure)).steps rfl
theorem Ex.item{a:Addr}{x:aS}{b:Heap}{s:Shared}{q:Pos}(c:s.heap=put b a (aB es ep))(d:a<b.objs.size)(f:Nat.ble n₀ a=true)(g:es.size<1000)(h:∀e∈es.toList,e.hash≠hashInt x.1)(i:x.2.length<=100):
 Ex treeTable p w n₀ ann (do let kv<-(aE q0 x).1;let vv<-jK [kv] (aE q0 x).2;jK [kv,vv] (dictSet a kv vv)) s q 13 () {s with heap:=put b a (aB (es.push ⟨hashInt x.1,.int x.1 s.toks,.str x.2 (s.toks+1)⟩) (ep+1)),toks:=s.toks+3} q0:=
 (Ex.bind Ex.mkInt (Ex.bind (Ex.holding (Ex.val (s:={s with toks:=s.toks+1}) i)) (Ex.holding (Ex.setNew (s:={s with toks:=s.toks+2}) c d f g h)))).steps rfl
theorem Ex.items{a:Addr}{b:Heap}(o:a<b.objs.size)(z:Nat.ble n₀ a=true){f:Sem Value×Sem Value->PUnit->Sem (ForInStep PUnit)}(c:∀m u,f m u=(do let k<-m.1;let v<-jK [k] m.2;jK [k,v] (dictSet a k v);yc (yw jZ))):
 ∀(l:List aS)(es:List DictEntry)(ep:Nat)(s:Shared)(q:Pos),s.heap=put b a (aB es.toArray ep)->es.length+l.length<1000->(es.map (·.hash)++l.map λx=>hashInt x.1).Nodup->(∀x∈l,x.2.length<=100)->
  Ex treeTable p w n₀ ann (forIn (l.map (aE q0)) jZ f) s q (13*l.length) jZ {s with heap:=put b a (aB (es++au s.toks l).toArray (ep+l.length)),toks:=s.toks+3*l.length} (if l=[]then q else q0)
 | [],es,ep,s,q,i,hz,j,hx=>by
  rw[ux,jJ];have e:({s with heap:=put b a (aB (es++au s.toks []).toArray (ep+([]:List aS).length)),toks:=s.toks+3*([]:List aS).length}:Shared)=s:=by
   obtain⟨h,g,d,t,H⟩:=s;have i:h=put b a (aB es.toArray ep):=i;simp[au,i]
  exact e.symm▸((if_pos rfl).symm)▸Ex.pure
 | x::l,es,ep,s,q,i,hz,j,hx=>by
  simp only[zV,yf,c];have n:∀e∈es.toArray.toList,e.hash≠hashInt x.1:=λe B h=>by
   have j:=(ye.mp j).2.2;exact j _ (zv.mpr ⟨e,by simpa using B,rfl⟩) _ (zj) h
  simp only[zL]at hz;have A:=Ex.items (q0:=q0) o z c l (es++[⟨hashInt x.1,.int x.1 s.toks,.str x.2 (s.toks+1)⟩]) (ep+1) {s with heap:=put b a (aB (es.toArray.push ⟨hashInt x.1,.int x.1 s.toks,.str x.2 (s.toks+1)⟩) (ep+1)),toks:=s.toks+3} q0
   (by simp) (by simp;exact Mine.fk1 hz) (by simpa using j) (λy C=>hx y (by simp[C]))
  have D:(if l=[]then q0 else q0)=q0:=by split<;>rfl
  simp only[D]at A;rw[if_neg (by simp)];have E:es++au s.toks (x::l)=es++[(⟨hashInt x.1,.int x.1 s.toks,.str x.2 (s.toks+1)⟩:DictEntry)]++au (s.toks+3) l:=by simp only[au];simp
  have F:ep+(x::l).length=ep+1+l.length:=by simp only[zL];simp +arith
  have G:s.toks+3*(x::l).length=s.toks+3+3*l.length:=by simp only[zL];simp +arith
  simp only[E,F,G];refine(Ex.congr ?_ (Ex.bind (Ex.bind (Ex.item (p:=p) (w:=w) (n₀:=n₀) (ann:=ann) (a:=a) (x:=x) (q0:=q0) (q:=q) i o z (by simp;exact Mine.fk1 hz) n (hx x (zj))) (f:=λ_=>(yc (yw jZ):Sem (ForInStep PUnit))) Ex.pure) (f:=λr=>match r with|.done b=>yc b|.yield b=>forIn (l.map (aE q0)) b f) A)).steps (by simp only[zL];exact jP ..);simp only[bind_assoc];rfl
end
theorem pp(h:Heap)(o o':Obj):put (h.push o) h.objs.size o'=h.push o':=by
 obtain⟨a,l⟩:=h;show(⟨(a.push o).setIfInBounds a.size o',l⟩:Heap)=⟨a.push o',l⟩
 congr 1;apply vL;intro i;by_cases b:i=a.size
 ·subst b;rw[yQ (by simp)];simp
 ·rw[jb (Ne.symm b),uU,uU,if_neg b,if_neg b]
noncomputable def vals2:Nat->List aS->List (Value×Value)
 | _,[]=>[]
 | T,x::r=>(.int x.1 T,.str x.2 (T+1))::vals2 (T+2) r
noncomputable def cS:Nat->List aS->List DictEntry
 | _,[]=>[]
 | T,x::r=>⟨hashInt x.1,.int x.1 T,.str x.2 (T+1)⟩::cS (T+2) r
section
variable {tb:String->Option Builtin}{p:Program}{w:World}{n₀:Nat}{ann:Option Value}{α β:Type}
theorem mj{l:List aS}{q:Pos}{s:Shared}(d:15<l.length)(g:l.length<1000)(h:(l.map λx=>hashInt x.1).Nodup)(i:∀x∈l,x.2.length<=100)(j:Nat.ble n₀ s.heap.objs.size=true):
 Ex treeTable p w n₀ ann (subDict (l.map (aE q0))) s q (2+13*l.length) s.heap.objs.size {s with heap:=s.heap.push (aB (au s.toks l).toArray l.length),toks:=s.toks+3*l.length} q0:=by
 unfold subDict;have o:l≠[]:=by rintro rfl;simp at d
 refine(Ex.bind Ex.alloc (m:=1+13*l.length) ?_).steps ((jk ..).symm);have c:=Ex.items (p:=p) (w:=w) (n₀:=n₀) (ann:=ann) (q0:=q0) (a:=s.heap.objs.size) (b:=s.heap.push (aB #[] 0)) (by rw[yW];exact zq _) j
  (f:=λe _=>(do let k<-e.1;let v<-jK [k] e.2;jK [k,v] (dictSet s.heap.objs.size k v);yc (yw jZ))) (λ_ _=>rfl) l [] 0 {s with heap:=s.heap.push (aB #[] 0)} q (by exact kQ _ _) (by simpa using g) (by simpa using h) i
 rw[if_neg o]at c;simp only[jN,ym,pp]at c;refine(Ex.bind (Ex.holding (n:=1+13*l.length) (a:=()) ?_) (m:=0) (f:=λ_=>yc s.heap.objs.size) Ex.pure).steps rfl;show Ex _ _ _ _ _ (if(l.map (aE q0)).length<=15 then _ else _) _ _ _ _ _ _
 rw[if_neg (by simp;exact d)];exact(Ex.bind Ex.rule (Ex.bind (Ex.congr (by rfl) c) (m:=0) (f:=λ_=>yc ()) Ex.pure)).steps (Nat.add_succ_sub_one ..)
theorem oX:∀(l:List aS)(s:Shared)(q:Pos),(∀x∈l,x.2.length<=100)->Ex tb p w n₀ ann (evalPairs (l.map (aE q0))) s q (3*l.length) (vals2 s.toks l) {s with toks:=s.toks+2*l.length} (if l=[]then q else q0)
 | [],s,q,hx=>by
  rw[ux,if_pos rfl];exact Ex.pure
 | x::l,s,q,hx=>by
  have a:=oX (q0:=q0) l {s with toks:=s.toks+2} q0 λy b=>hx y (by simp[b]);have c:(if l=[]then q0 else q0)=q0:=by split<;>rfl
  rw[c]at a;rw[if_neg (by simp),zV];have d:s.toks+2*(x::l).length=s.toks+2+2*l.length:=by simp only[zL];simp +arith
  rw[d];show Ex _ _ _ _ _ (do let kv<-(aE q0 x).1;let vv<-jK [kv] (aE q0 x).2;let r<-jK [kv,vv] (evalPairs (l.map (aE q0)));yc ((kv,vv)::r)) _ _ _ _ _ _
  exact(Ex.bind Ex.mkInt (Ex.bind (Ex.holding (Ex.val (s:={s with toks:=s.toks+1}) (hx x (by simp)))) (Ex.bind (Ex.holding a) (m:=0) (f:=λr=>yc ((zl x.1 s.toks,Value.str x.2 (s.toks+1))::r)) Ex.pure))).steps (by simp only[zL];simp +arith)
theorem vc{a:Addr}{b:Heap}(o:a<b.objs.size)(y:Nat.ble n₀ a=true){f:Value×Value->PUnit->Sem (ForInStep PUnit)}(c:∀m u,f m u=(do dictSet a m.1 m.2;yc (yw jZ))):
 ∀(l:List aS)(T:Nat)(es:List DictEntry)(ep:Nat)(s:Shared)(q:Pos),s.heap=put b a (aB es.toArray ep)->es.length+l.length<1000->(es.map (·.hash)++l.map λx=>hashInt x.1).Nodup->
  Ex treeTable p w n₀ ann (forIn (vals2 T l) jZ f) s q (10*l.length) jZ {s with heap:=put b a (aB (es++cS T l).toArray (ep+l.length)),toks:=s.toks+l.length} q
 | [],T,es,ep,s,q,i,hz,j=>by
  rw[vals2,jJ];have e:({s with heap:=put b a (aB (es++cS T []).toArray (ep+([]:List aS).length)),toks:=s.toks+([]:List aS).length}:Shared)=s:=by
   obtain⟨h,g,d,t,G⟩:=s;have i:h=put b a (aB es.toArray ep):=i;simp[cS,i]
  rw[e];exact Ex.pure
 | x::l,T,es,ep,s,q,i,hz,j=>by
  rw[vals2,yf,c];have n:∀e∈es.toArray.toList,e.hash≠hashInt x.1:=λe z h=>by
   have j:=(ye.mp j).2.2;exact j _ (zv.mpr ⟨e,by simpa using z,rfl⟩) _ (by simp) h
  simp only[zL]at hz;have A:=Ex.setNew (p:=p) (w:=w) (n₀:=n₀) (ann:=ann) (a:=a) (k:=x.1) (t:=T) (v:=.str x.2 (T+1)) (q:=q) i o y (by simp;exact Mine.fk1 hz) n;have B:=vc o y c l (T+2) (es++[⟨hashInt x.1,.int x.1 T,.str x.2 (T+1)⟩]) (ep+1) {s with heap:=put b a (aB (es.toArray.push ⟨hashInt x.1,.int x.1 T,.str x.2 (T+1)⟩) (ep+1)),toks:=s.toks+1} q
   (by simp) (by simp;exact Mine.fk1 hz) (by simpa using j)
  have C:es++cS T (x::l)=es++[(⟨hashInt x.1,.int x.1 T,.str x.2 (T+1)⟩:DictEntry)]++cS (T+2) l:=by rw[cS];simp
  have D:ep+(x::l).length=ep+1+l.length:=by simp only[zL];simp +arith
  have E:s.toks+(x::l).length=s.toks+1+l.length:=by simp only[zL];simp +arith
  rw[C,D,E];have F:=Ex.bind (Ex.bind A (f:=λ_=>(yc (yw jZ):Sem (ForInStep PUnit))) Ex.pure) (f:=λr=>match r with|.done b=>yc b|.yield b=>forIn (vals2 (T+2) l) b f) B;refine(Ex.congr ?_ F).steps (by simp only[zL];exact jP ..);simp only[bind_assoc];rfl
theorem qK{l:List aS}{q:Pos}{s:Shared}(g:l≠[])(d:l.length<=15)(h:(l.map λx=>hashInt x.1).Nodup)(i:∀x∈l,x.2.length<=100)(j:Nat.ble n₀ s.heap.objs.size=true):
 Ex treeTable p w n₀ ann (subDict (l.map (aE q0))) s q (1+13*l.length) s.heap.objs.size {s with heap:=s.heap.push (aB (cS s.toks l).toArray l.length),toks:=s.toks+3*l.length} q0:=by
 unfold subDict;refine(Ex.bind Ex.alloc (m:=13*l.length) ?_).steps (Nat.add_succ_sub_one ..);have hp:=oX (tb:=treeTable) (p:=p) (w:=w) (n₀:=n₀) (ann:=ann) (q0:=q0) l {s with heap:=s.heap.push (aB #[] 0)} q i;rw[if_neg g]at hp;have c:=vc (p:=p) (w:=w) (n₀:=n₀) (ann:=ann) (a:=s.heap.objs.size) (b:=s.heap.push (aB #[] 0)) (by rw[yW];exact zq _) j
  (f:=λe _=>(do dictSet s.heap.objs.size e.1 e.2;yc (yw jZ))) (λ_ _=>rfl) l s.toks [] 0 {s with heap:=s.heap.push (aB #[] 0),toks:=s.toks+2*l.length} q0 (by exact kQ _ _) (by simp;exact zu d (by decide)) (by simpa using h)
 simp only[jN,ym,pp]at c;rw[show s.toks+2*l.length+l.length=s.toks+3*l.length by simp +arith]at c;refine(Ex.bind (Ex.holding (n:=13*l.length) (a:=()) ?_) (m:=0) (f:=λ_=>yc s.heap.objs.size) Ex.pure).steps rfl;show Ex _ _ _ _ _ (if(l.map (aE q0)).length<=15 then _ else _) _ _ _ _ _ _
 rw[if_pos (by simp;exact d)];exact(Ex.bind hp (Ex.holding (Ex.bind (Ex.congr (by rfl) c) (m:=0) (f:=λ_=>yc ()) Ex.pure))).steps (by simp +arith)
end
end MineH
namespace MineH
open Mine (ce14_)
open PySem PySem.Calls PyProof.Rows PySem.W
theorem FL:isSubtype (.type "dict") (.type "dict")=pure true:=by rw[isSubtype_type];kernel_rfl
theorem CZ:typeLookup (.type "dict") (zf "__iter__")=pure (some (.builtin "dict.__iter__")):=by rw[ui,jd];kernel_rfl
section
variable {tb:String->Option Builtin}{p:Program}{w:World}{n₀:Nat}{ann:Option Value}{α β:Type}
theorem nx{a:Addr}{o:Obj}{s:Shared}{q:Pos}(h:s.heap.get? a=some o):Ex tb p w n₀ ann (typeOf (.ref a)) s q 1 o.cls s q:=by
 show Ex _ _ _ _ _ (loadPart a _>>=_) _ _ _ _ _ _
 exact(Ex.bind (Ex.load h) (m:=0) (f:=λo=>yc o.cls) Ex.pure).steps rfl
noncomputable def iq(es:List DictEntry):Prop:=∀e∈es,∃k t,e.key=.int k t
theorem BB:∀{d a:Addr}{b:Heap}{es1 es2:List DictEntry}{ep1 ep2:Nat}{s:Shared}{q:Pos}(c:s.heap=put b d (aB es1.toArray ep1))(D:d<b.objs.size)(E:a≠d)(P:b.get? a=some (aB es2.toArray ep2))(C:Nat.ble n₀ d=true)(Q:es1≠[])(R:es1.length+es2.length<1000)(F:(es1.map (·.hash)++es2.map (·.hash)).Nodup)(S:iq es2)(G:(a==sysModules)=false),
 Ex tb p w n₀ ann (mergeMapping d (.ref a) false) s q (5+6*es2.length) () {s with heap:=put b d (aB (es1++es2).toArray (ep1+es2.length))} q:=by
 revert tb p w n₀ ann;exists Mine.ce14_,tb,p,w,n₀,ann,d,a,b,es1,es2,ep1,ep2,s,q;intros;have sub:∀{o:Obj}{s:Shared},s.heap=put b d o->s.heap.get? a=some (aB es2.toArray ep2):=λh=>by rw[h,xh E];exact P
 have A:s.heap.get? d=some (aB es1.toArray ep1):=by rw[c];exact h9 D
 skip
 have T:Ex tb p w n₀ ann (isInstance (.ref a) (.type "dict")) s q 1 true s q:=by
  unfold isInstance;refine(Ex.bind (nx (sub c)) (m:=0) ?_).steps rfl;refine(?_:Ex _ _ _ _ _ (isSubtype (.type "dict") (.type "dict")) _ _ _ _ _ _);exact FL▸Ex.pure
 have U:Ex tb p w n₀ ann (specialOf (.ref a) (zf "__iter__")) s q 1 (some (.builtin "dict.__iter__")) s q:=by
  unfold specialOf;refine(Ex.bind (nx (sub c)) (m:=0) ?_).steps rfl;refine(?_:Ex _ _ _ _ _ (typeLookup (.type "dict") (zf "__iter__")) _ _ _ _ _ _);exact CZ▸Ex.pure
 refine(Ex.bind T (m:=4+6*es2.length) ?_).steps ((jk ..).symm)
 skip
 rw[if_pos rfl];refine(Ex.bind U (m:=3+6*es2.length) ?_).steps ((jk ..).symm);refine(?_:Ex _ _ _ _ _ (if(a==sysModules)=true then _ else _) _ _ _ _ _ _);rw[if_neg (by refine G▸?_;decide)];refine(Ex.bind (Ex.entries A) (m:=2+6*es2.length) ?_).steps ((jk ..).symm);rw[if_neg (by cases es1 with|nil=>exact absurd rfl Q|cons x l=>simp)];refine(Ex.bind (Ex.entries (sub c)) (m:=1+6*es2.length) ?_).steps ((jk ..).symm);refine(Ex.bind (Ex.epoch (sub c)) (m:=6*es2.length) ?_).steps (Nat.add_succ_sub_one ..);refine(Ex.bind ?_ (n:=6*es2.length) (a:=()) (m:=0) (f:=λ_=>yc ()) Ex.pure).steps (by simp +arith);have B:∀(k j:Nat)(s:Shared),j+k=es2.length->s.heap=put b d (aB (es1++es2.take j).toArray (ep1+j))->∀(f:Nat->PUnit->Sem (ForInStep PUnit)),(∀(j:Nat)(e:DictEntry)(s' u:Shared)(q:Pos),es2[j]?=some e->(∃o,s'.heap=put b d o)->(∃o,u.heap=put b d o)->Ex tb p w n₀ ann (dictPut d e.hash e.key e.val) s' q 4 () u q->Ex tb p w n₀ ann (f j jZ) s' q 6 (.yield jZ) u q)->
  Ex tb p w n₀ ann (forIn (yy j k) jZ f) s q (6*k) jZ {s with heap:=put b d (aB (es1++es2).toArray (ep1+es2.length))} q:=by
  intro k
  induction k with
  | zero=>
   intro j s y c f H;have e:({s with heap:=put b d (aB (es1++es2).toArray (ep1+es2.length))}:Shared)=s:=by
    obtain⟨h,g,X,t,Y⟩:=s;have c:h=put b d (aB (es1++es2.take j).toArray (ep1+j)):=c;simp only[c,show j=es2.length by exact y,uw]
   simp only[e];show Ex _ _ _ _ _ (forIn [] jZ f) _ _ _ _ _ _
   simp only[jJ];exact Ex.pure
  | succ k V=>
   intro j s y c f H;have v:j<es2.length:=Mine.fk1 (zS y);have N:es2[j]?=some es2[j]:=zP v;obtain⟨Z,tt,I⟩:=S es2[j] (yZ v);rw[List.range'_succ,yf];have J:∀e∈(es1++es2.take j).toArray.toList,e.hash≠es2[j].hash:=λe z h=>by
    have C:=ye.mp F;rw[zb]at z;rcases z with z|z
    ·exact C.2.2 _ (zv.mpr ⟨e,z,rfl⟩) _ (zv.mpr ⟨es2[j],yZ v,rfl⟩) h
    ·obtain⟨i,O,rfl⟩:=List.mem_take_iff_getElem.mp z;have K:i<es2.length:=Mine.fk2 O (jT j es2.length);exact(List.pairwise_iff_getElem.mp C.2.1) i j (by simp;exact K) (by simp;exact Mine.fk1 (zS y)) (Mine.fk2 O (Nat.min_le_left j es2.length)) (by simpa using h)
   have r:Ex tb p w n₀ ann (dictPut d es2[j].hash es2[j].key es2[j].val) s q 4 () {s with heap:=put b d (aB ((es1++es2.take j).toArray.push ⟨es2[j].hash,es2[j].key,es2[j].val⟩) (ep1+j+1))} q:=by
    skip
    refine I▸?_;refine(Ex.bind (Ex.findNone (c▸(h9 D)) J) (m:=3) ?_).steps rfl;exact Ex.pushEntry c D C (by simp;exact Mine.fk2 R (jT j es2.length))
   refine(Ex.bind (H j es2[j] s _ q N ⟨_,c⟩ ⟨_,rfl⟩ r) (m:=6*k) ?_).steps (jP ..)
   skip
   refine V (j+1) _ (by lia) ?_ f H;refine(?_:put b d _=_);congr 2
   ·have:es2.take (j+1)=es2.take j++[es2[j]]:=by refine List.take_add_one.trans ?_;rw[N];rfl
    simp only[List.push_toArray,yG,List.append_cancel_left_eq,List.toArray_inj]<;>first|done|(congr 1;simp only[yG];congr 1;exact this.symm)|(simp;exact this.symm)
 refine List.range_eq_range'▸?_;refine(show es2.toArray.size=es2.length by simp)▸?_;refine B es2.length 0 s (ym _) (by refine c.trans ?_;simp) _ λj e s' u q y ⟨o1,L⟩ ⟨o2,M⟩ r=>?_;refine(Ex.bind (Ex.entries (sub L)) (m:=5) ?_).steps rfl;have W:es2.toArray[j]?=some e:=by simpa using y
 refine W▸?_;refine(Ex.bind (Ex.holding r) (m:=1) ?_).steps rfl;refine(Ex.bind (Ex.epoch (sub M)) (m:=0) ?_).steps rfl;rw[if_neg (by simp)];exact Ex.pure
end
end MineH
namespace MineH
open PySem PySem.Calls PyProof.Rows PySem.W
theorem mG(b:Heap){d:Addr}(o x:Obj)(c:d<b.objs.size):(put b d o).push x=put (b.push x) d o:=by
 obtain⟨a,l⟩:=b;have c:d<a.size:=c;show(⟨(a.setIfInBounds d o).push x,l⟩:Heap)=⟨(a.push x).setIfInBounds d o,l⟩
 congr 1;apply vL;intro i;by_cases f:i=d
 ·subst f;rw[yQ (by rw[Array.size_push];exact yL c),uU,if_neg (by rw[vX];exact zd c),yQ c]
 ·rw[jb (Ne.symm f),uU,uU];rw[vX];by_cases e:i=a.size
  ·rw[if_pos e,if_pos e]
  ·rw[if_neg e,if_neg e,jb (Ne.symm f)]
noncomputable def cb:Heap->Nat->List (List aS)->Heap
 | b,_,[]=>b
 | b,T,xs::r=>cb (b.push (aB (au T xs).toArray xs.length)) (T+3*xs.length) r
theorem rz(T:Nat):∀(l:List aS),iq (au T l):=by
 intro l
 induction l generalizing T with
 | nil=>intro e a;cases a
 | cons x r b=>
  intro e a;rw[au]at a;rcases zM.mp a with rfl|a
  ·exact⟨_,_,rfl⟩
  ·exact b (T+3) e a
theorem qk(T:Nat):∀(l:List aS),iq (cS T l):=by
 intro l
 induction l generalizing T with
 | nil=>intro e a;cases a
 | cons x r b=>
  intro e a;rw[cS]at a;rcases zM.mp a with rfl|a
  ·exact⟨_,_,rfl⟩
  ·exact b (T+2) e a
theorem lc:∀(T:Nat)(l:List aS),(cS T l).map (·.hash)=l.map λx=>hashInt x.1
 | _,[]=>rfl
 | T,x::r=>by rw[cS,zV,zV,lc]
theorem fa:∀(T:Nat)(l:List aS),(cS T l).length=l.length
 | _,[]=>rfl
 | T,x::r=>by rw[cS,zL,zL,fa]
section
variable {tb:String->Option Builtin}{p:Program}{w:World}{n₀:Nat}{ann:Option Value}{α β:Type}
noncomputable abbrev Run:=List (Sem Value×Sem Value)
noncomputable def e0(run:Run)(a:Option Addr):Sem (Option Addr):=
 if run.isEmpty=true then pure a else match a with
  | none=>do let d<-subDict run;pure (some d)
  | some d=>do
   let sub<-jK [.ref d] (subDict run)
   (jK [.ref d,.ref sub] (mergeMapping d (.ref sub) false)).onRaise λx=>do let _<-jK [.ref d,x] (runValue (.builtin "proto.let_go" {}))
   pure (some d)
theorem ly{xs:List aS}{q:Pos}{d:Addr}{b:Heap}{n:Nat}{new:List DictEntry}{s:Shared}(r:s.heap=put b d (aB es.toArray ep))(i:d<b.objs.size)(j:n₀<=d)(g:sysModules<d)(u:xs≠[])(v:es≠[])
 (h:new.length=xs.length) (x:es.length+new.length<1000) (k:(es.map (·.hash)++new.map (·.hash)).Nodup) (y:iq new)
 (c:Ex treeTable p w n₀ ann (subDict (xs.map (aE q0))) s q n s.heap.objs.size {s with heap:=s.heap.push (aB new.toArray xs.length),toks:=s.toks+3*xs.length} q0):
 Ex treeTable p w n₀ ann (e0 (xs.map (aE q0)) (some d)) s q (n+(5+6*xs.length)) (some d) {s with heap:=put (b.push (aB new.toArray xs.length)) d (aB (es++new).toArray (ep+xs.length)),toks:=s.toks+3*xs.length} q0:=by
 unfold e0;rw[if_neg (by simp[u])];dsimp only;have l:s.heap.objs.size=b.objs.size:=by rw[r,lJ]
 have hp:s.heap.push (aB new.toArray xs.length)=put (b.push (aB new.toArray xs.length)) d (aB es.toArray ep):=by rw[r,mG b _ _ i]
 rw[hp,l]at c;have o:d<(b.push (aB new.toArray xs.length)).objs.size:=by rw[yW];exact yL i
 have t:=BB (tb:=treeTable) (p:=p) (w:=w) (n₀:=n₀) (ann:=ann) (d:=d) (a:=b.objs.size) (b:=b.push (aB new.toArray xs.length)) (es1:=es) (es2:=new) (ep1:=ep) (ep2:=xs.length) (q:=q0)
  (s:={s with heap:=put (b.push (aB new.toArray xs.length)) d (aB es.toArray ep),toks:=s.toks+3*xs.length}) rfl o (yF i) (zN _ rfl) (Nat.ble_eq.mpr j) v x k y (beq_eq_false_iff_ne.mpr λe=>absurd (Nat.lt_trans g i) (by rw[e];exact yu _))
 rw[h]at t;exact(Ex.bind (Ex.holding c) (Ex.bind (Ex.onRaise (Ex.holding t)) (m:=0) (f:=λ_=>yc (some d)) Ex.pure)).steps (Nat.add_succ_sub_one ..)
end
noncomputable abbrev DSt:=Option Addr×Run
noncomputable abbrev dN(r:Run):List (Option (Sem Value)×Sem Value):=r.map λp=>(some p.1,p.2)
section
variable {f:Option (Sem Value)×Sem Value->DSt->Sem (ForInStep DSt)}
theorem si(b:∀(p:Sem Value×Sem Value)(a:Option Addr)(run:Run),run.length+1<17->f (some p.1,p.2) (a,run)=pure (.yield (a,run++[p]))):
 ∀(xs:Run)(rest:List (Option (Sem Value)×Sem Value))(a:Option Addr)(run:Run),run.length+xs.length<17->forIn (dN xs++rest) ((a,run):DSt) f=forIn rest ((a,run++xs):DSt) f
 | [],rest,a,run,h=>by simp[dN]
 | p::xs,rest,a,run,h=>by
  simp only[zL]at h;refine(?_:forIn ((some p.1,p.2)::(dN xs++rest)) ((a,run):DSt) f=_);rw[yf,b p a run (Mine.fk1 h),pure_bind];dsimp only;refine(si b xs rest a (run++[p]) (by simp;exact Mine.fk1 h)).trans ?_;simp
theorem EM(c:∀(p:Sem Value×Sem Value)(a:Option Addr)(run:Run),run.length+1<17->f (some p.1,p.2) (a,run)=pure (.yield (a,run++[p])))
 (d:∀(p:Sem Value×Sem Value)(a:Option Addr)(run:Run),run.length+1=17->f (some p.1,p.2) (a,run)=(do let m<-e0 (run++[p]) a;pure (.yield ((m,[]):DSt))))
 (xs:Run) (b:xs.length=17) (rest:List (Option (Sem Value)×Sem Value)) (a:Option Addr):forIn (dN xs++rest) ((a,[]):DSt) f=(do let m<-e0 xs a;forIn rest ((m,[]):DSt) f):=by
 obtain⟨ys,z,rfl⟩:∃ys z,xs=ys++[z]:=⟨xs.dropLast,xs.getLast (by rintro rfl;simp at b),(ug _).symm⟩;simp only[zF,zL,yt]at b;simp only[(by simp[dN]:dN (ys++[z])++rest=dN ys++((some z.1,z.2)::rest)),si c ys _ a [] (by simp;exact zS b),jN,yf,d z a ys (b)];simp only[bind_assoc,pure_bind]
end
section
variable {p:Program}{w:World}{n₀:Nat}{ann:Option Value}{α β:Type}
theorem is(d:Addr):∀(b:Heap)(T:Nat)(cs:List (List aS)),d<b.objs.size->d<(cb b T cs).objs.size
 | b,T,[],h=>h
 | b,T,xs::r,h=>is d _ _ r (by rw[yW];exact yL h)
theorem nC{f:Option (Sem Value)×Sem Value->DSt->Sem (ForInStep DSt)}(y:∀(p:Sem Value×Sem Value)(a:Option Addr)(run:Run),run.length+1<17->f (some p.1,p.2) (a,run)=pure (.yield (a,run++[p])))
 (z:∀(p:Sem Value×Sem Value)(a:Option Addr)(run:Run),run.length+1=17->f (some p.1,p.2) (a,run)=(do let m<-e0 (run++[p]) a;pure (.yield ((m,[]):DSt))))
 {d:Addr} (j:n₀<=d) (i:sysModules<d) {v:DSt}{m:Nat}{s2:Shared}:
  ∀(cs:List (List aS))(b:Heap)(es:List DictEntry)(ep:Nat)(s:Shared),(∀c∈cs,c.length=17)->s.heap=put b d (aB es.toArray ep)->d<b.objs.size->es≠[]->es.length+cs.flatten.length<1000->(es.map (·.hash)++cs.flatten.map λx=>hashInt x.1).Nodup->(∀x∈cs.flatten,x.2.length<=100)->
   Ex treeTable p w n₀ ann (forIn rest ((some d,[]):DSt) f) {s with heap:=put (cb b s.toks cs) d (aB (es++au s.toks cs.flatten).toArray (ep+cs.flatten.length)),toks:=s.toks+3*cs.flatten.length} q0 m v s2 q2->
   Ex treeTable p w n₀ ann (forIn (dN (cs.flatten.map (aE q0))++rest) ((some d,[]):DSt) f) s q0 (330*cs.length+m) v s2 q2
  | [],b,es,ep,s,hc,u,hd,he,hz,hnd,hx,h=>by
   have e:({s with heap:=put (cb b s.toks []) d (aB (es++au s.toks ([]:List (List aS)).flatten).toArray (ep+([]:List (List aS)).flatten.length)),toks:=s.toks+3*([]:List (List aS)).flatten.length}:Shared)=s:=by
    obtain⟨E,g,I,t,J⟩:=s;have u:E=put b d (aB es.toArray ep):=u;simp[au,u,cb]
   rw[e]at h;exact h.steps (by simp)
  | xs::r,b,es,ep,s,hc,u,hd,he,hz,hnd,hx,h=>by
   have k:xs.length=17:=hc xs (zj);simp only[yd,zF,zx]at hz hnd;rw[(by simp[dN]:dN ((xs::r).flatten.map (aE q0))++rest=dN (xs.map (aE q0))++(dN (r.flatten.map (aE q0))++rest)),EM y z _ (by simp[k])];have A:(xs.map λx=>hashInt x.1).Nodup:=(ye.mp (ye.mp hnd).2.1).1;have B:s.heap.objs.size=b.objs.size:=by simp only[u,lJ]
   have C:xs≠[]:=by rintro rfl;simp at k
   refine Ex.steps (n:=2+13*xs.length+(5+6*xs.length)+(330*r.length+m)) (Ex.bind (ly u hd j i C he (ca _ _) (by rw[ca];exact Mine.fk1 hz) (by rw[dF];rw[<-yG]at hnd;exact(ye.mp hnd).1) (rz _ _) (mj (p:=p) (w:=w) (n₀:=n₀) (ann:=ann) (l:=xs) (q0:=q0) (q:=q0) (s:=s) (by lia) (Mine.fk1 (zS k)) A (λx o=>hx x (by simp[o])) (Nat.ble_eq.mpr (by rw[B];exact zg (zu j hd))))) (nC y z j i r (b.push (aB (au s.toks xs).toArray xs.length)) (es++au s.toks xs) (ep+xs.length) _ (λc D=>hc c (by simp[D])) rfl (by rw[yW];exact yL hd) (by simp[he]) (by simp only[zF,ca];exact Mine.fk1 hz)
    (by simp only[zx,dF,yG];exact hnd) (λx o=>hx x (by rw[yd,zb];exact .inr o)) ?_)) (by simp only[zL];lia)
   have F:es++au s.toks (xs::r).flatten=es++au s.toks xs++au (s.toks+3*xs.length) r.flatten:=by simp only[yd,kb,yG]
   have G:ep+(xs::r).flatten.length=ep+xs.length+r.flatten.length:=by simp only[yd,zF];exact(jk ..).symm
   have H:s.toks+3*(xs::r).flatten.length=s.toks+3*xs.length+3*r.flatten.length:=by simp only[yd,zF];lia
   simp only[F,G,H]at h;exact h
end
end MineH
namespace MineH
open Mine (ce10_)
open PySem PySem.Calls PyProof.Rows PySem.W
section
variable {p:Program}{w:World}{n₀:Nat}{ann:Option Value}{α β:Type}
noncomputable def ii(h:Heap)(T:Nat)(c0:List aS)(cs:List (List aS))(tail:List aS):Heap:=
 put ((cb (h.push (aB (au T c0).toArray c0.length)) (T+3*c0.length) cs).push (aB (cS (T+3*c0.length+3*cs.flatten.length) tail).toArray tail.length)) h.objs.size
  (aB (au T c0++au (T+3*c0.length) cs.flatten++cS (T+3*c0.length+3*cs.flatten.length) tail).toArray (c0.length+cs.flatten.length+tail.length))
theorem rQ:∀{c0:List aS}{cs:List (List aS)}{tail:List aS}{q0 q:Pos}{s:Shared}(B:c0.length=17)(I:∀c∈cs,c.length=17)(G:tail≠[])(t:tail.length<=15)(C:(c0++cs.flatten++tail).length<900)(j:((c0++cs.flatten++tail).map λx=>hashInt x.1).Nodup)(D:∀x∈c0++cs.flatten++tail,x.2.length<=100)(g:n₀<=s.heap.objs.size)(i:sysModules<s.heap.objs.size),
 Ex treeTable p w n₀ ann (dictDisplay (dN ((c0++cs.flatten++tail).map (aE q0)))) s q (223+(330*cs.length+(6+19*tail.length))) (.ref s.heap.objs.size)
  {s with heap:=ii s.heap s.toks c0 cs tail,toks:=s.toks+3*c0.length+3*cs.flatten.length+3*tail.length} q0:=by
 revert p w n₀ ann;exists Mine.ce10_,p,w,n₀,ann,c0,cs,tail,q0,q,s;intros;simp only[zF,zx]at C j;have e:c0≠[]:=by rintro rfl;simp at B
 obtain⟨u,E,J⟩:=ye.mp j;obtain⟨F,K,L⟩:=ye.mp u
 skip
 skip
 refine(by simp[dN]:dN ((c0++cs.flatten++tail).map (aE q0))=dN (c0.map (aE q0))++(dN (cs.flatten.map (aE q0))++(dN (tail.map (aE q0))++[])))▸?_;have H:s.heap.objs.size<(s.heap.push (aB (au s.toks c0).toArray c0.length)).objs.size:=by simp only[yW];exact zq _
 have v:au s.toks c0≠[]:=λh=>e (zk.mp ((ca s.toks c0).symm.trans (congrArg _ h)));refine Ex.steps (n:=223+330*cs.length+(6+19*tail.length)) (Ex.bind (n:=223+330*cs.length) (m:=6+19*tail.length) (a:=((some s.heap.objs.size,tail.map (aE q0)):DSt))
  (s1:={s with heap:=put (cb (s.heap.push (aB (au s.toks c0).toArray c0.length)) (s.toks+3*c0.length) cs) s.heap.objs.size (aB (au s.toks c0++au (s.toks+3*c0.length) cs.flatten).toArray (c0.length+cs.flatten.length)),toks:=s.toks+3*c0.length+3*cs.flatten.length}) (q1:=q0) ?_ ?_) (jk ..)
 ·have M:∀{f:Option (Sem Value)×Sem Value->DSt->Sem (ForInStep DSt)},(∀(p:Sem Value×Sem Value)(b:Option Addr)(run:Run),run.length+1<17->f (some p.1,p.2) (b,run)=pure (.yield (b,run++[p])))->
   (∀(p:Sem Value×Sem Value)(b:Option Addr)(run:Run),run.length+1=17->f (some p.1,p.2) (b,run)=(do let m<-e0 (run++[p]) b;pure (.yield ((m,[]):DSt))))->
   Ex treeTable p w n₀ ann (forIn (dN (c0.map (aE q0))++(dN (cs.flatten.map (aE q0))++(dN (tail.map (aE q0))++[]))) ((none,[]):DSt) f) s q (223+330*cs.length) ((some s.heap.objs.size,tail.map (aE q0)):DSt)
    {s with heap:=put (cb (s.heap.push (aB (au s.toks c0).toArray c0.length)) (s.toks+3*c0.length) cs) s.heap.objs.size (aB (au s.toks c0++au (s.toks+3*c0.length) cs.flatten).toArray (c0.length+cs.flatten.length)),toks:=s.toks+3*c0.length+3*cs.flatten.length} q0:=λ{f} k y=>by
   rw[EM k y _ (by simp[B])];have o:Ex treeTable p w n₀ ann (e0 (c0.map (aE q0)) none) s q (2+13*c0.length) (some s.heap.objs.size) {s with heap:=s.heap.push (aB (au s.toks c0).toArray c0.length),toks:=s.toks+3*c0.length} q0:=by
    dsimp only[e0];rw[if_neg (by simp[e])];exact(Ex.bind (mj (p:=p) (w:=w) (n₀:=n₀) (ann:=ann) (l:=c0) (q0:=q0) (q:=q) (s:=s) (by lia) (Mine.fk1 (zS B)) F (λx h=>D x (by simp[h])) (Nat.ble_eq.mpr g)) (m:=0) (f:=λd=>yc (some d)) Ex.pure).steps rfl
   refine Ex.steps (n:=2+13*c0.length+(330*cs.length+0)) (Ex.bind o (nC k y g i cs (s.heap.push (aB (au s.toks c0).toArray c0.length)) (au s.toks c0) c0.length _ I (kQ _ _) H v (by rw[ca];exact Mine.fk1 C) (by rw[dF];exact u) (λx h=>D x (by simp only[zb];exact .inl (.inr h))) ?_)) (by lia);rw[si k _ _ _ _ (by simp;exact zu t (by decide)),jN,jJ];exact Ex.pure
  refine M (λp b run h=>?_) (λp b run h=>?_)
  ·have e:((run++[(p.1,p.2)]).length==17)=false:=by simp;exact zd (Nat.le_of_lt_succ h)
   simp only[e,yK,if_false]
  ·have e:((run++[(p.1,p.2)]).length==17)=true:=by simp;exact Nat.succ.inj h
   simp only[e,if_true];rfl
 ·have z:s.heap.objs.size<(cb (s.heap.push (aB (au s.toks c0).toArray c0.length)) (s.toks+3*c0.length) cs).objs.size:=is _ _ _ _ H;have A:=qK (p:=p) (w:=w) (n₀:=n₀) (ann:=ann) (l:=tail) (q0:=q0) (q:=q0) (s:={s with heap:=put (cb (s.heap.push (aB (au s.toks c0).toArray c0.length)) (s.toks+3*c0.length) cs) s.heap.objs.size (aB (au s.toks c0++au (s.toks+3*c0.length) cs.flatten).toArray (c0.length+cs.flatten.length)),toks:=s.toks+3*c0.length+3*cs.flatten.length}) G t E (λx h=>D x (by simp[h])) (Nat.ble_eq.mpr (by skip;simp only[lJ];exact zg (zu g z)));have o:=ly (p:=p) (w:=w) (n₀:=n₀) (ann:=ann) rfl z g i G (by simp[v]) (by rw[fa]) (by simp only[zF,ca,fa];exact zB C (zH ..)) (by simp only[zx,dF,dF,lc];exact j) (qk _ _) A;refine(?_:Ex _ _ _ _ _ (e0 (tail.map (aE q0)) (some s.heap.objs.size)>>=λr=>match r with|some d=>yc (jV d)|none=>newDict) _ _ _ _ _ _);exact Ex.steps (n:=1+13*tail.length+(5+6*tail.length)+0) (Ex.bind o (m:=0) (f:=λr=>match r with|some d=>yc (jV d)|none=>newDict) (Ex.pure (a:=jV s.heap.objs.size))) (by simp +arith)
end
end MineH
namespace MineH
open PySem PySem.Calls PyProof.Rows PySem.W
open Mine (b3Tab)
noncomputable def mT:Nat->List aS->List (List aS)
 | 0,_=>[]
 | n+1,l=>l.take 17::mT n (l.drop 17)
theorem ki:∀(n:Nat)(l:List aS),(mT n l).length=n
 | 0,_=>rfl
 | n+1,l=>by rw[mT,zL,ki]
theorem m2:∀(n:Nat)(l:List aS),17*n<=l.length->∀c∈mT n l,c.length=17
 | 0,_,_,c,h=>by cases h
 | n+1,l,hl,c,h=>by
  rw[mT]at h;rcases zM.mp h with rfl|h
  ·rw[yP];lia
  ·exact m2 n (l.drop 17) (by rw[yC];exact Mine.fk2 hl (Mine.sa l.length 17)) c h
theorem eY:∀(n:Nat)(l:List aS),(mT n l).flatten=l.take (17*n)
 | 0,l=>by simp[mT]
 | n+1,l=>by
  rw[mT,yd,eY,<-List.take_add,show 17+17*n=17*(n+1) by exact jP ..]
noncomputable def eg:Nat->List (List aS)->List Obj
 | _,[]=>[]
 | T,xs::r=>aB (au T xs).toArray xs.length::eg (T+3*xs.length) r
theorem gy:∀(T:Nat)(cs:List (List aS)),(eg T cs).length=cs.length
 | _,[]=>rfl
 | T,xs::r=>by rw[eg,zL,zL,gy]
theorem g3:∀(b:Heap)(T:Nat)(cs:List (List aS)),cb b T cs=⟨b.objs++(eg T cs).toArray,b.life⟩
 | b,T,[]=>by simp[cb,eg]
 | b,T,xs::r=>by
  rw[cb,g3];obtain⟨a,l⟩:=b;show(⟨a.push _++(eg _ r).toArray,l⟩:Heap)=⟨a++(eg T (xs::r)).toArray,l⟩
  congr 1;rw[eg];apply Array.ext';simp
noncomputable def ic(T:Nat)(c0:List aS)(cs:List (List aS))(tail:List aS):List Obj:=
 aB (au T c0++au (T+3*c0.length) cs.flatten++cS (T+3*c0.length+3*cs.flatten.length) tail).toArray (c0.length+cs.flatten.length+tail.length)::
  (eg (T+3*c0.length) cs++[aB (cS (T+3*c0.length+3*cs.flatten.length) tail).toArray tail.length])
theorem mU(h:Heap)(T:Nat)(c0:List aS)(cs:List (List aS))(tail:List aS):ii h T c0 cs tail=⟨h.objs++(ic T c0 cs tail).toArray,h.life⟩:=by
 unfold ii;rw[g3];obtain⟨a,l⟩:=h;show(⟨((a.push _++(eg _ cs).toArray).push _).setIfInBounds a.size _,l⟩:Heap)=⟨a++(ic T c0 cs tail).toArray,l⟩
 congr 1;apply Array.ext';unfold ic;simp
noncomputable abbrev b3c:List aS:=b3Tab.take 17
noncomputable def b3s:List (List aS):=mT 37 (b3Tab.drop 17)
noncomputable abbrev b3t:List aS:=b3Tab.drop 646
noncomputable def dictO(a:Nat):Obj:=(ic 598 b3c b3s b3t).getD (a-223) default
theorem b3_len:b3Tab.length=650:=by decide +kernel
theorem iv:b3c++b3s.flatten++b3t=b3Tab:=by
 unfold b3s;rw[eY];have a:(b3Tab.drop 17).take (17*37)++b3Tab.drop 646=b3Tab.drop 17:=by
  have:=jc 629 (b3Tab.drop 17);rw[uV]at this;exact this
 rw[yG,a,jc]
noncomputable def asc:Int->List aS->Bool
 | _,[]=>true
 | k,x::r=>decide (k<x.1)&&decide (x.1<1000000000)&&decide (x.2.length<=100)&&asc x.1 r
theorem Gr:asc 0 b3Tab=true:=by decide +kernel
theorem qC:∀(l:List aS)(k:Int),0<=k->asc k l=true->(∀x∈l,k<x.1/\x.1<1000000000/\x.2.length<=100)/\(l.map λx=>hashInt x.1).Nodup
 | [],_,_,_=>⟨λ_ h=>(nomatch h),List.Pairwise.nil⟩
 | x::r,k,hk,h=>by
  rw[asc,za,za,za]at h;obtain⟨⟨⟨c,b⟩,d⟩,j⟩:=h;have c:=of_decide_eq_true c;have b:=of_decide_eq_true b;have d:=of_decide_eq_true d;obtain⟨f,m⟩:=qC r x.1 (by lia) j;have g:∀i:Int,0<=i->i<1000000000->hashInt i=i:=λi n s=>by
   have o:(i.natAbs%(2 ^ 61-1))=i.natAbs:=Nat.mod_eq_of_lt (by lia);have e:rawHash i=i:=by
    simp only[rawHash];rw[if_neg (show ¬i<0 by exact ua.mpr n)];have p:((i.natAbs:Int)%((2 ^ 61-1:Nat):Int))=i:=by
     rw[<-Int.natCast_emod,o];lia
    rw[p,if_neg (show ¬((i == -1)=true)fromλh=>by have:=beq_iff_eq.mp h;lia)]
   unfold hashInt;rw[e,if_neg (show ¬((i == -1)=true)fromλh=>by have:=beq_iff_eq.mp h;lia)]
  refine⟨λy a=>?_,?_⟩
  ·rcases zM.mp a with rfl|a
   ·exact⟨c,b,d⟩
   ·have:=f y a;exact⟨by lia,this.2⟩
  ·rw[zV,List.nodup_cons];refine⟨λq=>?_,m⟩;obtain⟨y,a,e⟩:=zv.mp q;have:=f y a;rw[g _ (by lia) b,g _ (by lia) this.2.1]at e;exact Mine.iz2 (Int.le_of_eq e) this.1
end MineH
namespace MineP
open PySem PySem.Calls PySem.W
open MineH (dictO)
noncomputable abbrev pw:=jL
noncomputable def stB(i:Nat):Stmt:=(behindTheImports pw).getD i default
noncomputable def stC(i j:Nat):Stmt:=if h:(stB i).ctorIdx=2 then Stmt.ClassDef.elim (motive_2:=λ_=>Stmt) _ h λ_ _ _ b _ _ _ _ _ _ _=>b.getD j default else default
noncomputable def fnOf{e:Type}(d:e)(f:Arguments->List Stmt->Scope->e)(s:Stmt):e:=if h:s.ctorIdx=0 then Stmt.FunctionDef.elim (motive_2:=λ_=>e) s h λ_ a b _ _ _ c _ _ _=>f a b c else d
noncomputable def fnArgs:Stmt->Arguments:=fnOf default λa _ _=>a
noncomputable def Ba:Stmt->FuncBody:=fnOf (.stmts []) λ_ b _=>.stmts b
noncomputable def fnScope:Stmt->Scope:=fnOf default λ_ _ c=>c
noncomputable def aY:Env:={scope:=pw.main.scope,locals:=mainNs,globals:=mainNs,cells:=[],code:=.ref 30,frame:=some 31}
noncomputable abbrev bO:List Frame:=[topFrame ⟨0,0,0,0⟩]
noncomputable abbrev aV:Code:=.body (behindTheImports pw) aY
noncomputable section
noncomputable abbrev q:=zf
noncomputable abbrev zs(s:String)(t:Nat):Value:=.str (q s) t
noncomputable abbrev zi(i:Int)(t:Nat):Value:=.int i t
noncomputable abbrev E(P:Params)(k:String)(t:Nat)(v:Value):DictEntry:={hash:=PyData.keyHash P (q k),key:=zs k t,val:=v}
noncomputable abbrev L(o:Obj):BT:=.node o .nil .nil
noncomputable abbrev N(o:Obj)(l r:BT):BT:=.node o l r
noncomputable abbrev oF(v:Array Value):Obj:={cls:=.none,data:=.fields v}
noncomputable abbrev oT(c:String)(v:Array Value):Obj:={cls:=.type c,data:=.fields v}
noncomputable abbrev oS(c:String)(v:Array Value):Obj:={cls:=.type c,data:=.seq v}
noncomputable abbrev oD(v:Array DictEntry)(n:Nat):Obj:={cls:=.type "dict",data:=.dict v n}
noncomputable abbrev cO(n m:String)(t l c a k:Nat):Obj:=oT "code" #[zs n t,zs m (t+1),zs "/claim/cut.py" (t+2),zi l 0,zi c 0,zi 0 0,zi 0 0,zi 3 0,.ref a,.bool true,zi 276 0,.ref (a+1),.none,.ref (a+2),.ref (a+3),.ref (a+4),zi k 0,zi l 0,zs "/claim/cut.py" (k+1)]
def pu(o:Obj)(l:List DictEntry):Obj:=match o.data with|.dict v n=>{o with data:=.dict (v.toList++l).toArray (n+l.length)}|_=>o
def ps(o:Obj)(i:Nat)(e:DictEntry):Obj:=match o.data with|.dict v n=>{o with data:=.dict (v.toList.set i e).toArray n}|_=>o
def bs(P:Params)(t:Nat):List String->List DictEntry|[]=>[]|s::r=>E P s t (.builtin s)::bs P (t+1) r
def ys(P:Params)(t:Nat):List String->List DictEntry|[]=>[]|s::r=>E P s t (.type s)::ys P (t+1) r
noncomputable abbrev fA(n m:String)(s:Stmt):Obj:={cls:=.none,dict:=none,data:=.func {name:=q n,qualname:=q m,params:=fnArgs s,body:=Ba s,scope:=fnScope s,globals:=0,closure:=[],defaults:=.none,kwdefaults:=.none,doc:=.none,pyModule:=.none,annotations:=none,code:=.none,closureTuple:=.none,builtins:=0},slots:=#[]}
noncomputable abbrev fC(n m:String)(s:Stmt)(p:Value)(c:Nat)(l:List (Str×Addr))(d e f:Value):Obj:={cls:=.type "function",dict:=none,data:=.func {name:=q n,qualname:=q m,params:=fnArgs s,body:=Ba s,scope:=fnScope s,globals:=3,closure:=l,defaults:=d,kwdefaults:=.none,doc:=e,pyModule:=p,annotations:=none,code:=.ref c,closureTuple:=f,builtins:=0},slots:=#[]}
noncomputable abbrev fB(n m:String)(s:Stmt)(p:Value)(c:Nat):Obj:=fC n m s p c [] .none .none .none
noncomputable abbrev EB(P:Params)(k:String)(t:Nat):DictEntry:=E P k t (.builtin k)
noncomputable abbrev ER(P:Params)(k:String)(t a:Nat):DictEntry:=E P k t (.ref a)
noncomputable abbrev ES(P:Params)(k:String)(t:Nat)(v:String)(u:Nat):DictEntry:=E P k t (zs v u)
noncomputable abbrev ZH:Value:=zs "cpy313.email.header" 289
noncomputable abbrev ZS:Value:=zs "cpy313.stringprep" 529
noncomputable abbrev ZM:Value:=zs "__main__" 164
noncomputable abbrev zc(t:Nat):Value:=zs "/claim/cut.py" t
noncomputable abbrev gD(t a:Nat):Obj:=oT "getset_descriptor" #[zs "__dict__" t,.ref a,.builtin "function.__dict__",.builtin "function.__dict__#set"]
noncomputable abbrev gW(t a:Nat):Obj:=oT "getset_descriptor" #[zs "__weakref__" t,.ref a,.builtin "ExceptionGroup.__weakref__",.none]
noncomputable abbrev tU(v:Array Value):Obj:=oS "tuple" v
noncomputable abbrev fR(a b c:Nat)(v:Value):Obj:={cls:=.type "frame",slots:=#[some (.ref a),some (.ref b),some (.ref c),none,some v,none,some (.ref 0)]}
noncomputable abbrev cM(n:String)(t l a k:Nat)(x:Value):Obj:=oT "code" #[zs n t,zs n (t+1),zc (t+2),zi l 0,zi 0 0,zi 0 0,zi 0 0,zi 0 0,.ref a,.bool false,x,.ref (a+1),.none,.none,.none,.none,zi k 0,zi l 0,zc (k+1)]
variable (P:Params)
def I8:Obj:=oD #[ES P "__name__" 1 "builtins" 160,E P "__doc__" 2 (.builtin "builtins.__doc__:str#opaque"),E P "__package__" 3 (.builtin "builtins.__package__:str#opaque"),E P "__loader__" 4 (.builtin "builtins.__loader__:shared#opaque"),E P "__spec__" 5 (.builtin "builtins.__spec__#opaque"),EB P "__build_class__" 6,EB P "__import__" 7,EB P "abs" 8,EB P "all" 9,EB P "any" 10,EB P "ascii" 11,EB P "bin" 12,EB P "breakpoint" 13,EB P "callable" 14,EB P "chr" 15,EB P "compile" 16,EB P "delattr" 17,EB P "dir" 18,EB P "divmod" 19,EB P "eval" 20,EB P "exec" 21,EB P "format" 22,EB P "getattr" 23,EB P "globals" 24,EB P "hasattr" 25,EB P "hash" 26,EB P "hex" 27,EB P "id" 28,EB P "input" 29,EB P "isinstance" 30,EB P "issubclass" 31,EB P "iter" 32,EB P "aiter" 33,EB P "len" 34,EB P "locals" 35,EB P "max" 36,EB P "min" 37,EB P "next" 38,EB P "anext" 39,EB P "oct" 40,EB P "ord" 41,EB P "pow" 42,EB P "print" 43,EB P "repr" 44,EB P "round" 45,EB P "setattr" 46,EB P "sorted" 47,EB P "sum" 48,EB P "vars" 49,E P "None" 50 .none,E P "Ellipsis" 51 (Value.ellipsis),E P "NotImplemented" 52 (Value.notImplemented),E P "False" 53 (.bool false),E P "True" 54 (.bool true),E P "bool" 55 (.type "bool"),E P "memoryview" 56 (.type "memoryview"),E P "bytearray" 57 (.type "bytearray"),E P "bytes" 58 (.type "bytes"),E P "classmethod" 59 (.type "classmethod"),E P "complex" 60 (.type "complex"),E P "dict" 61 (.type "dict"),E P "enumerate" 62 (.type "enumerate"),E P "filter" 63 (.type "filter"),E P "float" 64 (.type "float"),E P "frozenset" 65 (.type "frozenset"),E P "property" 66 (.type "property"),E P "int" 67 (.type "int"),E P "list" 68 (.type "list"),E P "map" 69 (.type "map"),E P "object" 70 (.type "object"),E P "range" 71 (.type "range"),E P "reversed" 72 (.type "reversed"),E P "set" 73 (.type "set"),E P "slice" 74 (.type "slice"),E P "staticmethod" 75 (.type "staticmethod"),E P "str" 76 (.type "str"),E P "super" 77 (.type "super"),E P "tuple" 78 (.type "tuple"),E P "type" 79 (.type "type"),E P "zip" 80 (.type "zip"),E P "__debug__" 81 (.bool true),E P "BaseException" 82 (.type "BaseException"),E P "BaseExceptionGroup" 83 (.type "BaseExceptionGroup"),E P "Exception" 84 (.type "Exception"),E P "GeneratorExit" 85 (.type "GeneratorExit"),E P "KeyboardInterrupt" 86 (.type "KeyboardInterrupt"),E P "SystemExit" 87 (.type "SystemExit"),E P "ArithmeticError" 88 (.type "ArithmeticError"),E P "AssertionError" 89 (.type "AssertionError"),E P "AttributeError" 90 (.type "AttributeError"),E P "BufferError" 91 (.type "BufferError"),E P "EOFError" 92 (.type "EOFError"),E P "ImportError" 93 (.type "ImportError"),E P "LookupError" 94 (.type "LookupError"),E P "MemoryError" 95 (.type "MemoryError"),E P "NameError" 96 (.type "NameError"),E P "OSError" 97 (.type "OSError"),E P "ReferenceError" 98 (.type "ReferenceError"),E P "RuntimeError" 99 (.type "RuntimeError"),E P "StopAsyncIteration" 100 (.type "StopAsyncIteration"),E P "StopIteration" 101 (.type "StopIteration"),E P "SyntaxError" 102 (.type "SyntaxError"),E P "SystemError" 103 (.type "SystemError"),E P "TypeError" 104 (.type "TypeError"),E P "ValueError" 105 (.type "ValueError"),E P "Warning" 106 (.type "Warning"),E P "FloatingPointError" 107 (.type "FloatingPointError"),E P "OverflowError" 108 (.type "OverflowError"),E P "ZeroDivisionError" 109 (.type "ZeroDivisionError"),E P "BytesWarning" 110 (.type "BytesWarning"),E P "DeprecationWarning" 111 (.type "DeprecationWarning"),E P "EncodingWarning" 112 (.type "EncodingWarning"),E P "FutureWarning" 113 (.type "FutureWarning"),E P "ImportWarning" 114 (.type "ImportWarning"),E P "PendingDeprecationWarning" 115 (.type "PendingDeprecationWarning"),E P "ResourceWarning" 116 (.type "ResourceWarning"),E P "RuntimeWarning" 117 (.type "RuntimeWarning"),E P "SyntaxWarning" 118 (.type "SyntaxWarning"),E P "UnicodeWarning" 119 (.type "UnicodeWarning"),E P "UserWarning" 120 (.type "UserWarning"),E P "BlockingIOError" 121 (.type "BlockingIOError"),E P "ChildProcessError" 122 (.type "ChildProcessError"),E P "ConnectionError" 123 (.type "ConnectionError"),E P "FileExistsError" 124 (.type "FileExistsError"),E P "FileNotFoundError" 125 (.type "FileNotFoundError"),E P "InterruptedError" 126 (.type "InterruptedError"),E P "IsADirectoryError" 127 (.type "IsADirectoryError"),E P "NotADirectoryError" 128 (.type "NotADirectoryError"),E P "PermissionError" 129 (.type "PermissionError"),E P "ProcessLookupError" 130 (.type "ProcessLookupError"),E P "TimeoutError" 131 (.type "TimeoutError"),E P "IndentationError" 132 (.type "IndentationError"),E P "_IncompleteInputError" 133 (.type "_IncompleteInputError"),E P "IndexError" 134 (.type "IndexError"),E P "KeyError" 135 (.type "KeyError"),E P "ModuleNotFoundError" 136 (.type "ModuleNotFoundError"),E P "NotImplementedError" 137 (.type "NotImplementedError"),E P "PythonFinalizationError" 138 (.type "PythonFinalizationError"),E P "RecursionError" 139 (.type "RecursionError"),E P "UnboundLocalError" 140 (.type "UnboundLocalError"),E P "UnicodeError" 141 (.type "UnicodeError"),E P "BrokenPipeError" 142 (.type "BrokenPipeError"),E P "ConnectionAbortedError" 143 (.type "ConnectionAbortedError"),E P "ConnectionRefusedError" 144 (.type "ConnectionRefusedError"),E P "ConnectionResetError" 145 (.type "ConnectionResetError"),E P "TabError" 146 (.type "TabError"),E P "UnicodeDecodeError" 147 (.type "UnicodeDecodeError"),E P "UnicodeEncodeError" 148 (.type "UnicodeEncodeError"),E P "UnicodeTranslateError" 149 (.type "UnicodeTranslateError"),E P "ExceptionGroup" 150 (.type "ExceptionGroup"),E P "EnvironmentError" 151 (.type "OSError"),E P "IOError" 152 (.type "OSError"),EB P "open" 153,E P "quit" 154 (.builtin "builtins.quit#opaque"),E P "exit" 155 (.builtin "builtins.exit#opaque"),E P "copyright" 156 (.builtin "builtins.copyright#opaque"),E P "credits" 157 (.builtin "builtins.credits#opaque"),E P "license" 158 (.builtin "builtins.license#opaque"),E P "help" 159 (.builtin "builtins.help#opaque")] 159
def I9:Obj:=oD #[ER P "builtins" 162 4,ER P "__main__" 163 5,ER P "_sre" 244 12] 3
def J9:Obj:={cls:=.none,data:=.dict #[E P "im\x70ort.loaded._sre" 183 (.bool true),ER P "class._frozen_importlib.BuiltinImporter" 185 14,ER P "watched.im\x70ort" 206 18,ER P "class._frozen_importlib.ModuleSpec" 216 22,E P "sys.modules.booked-epoch" 245 (zi 3 0),E P "im\x70ort.later-laid._sre" 270 (.bool true),ER P "watched.library" 272 27,E P "watched.library-objects" 0 (zs "\x0c" 0),E P "watched.library-deep._sre" 273 (zs "\x04\x00\x00\x0b\x04\x00\x00\x0b\x04\x00\x00\x03\x04\x00\x00\x0b\x08\x04dict\x02" 0)] 9}
def K9:Obj:=oD #[E P "__name__" 165 ZM,E P "__doc__" 166 .none,E P "__package__" 167 .none,E P "__loader__" 168 (.builtin "__main__.__loader__#opaque"),E P "__spec__" 169 .none,ER P "__annotations__" 170 6,ER P "__builtins__" 171 4,E P "__file__" 173 (zc 172),E P "__cached__" 174 .none,ER P "_sre" 275 12] 10
def L3:Obj:={cls:=.type "module",dict:=some 0}
def L4:Obj:={cls:=.type "module",dict:=some 3}
def L5:Obj:={cls:=.type "dict",data:=.dict #[]}
def L6:Obj:=tU #[]
def L7:Obj:=oF #[]
def L8:Obj:=cM "<module>" 176 1 7 179 (zi 175 0)
def J0:Obj:=fR 9 3 3 ZM
def J1:Obj:=oD #[ES P "__name__" 247 "_sre" 246,E P "__doc__" 248 .none,ES P "__package__" 250 "" 249,E P "__loader__" 251 (.builtin "off-the-table:_sre.__loader__:shared#opaque"),E P "__spec__" 252 (.builtin "off-the-table:_sre.__spec__:shared#opaque"),E P "compile" 253 (.builtin "_sre.compile"),E P "template" 254 (.builtin "off-the-table:_sre.template:shared#opaque"),E P "getcodesize" 255 (.builtin "off-the-table:_sre.getcodesize:shared#opaque"),E P "ascii_iscased" 256 (.builtin "off-the-table:_sre.ascii_iscased:shared#opaque"),E P "unicode_iscased" 257 (.builtin "off-the-table:_sre.unicode_iscased:shared#opaque"),E P "ascii_tolower" 258 (.builtin "off-the-table:_sre.ascii_tolower:shared#opaque"),E P "unicode_tolower" 259 (.builtin "off-the-table:_sre.unicode_tolower:shared#opaque"),E P "MAGIC" 261 (zi 20230612 260),E P "CODESIZE" 263 (zi 4 262),E P "MAXREPEAT" 265 (zi 4294967295 264),E P "MAXGROUPS" 267 (zi 1073741823 266),ES P "copyright" 269 " SRE 2.2.2 Copyright (c) 1997-2002 by Secret Labs AB " 268] 17
def J2:Obj:={cls:=.type "module",dict:=some 11}
def J3:Obj:=oD #[ES P "__module__" 189 "_frozen_importlib" 186,E P "__firstlineno__" 190 (zi 971 187),E P "__doc__" 191 (.builtin "_frozen_importlib.BuiltinImporter.__doc__:str#opaque"),ES P "_ORIGIN" 192 "built-in" 188,E P "find_spec" 193 (.builtin "_frozen_importlib.BuiltinImporter.find_spec#opaque"),E P "create_module" 194 (.builtin "_frozen_importlib.BuiltinImporter.create_module#opaque"),E P "exec_module" 195 (.builtin "_frozen_importlib.BuiltinImporter.exec_module#opaque"),E P "get_code" 196 (.builtin "_frozen_importlib.BuiltinImporter.get_code#opaque"),E P "get_source" 197 (.builtin "_frozen_importlib.BuiltinImporter.get_source#opaque"),E P "is_package" 198 (.builtin "_frozen_importlib.BuiltinImporter.is_package#opaque"),E P "load_module" 199 (.builtin "_frozen_importlib.BuiltinImporter.load_module#opaque"),ER P "__static_attributes__" 200 15,ER P "__dict__" 202 16,ER P "__weakref__" 204 17] 14
def J4:Obj:={cls:=.type "type",data:=.cls {name:=q "BuiltinImporter",bases:=[.type "object"],mro:=[.ref 14,.type "object"],ns:=13,qualname:=q "BuiltinImporter"}}
def J5:Obj:=gD 201 14
def J6:Obj:=gW 203 14
def J7:Obj:={cls:=.none,data:=.seq #[zi 13 0,zs "\x06½\n__module__\x06º\x11_frozen_importlib\x06¾\x0f__firstlineno__\x04»\x00ϋ\x06¿\x07__doc__\t4_frozen_importlib.BuiltinImporter.__doc__:str#opaque\x06À\x07_ORIGIN\x06¼\x08built-in\x06Á\tfind_spec\t2_frozen_importlib.BuiltinImporter.find_spec#opaque\x06Â\x0dcreate_module\t6_frozen_importlib.BuiltinImporter.create_module#opaque\x06Ã\x0bexec_module\t4_frozen_importlib.BuiltinImporter.exec_module#opaque\x06Ä\x08get_code\t1_frozen_importlib.BuiltinImporter.get_code#opaque\x06Å\nget_source\t3_frozen_importlib.BuiltinImporter.get_source#opaque\x06Æ\nis_package\t3_frozen_importlib.BuiltinImporter.is_package#opaque\x06Ç\x0bload_module\t4_frozen_importlib.BuiltinImporter.load_module#opaque\x06È\x15__static_attributes__\x04\x00\x00\x0f\x06Ê\x08__dict__\x04\x00\x00\x10\x06Ì\x0b__weakref__\x04\x00\x00\x11" 0,.bool true,.bool true,zs "" 205,zi 21 0,zs "\x06ã\n__module__\x06Ù\x11_frozen_importlib\x06ä\x0f__firstlineno__\x04Ú\x00Ȳ\x06å\x07__doc__\t/_frozen_importlib.ModuleSpec.__doc__:str#opaque\x06æ\x08__init__\t,_frozen_importlib.ModuleSpec.__init__#opaque\x06ç\x08__repr__\t,_frozen_importlib.ModuleSpec.__repr__#opaque\x06è\x06__eq__\t*_frozen_importlib.ModuleSpec.__eq__#opaque\x06é\x06cached\t*_frozen_importlib.ModuleSpec.cached#opaque\x06ê\x06parent\t*_frozen_importlib.ModuleSpec.parent#opaque\x06ë\x0chas_location\t0_frozen_importlib.ModuleSpec.has_location#opaque\x06ì\x15__static_attributes__\x04\x00\x00\x17\x06î\x08__dict__\x04\x00\x00\x18\x06ð\x0b__weakref__\x04\x00\x00\x19\x06ñ\x08__hash__\x00" 0,.bool true,.bool true,zs "" 242] 1}
def J8:Obj:=oS "list" #[]
def K0:Obj:=oD #[ES P "name" 208 "_sre" 207,ER P "loader" 209 14,ES P "origin" 210 "built-in" 184,E P "loader_state" 211 .none,E P "submodule_search_locations" 212 .none,ER P "_uninitialized_submodules" 213 19,E P "_set_fileattr" 214 (.bool false),E P "_cached" 215 .none,E P "_initializing" 243 (.bool false)] 9
def K1:Obj:=oD #[ES P "__module__" 227 "_frozen_importlib" 217,E P "__firstlineno__" 228 (zi 562 218),E P "__doc__" 229 (.builtin "_frozen_importlib.ModuleSpec.__doc__:str#opaque"),E P "__init__" 230 (.builtin "_frozen_importlib.ModuleSpec.__init__#opaque"),E P "__repr__" 231 (.builtin "_frozen_importlib.ModuleSpec.__repr__#opaque"),E P "__eq__" 232 (.builtin "_frozen_importlib.ModuleSpec.__eq__#opaque"),E P "cached" 233 (.builtin "_frozen_importlib.ModuleSpec.cached#opaque"),E P "parent" 234 (.builtin "_frozen_importlib.ModuleSpec.parent#opaque"),E P "has_location" 235 (.builtin "_frozen_importlib.ModuleSpec.has_location#opaque"),ER P "__static_attributes__" 236 23,ER P "__dict__" 238 24,ER P "__weakref__" 240 25,E P "__hash__" 241 .none] 13
def K3:Obj:={cls:=.type "type",data:=.cls {name:=q "ModuleSpec",bases:=[.type "object"],mro:=[.ref 22,.type "object"],ns:=21,qualname:=q "ModuleSpec"}}
def K4:Obj:=tU #[zs "_cached" 219,zs "_set_fileattr" 220,zs "_uninitialized_submodules" 221,zs "loader" 222,zs "loader_state" 223,zs "name" 224,zs "origin" 225,zs "submodule_search_locations" 226]
def K5:Obj:=gD 237 22
def K6:Obj:=gW 239 22
def K7:Obj:={cls:=.ref 22,dict:=some 20}
def K8:Obj:={cls:=.none,data:=.seq #[zi 11 0,Value.str {cps:=#[6,247,8,95,95,110,97,109,101,95,95,6,246,4,95,115,114,101,6,248,7,95,95,100,111,99,95,95,0,6,250,11,95,95,112,97,99,107,97,103,101,95,95,6,249,0,6,251,10,95,95,108,111,97,100,101,114,95,95,4,0,0,14,6,252,8,95,95,115,112,101,99,95,95,4,0,0,26,6,253,7,99,111,109,112,105,108,101,9,12,95,115,114,101,46,99,111,109,112,105,108,101,6,254,8,116,101,109,112,108,97,116,101,9,13,95,115,114,101,46,116,101,109,112,108,97,116,101,6,255,11,103,101,116,99,111,100,101,115,105,122,101,9,16,95,115,114,101,46,103,101,116,99,111,100,101,115,105,122,101,6,256,13,97,115,99,105,105,95,105,115,99,97,115,101,100,9,18,95,115,114,101,46,97,115,99,105,105,95,105,115,99,97,115,101,100,6,257,15,117,110,105,99,111,100,101,95,105,115,99,97,115,101,100,9,20,95,115,114,101,46,117,110,105,99,111,100,101,95,105,115,99,97,115,101,100,6,258,13,97,115,99,105,105,95,116,111,108,111,119,101,114,9,18,95,115,114,101,46,97,115,99,105,105,95,116,111,108,111,119,101,114,6,259,15,117,110,105,99,111,100,101,95,116,111,108,111,119,101,114,9,20,95,115,114,101,46,117,110,105,99,111,100,101,95,116,111,108,111,119,101,114,6,261,5,77,65,71,73,67,4,260,0,20230612,6,263,8,67,79,68,69,83,73,90,69,4,262,0,4,6,265,9,77,65,88,82,69,80,69,65,84,4,264,0,4294967295,6,267,9,77,65,88,71,82,79,85,80,83,4,266,0,1073741823,6,269,9,99,111,112,121,114,105,103,104,116,6,268,53,32,83,82,69,32,50,46,50,46,50,32,67,111,112,121,114,105,103,104,116,32,40,99,41,32,49,57,57,55,45,50,48,48,50,32,98,121,32,83,101,99,114,101,116,32,76,97,98,115,32,65,66,32]} 0,.bool true,.bool false,zs "_sre" 271]}
def u0:BT:=N (J1 P) (L J8) (L K8)
def u1(Q:Params):BT:=N L8 (L J6) (L K6)
def u2(Q:Params):BT:=N L7 (L J5) (L K5)
def u3(Q:Params):BT:=N J0 (L J7) (L K7)
def lX:BT:=N (I8 P) (N (I9 P) (N (K9 P) (N L6 (L L6) (L K4)) (u0 P)) (N L4 (u1 P) (N (J3 P) (L (K1 P)) .nil))) (N (J9 P) (N L3 (u2 P) (N J2 (L (K0 P)) .nil)) (N L5 (u3 P) (N J4 (L K3) .nil)))
def I6:Obj:=cM "<module>" 277 1 28 280 (zi 276 0)
def I7:Obj:=fR 30 3 3 ZM
def u4(Q:Params):BT:=N L6 (L I7) .nil
def treeB:BT:=N (I8 P) (N (I9 P) (N (K9 P) (N L6 (u4 P) (L K4)) (u0 P)) (N L4 (u1 P) (N (J3 P) (L (K1 P)) (L L7)))) (N (J9 P) (N L3 (u2 P) (N J2 (L (K0 P)) (L L6))) (N L5 (u3 P) (N J4 (L K3) (L I6))))
def StB(w:World)(a:OsState):SharedT:=⟨treeB w.params,32,{},#[],{},282,a⟩
def j6:Obj:=pu (ps (K9 P) 0 (E P "__name__" 165 ZH)) [ER P "_wall" 288 38,ER P "_twin_re_1" 318 43,E P "NL" 320 (zs "\n" 319),ES P "EMPTYSTRING" 322 "" 321]
def j5:Obj:=oF #[zi 2 0,zi 0 0,.ref 37]
def j7:Obj:=tU #[zs "k" 285]
def j8:Obj:=fA "_wall" "_wall" (stB 0)
def j9:Obj:=cO "_wall" "_wall" 282 2 1 32 286
def l6:Obj:=fB "_wall" "_wall" (stB 0) ZM 37
def l7:Obj:=oS "list" #[zi 14 294,zi 4 295,zi 0 296,zi 1 297,zi 4294967295 298,zi 17 299,zi 0 300,zi 24 301,zi 11 302,zi 1 303,zi 4294967295 304,zi 13 305,zi 6 306,zi 16 307,zi 32 308,zi 16 309,zi 9 310,zi 0 311,zi 1 312,zi 17 313,zi 1 314,zi 1 315]
def l8:Obj:=tU #[.none,.none]
def l9:Obj:=tU #[zi 14 0,zi 4 0,zi 0 0,zi 1 0,zi 4294967295 0,zi 17 0,zi 0 0,zi 24 0,zi 11 0,zi 1 0,zi 4294967295 0,zi 13 0,zi 6 0,zi 16 0,zi 32 0,zi 16 0,zi 9 0,zi 0 0,zi 1 0,zi 17 0,zi 1 0,zi 1 0]
def m7:Obj:=oT "re.Pattern" #[zs "([ \t]+)" 292,zi 32 317,zi 1 0,.none,.none,.ref 42,zi 0 0]
def tree4:BT:=N (I8 P) (N (I9 P) (N (j6 P) (N L6 (u4 P) (N K4 (L l7) .nil)) (N (J1 P) (N J8 (L L6) .nil) (N K8 (L m7) .nil))) (N L4 (N L8 (N J6 (L L7) .nil) (N K6 (L l8) .nil)) (N (J3 P) (N (K1 P) (L j9) .nil) (L j5)))) (N (J9 P) (N L3 (N L7 (N J5 (L L6) .nil) (N K5 (L L5) .nil)) (N J2 (N (K0 P) (L j8) .nil) (L L6))) (N L5 (N J0 (N J7 (L j7) .nil) (N K7 (L l9) .nil)) (N J4 (N K3 (L l6) .nil) (L I6))))
def St4(w:World)(a:OsState):SharedT:=⟨tree4 w.params,44,{},#[],{},323,a⟩
def r9:Obj:=pu (j6 P) [ER P "_ValueFormatter" 432 116]
def r8:Obj:=oF #[zi 2 0,zi 0 0,.ref 37,zi 9 0,zi 0 0,.ref 49]
def s8:Obj:=oT "builtin_function_or_method" #[.builtin "type.__prepare__",.type "type"]
def s9:Obj:=oD #[E P "__module__" 330 ZH,ES P "__qualname__" 332 "_ValueFormatter" 331,E P "__firstlineno__" 334 (zi 9 333),ER P "__init__" 345 57,ER P "_str" 353 64,ER P "__str__" 360 71,ER P "newline" 368 78,ER P "add_transition" 375 85,ER P "feed" 385 92,ER P "_maxlengths" 392 99,ER P "_ascii_split" 404 106,ER P "_append_chunk" 418 113,ER P "__static_attributes__" 425 114] 13
def t4:Obj:=oF #[zi 11 0,zi 4 0,.ref 56,zi 19 0,zi 4 0,.ref 63,zi 23 0,zi 4 0,.ref 70,zi 26 0,zi 4 0,.ref 77,zi 37 0,zi 4 0,.ref 84,zi 40 0,zi 4 0,.ref 91,zi 43 0,zi 4 0,.ref 98,zi 46 0,zi 4 0,.ref 105,zi 55 0,zi 4 0,.ref 112]
def t8:Obj:=cM "_ValueFormatter" 325 9 47 328 (zi 276 0)
def t9:Obj:=fR 49 3 46 ZH
def v5:Obj:=tU #[zs "self" 338,zs "headerlen" 339,zs "maxlen" 340,zs "continuation_ws" 341,zs "splitchars" 342]
def v6:Obj:=fA "__init__" "_ValueFormatter.__init__" (stC 5 0)
def v7:Obj:=cO "__init__" "_ValueFormatter.__init__" 335 11 5 51 343
def v8:Obj:=fB "__init__" "_ValueFormatter.__init__" (stC 5 0) ZH 56
def v9:Obj:=tU #[zs "self" 349,zs "linesep" 350]
def w0:Obj:=fA "_str" "_ValueFormatter._str" (stC 5 1)
def w1:Obj:=cO "_str" "_ValueFormatter._str" 346 19 2 58 351
def w2:Obj:=fB "_str" "_ValueFormatter._str" (stC 5 1) ZH 63
def w3:Obj:=tU #[zs "self" 357]
def w4:Obj:=fA "__str__" "_ValueFormatter.__str__" (stC 5 2)
def w5:Obj:=cO "__str__" "_ValueFormatter.__str__" 354 23 1 65 358
def w6:Obj:=fB "__str__" "_ValueFormatter.__str__" (stC 5 2) ZH 70
def w7:Obj:=tU #[zs "self" 364,zs "end_of_line" 365]
def w8:Obj:=fA "newline" "_ValueFormatter.newline" (stC 5 3)
def w9:Obj:=cO "newline" "_ValueFormatter.newline" 361 26 1 72 366
def y6:Obj:=fB "newline" "_ValueFormatter.newline" (stC 5 3) ZH 77
def y7:Obj:=tU #[zs "self" 372]
def y8:Obj:=fA "add_transition" "_ValueFormatter.add_transition" (stC 5 4)
def y9:Obj:=cO "add_transition" "_ValueFormatter.add_transition" 369 37 1 79 373
def z0:Obj:=fB "add_transition" "_ValueFormatter.add_transition" (stC 5 4) ZH 84
def z4:Obj:=tU #[zs "self" 379,zs "fws" 380,zs "string" 381,zs "charset" 382]
def z5:Obj:=fA "feed" "_ValueFormatter.feed" (stC 5 5)
def z6:Obj:=cO "feed" "_ValueFormatter.feed" 376 40 4 86 383
def z7:Obj:=fB "feed" "_ValueFormatter.feed" (stC 5 5) ZH 91
def z8:Obj:=tU #[zs "self" 389]
def z9:Obj:=fA "_maxlengths" "_ValueFormatter._maxlengths" (stC 5 6)
def A0:Obj:=cO "_maxlengths" "_ValueFormatter._maxlengths" 386 43 1 93 390
def A1:Obj:=fB "_maxlengths" "_ValueFormatter._maxlengths" (stC 5 6) ZH 98
def m8:Obj:=tU #[zs "self" 396,zs "fws" 397,zs "string" 398,zs "splitchars" 399,zs "parts" 400,zs "part" 401]
def m9:Obj:=fA "_ascii_split" "_ValueFormatter._ascii_split" (stC 5 7)
def o0:Obj:=cO "_ascii_split" "_ValueFormatter._ascii_split" 393 46 4 100 402
def o4:Obj:=fB "_ascii_split" "_ValueFormatter._ascii_split" (stC 5 7) ZH 105
def o5:Obj:=tU #[zs "self" 408,zs "fws" 409,zs "string" 410,zs "ch" 411,zs "i" 412,zs "prevpart" 413,zs "part" 414,zs "remainder" 415]
def o6:Obj:=fA "_append_chunk" "_ValueFormatter._append_chunk" (stC 5 8)
def o7:Obj:=cO "_append_chunk" "_ValueFormatter._append_chunk" 405 55 3 107 416
def o8:Obj:=fB "_append_chunk" "_ValueFormatter._append_chunk" (stC 5 8) ZH 112
def o9:Obj:=tU #[zs "_continuation_ws" 419,zs "_continuation_ws_len" 420,zs "_current_line" 421,zs "_lines" 422,zs "_maxlen" 423,zs "_splitchars" 424]
def q6:Obj:=oD #[E P "__module__" 330 ZH,E P "__firstlineno__" 334 (zi 9 333),ER P "__init__" 345 57,ER P "_str" 353 64,ER P "__str__" 360 71,ER P "newline" 368 78,ER P "add_transition" 375 85,ER P "feed" 385 92,ER P "_maxlengths" 392 99,ER P "_ascii_split" 404 106,ER P "_append_chunk" 418 113,ER P "__static_attributes__" 425 114,ER P "__dict__" 427 117,ER P "__weakref__" 429 118,E P "__doc__" 430 .none] 4
def q7:Obj:={cls:=.type "type",data:=.cls {name:=q "_ValueFormatter",bases:=[.type "object"],mro:=[.ref 116,.type "object"],ns:=115,qualname:=q "_ValueFormatter"},slots:=#[none,none,some (zs "_ValueFormatter" 323),some (zs "_ValueFormatter" 331),some (.builtin "object.__new__"),some (.bool true)]}
def q8:Obj:=gD 426 116
def q9:Obj:=gW 428 116
def r0:Obj:=oT "super" #[.ref 116,.ref 116,.ref 116]
def r7:Obj:=oT "builtin_function_or_method" #[.builtin "object.__init_subclass__",.ref 116]
def u5(Q:Params):BT:=N L6 (L L6) .nil
def tree5:BT:=N (I8 P) (N (I9 P) (N (r9 P) (N L6 (N L6 (N I7 (L w1) (L z8)) (N L6 (L L6) (L o6))) (N K4 (N l7 (L w6) (L L6)) (N v6 (L L7) (L r0)))) (N (J1 P) (N J8 (N L6 (L w3) (L A1)) (N L6 (L y8) (L (q6 P)))) (N K8 (N m7 (L L6) (L L6)) (N L7 (L z6) .nil)))) (N L4 (N L8 (N J6 (N L7 (L L6) (L z9)) (N t8 (L y7) (L o8))) (N K6 (N l8 (L L7) (L o0)) (N v8 (L L6) .nil))) (N (J3 P) (N (K1 P) (N j9 (L w4) (L L7)) (N v5 (L z0) (L q8))) (N r8 (N s8 (L w9) (L o5)) (u5 P))))) (N (J9 P) (N L3 (N L7 (N J5 (N L6 (L w2) (L L6)) (N t4 (L L7) (L o7))) (N K5 (N L5 (L L6) (L m9)) (N v7 (L z4) (L r7)))) (N J2 (N (K0 P) (N j8 (L L6) (L L6)) (N L7 (L y9) (L q7))) (N L6 (N L6 (L w8) (L L7)) (N v9 (L z7) .nil)))) (N L5 (N J0 (N J7 (N j7 (L L7) (L A0)) (N t9 (L L6) (L o9))) (N K7 (N l9 (L w7) (L o4)) (N L6 (L z5) .nil))) (N J4 (N K3 (N l6 (L w5) (L m8)) (N L6 (L L6) (L q9))) (N I6 (N (s9 P) (L y6) (L L6)) (N w0 (L L7) .nil)))))
def St5(w:World)(a:OsState):SharedT:=⟨tree5 w.params,121,{},#[],{},433,a⟩
def G6:Obj:=pu (r9 P) [ER P "_Accumulator" 528 200]
def G5:Obj:=oF #[zi 2 0,zi 0 0,.ref 37,zi 9 0,zi 0 0,.ref 49,zi 81 0,zi 0 0,.ref 127]
def A2:Obj:=tU #[.type "list"]
def A3:Obj:=oD #[E P "__module__" 440 ZH,ES P "__qualname__" 442 "_Accumulator" 441,E P "__firstlineno__" 444 (zi 81 443),ER P "__init__" 454 137,ER P "push" 463 144,ER P "pop_from" 473 152,ER P "pop" 481 160,ER P "__len__" 488 167,ER P "__str__" 495 174,ER P "reset" 503 182,ER P "is_onlyws" 510 189,ER P "part_count" 518 197,ER P "__static_attributes__" 520 198,ER P "__classcell__" 521 124] 14
def A4:Obj:={cls:=.type "cell",data:=Data.cell (some (.ref 200))}
def A5:Obj:=oF #[zi 83 0,zi 4 0,.ref 136,zi 87 0,zi 4 0,.ref 143,zi 90 0,zi 4 0,.ref 151,zi 95 0,zi 4 0,.ref 159,zi 100 0,zi 4 0,.ref 166,zi 103 0,zi 4 0,.ref 173,zi 106 0,zi 4 0,.ref 181,zi 112 0,zi 4 0,.ref 188,zi 115 0,zi 4 0,.ref 196]
def A6:Obj:=cM "_Accumulator" 435 81 125 438 (zi 276 0)
def A7:Obj:=fR 127 3 123 ZH
def A8:Obj:=tU #[zi 0 445]
def A9:Obj:=tU #[.ref 124]
def B7:Obj:=tU #[zs "__class__" 449]
def B8:Obj:=tU #[zs "self" 450,zs "initial_size" 451]
def B9:Obj:=fA "__init__" "_Accumulator.__init__" (stC 6 0)
def C0:Obj:=cO "__init__" "_Accumulator.__init__" 446 83 2 131 452
def C1:Obj:=fC "__init__" "_Accumulator.__init__" (stC 6 0) ZH 136 [(q "__class__",124)] (.ref 129) (.none) (.ref 130)
def C2:Obj:=tU #[zs "self" 458,zs "fws" 459,zs "string" 460]
def C3:Obj:=fA "push" "_Accumulator.push" (stC 6 1)
def C4:Obj:=cO "push" "_Accumulator.push" 455 87 3 138 461
def C5:Obj:=fB "push" "_Accumulator.push" (stC 6 1) ZH 143
def C6:Obj:=tU #[zi 0 464]
def C7:Obj:=tU #[zs "self" 468,zs "i" 469,zs "popped" 470]
def C8:Obj:=fA "pop_from" "_Accumulator.pop_from" (stC 6 2)
def C9:Obj:=cO "pop_from" "_Accumulator.pop_from" 465 90 2 146 471
def D0:Obj:=fC "pop_from" "_Accumulator.pop_from" (stC 6 2) ZH 151 [] (.ref 145) (.none) (.none)
def D1:Obj:=tU #[zs "__class__" 477]
def D2:Obj:=tU #[zs "self" 478]
def D3:Obj:=fA "pop" "_Accumulator.pop" (stC 6 3)
def D4:Obj:=cO "pop" "_Accumulator.pop" 474 95 1 154 479
def D5:Obj:=fC "pop" "_Accumulator.pop" (stC 6 3) ZH 159 [(q "__class__",124)] (.none) (.none) (.ref 153)
def D6:Obj:=tU #[zs "self" 485]
def D7:Obj:=fA "__len__" "_Accumulator.__len__" (stC 6 4)
def D8:Obj:=cO "__len__" "_Accumulator.__len__" 482 100 1 161 486
def D9:Obj:=fB "__len__" "_Accumulator.__len__" (stC 6 4) ZH 166
def E0:Obj:=tU #[zs "self" 492]
def E1:Obj:=fA "__str__" "_Accumulator.__str__" (stC 6 5)
def E2:Obj:=cO "__str__" "_Accumulator.__str__" 489 103 1 168 493
def E3:Obj:=fB "__str__" "_Accumulator.__str__" (stC 6 5) ZH 173
def E4:Obj:=tU #[.none]
def E5:Obj:=tU #[zs "self" 499,zs "startval" 500]
def E6:Obj:=fA "reset" "_Accumulator.reset" (stC 6 6)
def E7:Obj:=cO "reset" "_Accumulator.reset" 496 106 2 176 501
def E8:Obj:=fC "reset" "_Accumulator.reset" (stC 6 6) ZH 181 [] (.ref 175) (.none) (.none)
def E9:Obj:=tU #[zs "self" 507]
def F0:Obj:=fA "is_onlyws" "_Accumulator.is_onlyws" (stC 6 7)
def F1:Obj:=cO "is_onlyws" "_Accumulator.is_onlyws" 504 112 1 183 508
def F2:Obj:=fB "is_onlyws" "_Accumulator.is_onlyws" (stC 6 7) ZH 188
def F3:Obj:=tU #[zs "__class__" 514]
def F4:Obj:=tU #[zs "self" 515]
def F5:Obj:=fA "part_count" "_Accumulator.part_count" (stC 6 8)
def F6:Obj:=cO "part_count" "_Accumulator.part_count" 511 115 1 191 516
def F7:Obj:=fC "part_count" "_Accumulator.part_count" (stC 6 8) ZH 196 [(q "__class__",124)] (.none) (.none) (.ref 190)
def F8:Obj:=tU #[zs "_initial_size" 519]
def F9:Obj:=oD #[E P "__module__" 440 ZH,E P "__firstlineno__" 444 (zi 81 443),ER P "__init__" 454 137,ER P "push" 463 144,ER P "pop_from" 473 152,ER P "pop" 481 160,ER P "__len__" 488 167,ER P "__str__" 495 174,ER P "reset" 503 182,ER P "is_onlyws" 510 189,ER P "part_count" 518 197,ER P "__static_attributes__" 520 198,ER P "__dict__" 523 201,ER P "__weakref__" 525 202,E P "__doc__" 526 .none] 5
def G0:Obj:={cls:=.type "type",data:=.cls {name:=q "_Accumulator",bases:=[.type "list"],mro:=[.ref 200,.type "list",.type "object"],ns:=199,qualname:=q "_Accumulator"},slots:=#[some (.ref 121),none,some (zs "_Accumulator" 433),some (zs "_Accumulator" 441),some (.builtin "list.__new__"),some (.bool true)]}
def G1:Obj:=gD 522 200
def G2:Obj:=gW 524 200
def G3:Obj:=oT "super" #[.ref 200,.ref 200,.ref 200]
def G4:Obj:=oT "builtin_function_or_method" #[.builtin "object.__init_subclass__",.ref 200]
def u6(Q:Params):BT:=N I7 (N w1 (L A6) (L F3)) (N z8 (L D4) .nil)
def u7(Q:Params):BT:=N o6 (L E4) .nil
def u8:BT:=N w6 (L B9) (L (F9 P))
def u9:BT:=N l7 (u8 P) (N L6 (L D9) .nil)
def u10(Q:Params):BT:=N r0 (L L6) .nil
def u11:BT:=N L6 (N L6 (u6 P) (N L6 (N L6 (L C4) .nil) (u7 P))) (N K4 (u9 P) (N v6 (N L7 (L C9) .nil) (u10 P)))
def u12(Q:Params):BT:=N L6 (N w3 (L B7) (L F5)) (N A1 (L D6) .nil)
def u13:BT:=N (q6 P) (L L6) .nil
def u14(Q:Params):BT:=N L6 (L L7) (L G3)
def u15:BT:=N m7 (u14 P) (u5 P)
def u16:BT:=N (A3 P) (L F0) .nil
def u17:BT:=N K8 (u15 P) (N L7 (N z6 (L L7) .nil) (u16 P))
def u18:BT:=N (J1 P) (N J8 (u12 P) (N L6 (N y8 (L L7) .nil) (u13 P))) (u17 P)
def u19(Q:Params):BT:=N L7 (N L6 (L A8) (L F4)) (N z9 (L L6) .nil)
def u20(Q:Params):BT:=N o8 (L L7) .nil
def u21(Q:Params):BT:=N L7 (L C1) (L G1)
def u22:BT:=N l8 (u21 P) (N o0 (L L7) .nil)
def u23(Q:Params):BT:=N A2 (L E9) .nil
def u24:BT:=N K6 (u22 P) (N v8 (N L6 (L A9) .nil) (u23 P))
def u25(Q:Params):BT:=N j9 (N w4 (L B8) (L F7)) (N L7 (L D7) .nil)
def u26(Q:Params):BT:=N q8 (L E7) .nil
def u27(Q:Params):BT:=N o5 (L E2) .nil
def u28(Q:Params):BT:=N L6 (L F2) .nil
def u29:BT:=N L6 (u5 P) (u28 P)
def u30:BT:=N L4 (N L8 (N J6 (u19 P) (N t8 (N y7 (L C6) .nil) (u20 P))) (u24 P)) (N (J3 P) (N (K1 P) (u25 P) (N v5 (N z0 (L L6) .nil) (u26 P))) (N G5 (N s8 (N w9 (L L6) .nil) (u27 P)) (u29 P)))
def u31(Q:Params):BT:=N L6 (N w2 (L A7) (L L7)) (N L6 (L D5) .nil)
def u32(Q:Params):BT:=N o7 (L L6) .nil
def u33(Q:Params):BT:=N L6 (L C0) (L G0)
def u34:BT:=N L5 (u33 P) (N m9 (L L6) .nil)
def u35(Q:Params):BT:=N r7 (L L7) .nil
def u36:BT:=N K5 (u34 P) (N v7 (N z4 (L D0) .nil) (u35 P))
def u37:BT:=N j8 (N L6 (L L7) (L F6)) (u5 P)
def u38(Q:Params):BT:=N q7 (L E6) .nil
def u39(Q:Params):BT:=N w8 (L C2) (L G4)
def u40:BT:=N L6 (u39 P) (N L7 (L E1) .nil)
def u41(Q:Params):BT:=N A4 (L F1) .nil
def u42:BT:=N L6 (u40 P) (N v9 (N z7 (L D2) .nil) (u41 P))
def u43(Q:Params):BT:=N j7 (N L7 (L A9) (L L6)) (N A0 (L L7) .nil)
def u44(Q:Params):BT:=N o9 (L E5) .nil
def u45(Q:Params):BT:=N w7 (L L6) (L G2)
def u46:BT:=N l9 (u45 P) (N o4 (L E0) .nil)
def u47(Q:Params):BT:=N s8 (L L6) .nil
def u48:BT:=N K7 (u46 P) (N L6 (N z5 (L D1) .nil) (u47 P))
def u49(Q:Params):BT:=N w5 (L L6) (L F8)
def u50:BT:=N l6 (u49 P) (N m8 (L D8) .nil)
def u51(Q:Params):BT:=N q9 (L E8) .nil
def u52(Q:Params):BT:=N L6 (L E3) .nil
def u53(Q:Params):BT:=N A5 (L A9) .nil
def u54:BT:=N w0 (N L7 (L D3) .nil) (u53 P)
def u55:BT:=N (J9 P) (N L3 (N L7 (N J5 (u31 P) (N t4 (N L7 (L C5) .nil) (u32 P))) (u36 P)) (N J2 (N (K0 P) (u37 P) (N L7 (N y9 (L C7) .nil) (u38 P))) (u42 P))) (N L5 (N J0 (N J7 (u43 P) (N t9 (u5 P) (u44 P))) (u48 P)) (N J4 (N K3 (u50 P) (N L6 (N L6 (L C8) .nil) (u51 P))) (N I6 (N (s9 P) (N y6 (L C3) .nil) (u52 P)) (u54 P))))
def tree6:BT:=N (I8 P) (N (I9 P) (N (G6 P) (u11 P) (u18 P)) (u30 P)) (u55 P)
def St6(w:World)(a:OsState):SharedT:=⟨tree6 w.params,205,{},#[],{},529,a⟩
def G7:Obj:=ps (G6 P) 0 (E P "__name__" 165 ZS)
def tree7:BT:=N (I8 P) (N (I9 P) (N (G7 P) (u11 P) (u18 P)) (u30 P)) (u55 P)
def St7(w:World)(a:OsState):SharedT:=⟨tree7 w.params,205,{},#[],{},531,a⟩
def H9:Obj:=pu (G7 P) [ER P "b1_set" 590 212]
def G8:Obj:=oS "list" #[zi 173 531,zi 847 532,zi 6150 533,zi 6155 534,zi 6156 535,zi 6157 536,zi 8203 537,zi 8204 538,zi 8205 539,zi 8288 540,zi 65279 541]
def G9:Obj:=oT "range" #[zi 65024 542,zi 65040 543,zi 1 544]
def H1:Obj:={cls:=.type "list",data:=.seq #[zi 65024 547,zi 65025 548,zi 65026 549,zi 65027 550,zi 65028 551,zi 65029 552,zi 65030 553,zi 65031 554,zi 65032 555,zi 65033 556,zi 65034 557,zi 65035 558,zi 65036 559,zi 65037 560,zi 65038 561,zi 65039 562] 18}
def H3:Obj:=oT "range_iterator" #[zi 65040 0,zi 0 0,zi 1 0]
def H4:Obj:=oT "StopIteration" #[.ref 209,.none,.none,.none,.bool false,.none]
def H5:Obj:=oS "list" #[zi 173 531,zi 847 532,zi 6150 533,zi 6155 534,zi 6156 535,zi 6157 536,zi 8203 537,zi 8204 538,zi 8205 539,zi 8288 540,zi 65279 541,zi 65024 547,zi 65025 548,zi 65026 549,zi 65027 550,zi 65028 551,zi 65029 552,zi 65030 553,zi 65031 554,zi 65032 555,zi 65033 556,zi 65034 557,zi 65035 558,zi 65036 559,zi 65037 560,zi 65038 561,zi 65039 562]
def H6:Obj:=cond (P.followText "set-order") ({cls:=.type "set",data:=.set #[(65024,zi 65024 547),(65025,zi 65025 548),(65026,zi 65026 549),(65027,zi 65027 550),(65028,zi 65028 551),(65029,zi 65029 552),(6150,zi 6150 533),(65030,zi 65030 553),(65031,zi 65031 554),(65032,zi 65032 555),(65033,zi 65033 556),(6155,zi 6155 534),(6156,zi 6156 535),(6157,zi 6157 536),(8203,zi 8203 537),(8204,zi 8204 538),(8205,zi 8205 539),(65034,zi 65034 557),(65035,zi 65035 558),(65036,zi 65036 559),(65037,zi 65037 560),(65038,zi 65038 561),(65039,zi 65039 562),(173,zi 173 531),(847,zi 847 532),(8288,zi 8288 540),(65279,zi 65279 541)] 29 {mask:=127,place:=#[0,1,2,3,4,5,6,7,8,9,10,11,12,13,14,15,16,17,18,19,20,21,22,45,79,96,127],dummies:=#[],finger:=0,led:=false,moves:=2,plain:=true}}) ({cls:=.type "set",data:=.set #[(65024,zi 65024 547),(65025,zi 65025 548),(65026,zi 65026 549),(65027,zi 65027 550),(65028,zi 65028 551),(65029,zi 65029 552),(6150,zi 6150 533),(65030,zi 65030 553),(65031,zi 65031 554),(65032,zi 65032 555),(65033,zi 65033 556),(6155,zi 6155 534),(6156,zi 6156 535),(6157,zi 6157 536),(8203,zi 8203 537),(8204,zi 8204 538),(8205,zi 8205 539),(65034,zi 65034 557),(65035,zi 65035 558),(65036,zi 65036 559),(65037,zi 65037 560),(65038,zi 65038 561),(65039,zi 65039 562),(173,zi 173 531),(847,zi 847 532),(8288,zi 8288 540),(65279,zi 65279 541)] 29 {mask:=127,place:=#[0,1,2,3,4,5,6,7,8,9,10,11,12,13,14,15,16,17,18,19,20,21,22,45,79,96,127],dummies:=#[],finger:=0,led:=true,moves:=2,plain:=true}})
def H7:Obj:=oT "list_iterator" #[.none,zi 27 0]
def H8:Obj:=oT "StopIteration" #[.ref 214,.none,.none,.none,.bool false,.none]
def u56(Q:Params):BT:=N L6 (L C4) (L H1)
def u57(Q:Params):BT:=N L7 (L C9) (L H8)
def u58:BT:=N L6 (N L6 (u6 P) (N L6 (u56 P) (u7 P))) (N K4 (u9 P) (N v6 (u57 P) (u10 P)))
def u59(Q:Params):BT:=N y8 (L L7) (L H5)
def u60:BT:=N J8 (u12 P) (N L6 (u59 P) (u13 P))
def u61(Q:Params):BT:=N y7 (L C6) (L L6)
def u62:BT:=N J6 (u19 P) (N t8 (u61 P) (u20 P))
def u63(Q:Params):BT:=N z0 (L L6) (L H7)
def u64:BT:=N (K1 P) (u25 P) (N v5 (u63 P) (u26 P))
def u65(Q:Params):BT:=N w9 (L L6) (L G8)
def u66:BT:=N s8 (u65 P) (u27 P)
def u67(Q:Params):BT:=N L7 (L C5) (L H3)
def u68:BT:=N J5 (u31 P) (N t4 (u67 P) (u32 P))
def u69:BT:=N y9 (L C7) (L (H6 P))
def u70:BT:=N (K0 P) (u37 P) (N L7 (u69 P) (u38 P))
def u71(Q:Params):BT:=N L6 (L L6) (L H4)
def u72:BT:=N J7 (u43 P) (N t9 (u71 P) (u44 P))
def u73(Q:Params):BT:=N L6 (L C8) (L L6)
def u74:BT:=N K3 (u50 P) (N L6 (u73 P) (u51 P))
def u75(Q:Params):BT:=N y6 (L C3) (L G9)
def u76:BT:=N (s9 P) (u75 P) (u52 P)
def tree8:BT:=N (I8 P) (N (I9 P) (N (H9 P) (u58 P) (N (J1 P) (u60 P) (u17 P))) (N L4 (N L8 (u62 P) (u24 P)) (N (J3 P) (u64 P) (N G5 (u66 P) (u29 P))))) (N (J9 P) (N L3 (N L7 (u68 P) (u36 P)) (N J2 (u70 P) (u42 P))) (N L5 (N J0 (u72 P) (u48 P)) (N J4 (u74 P) (N I6 (u76 P) (u54 P)))))
def St8(w:World)(a:OsState):SharedT:=⟨tree8 w.params,216,{},#[],{},591,a⟩
def I5:Obj:=pu (H9 P) [ER P "in_table_b1" 597 222]
def I4:Obj:=oF #[zi 2 0,zi 0 0,.ref 37,zi 9 0,zi 0 0,.ref 49,zi 81 0,zi 0 0,.ref 127,zi 119 0,zi 0 0,.ref 221]
def I0:Obj:=tU #[zs "code" 594]
def I1:Obj:=fA "in_table_b1" "in_table_b1" (stB 9)
def I2:Obj:=cO "in_table_b1" "in_table_b1" 591 119 1 216 595
def I3:Obj:=fB "in_table_b1" "in_table_b1" (stB 9) ZS 221
def u77(Q:Params):BT:=N z6 (L L7) (L L6)
def u78(Q:Params):BT:=N L6 (L A9) (L L7)
def u79(Q:Params):BT:=N L6 (L L6) (L I2)
def u80(Q:Params):BT:=N z4 (L D0) (L L6)
def u81(Q:Params):BT:=N z7 (L D2) (L I1)
def u82(Q:Params):BT:=N z5 (L D1) (L I0)
def u83(Q:Params):BT:=N L7 (L D3) (L I3)
def sP:BT:=N (I8 P) (N (I9 P) (N (I5 P) (u58 P) (N (J1 P) (u60 P) (N K8 (u15 P) (N L7 (u77 P) (u16 P))))) (N L4 (N L8 (u62 P) (N K6 (u22 P) (N v8 (u78 P) (u23 P)))) (N (J3 P) (u64 P) (N I4 (u66 P) (N L6 (u79 P) (u28 P)))))) (N (J9 P) (N L3 (N L7 (u68 P) (N K5 (u34 P) (N v7 (u80 P) (u35 P)))) (N J2 (u70 P) (N L6 (u40 P) (N v9 (u81 P) (u41 P))))) (N L5 (N J0 (u72 P) (N K7 (u46 P) (N L6 (u82 P) (u47 P)))) (N J4 (u74 P) (N I6 (u76 P) (N w0 (u83 P) (u53 P))))))
def St9(w:World)(a:OsState):SharedT:=⟨sP w.params,223,{},#[],{},598,a⟩
def a0:Obj:=pu (I5 P) [ER P "b3_exceptions" 2548 223]
def u84(Q:Params):BT:=N w1 (N A6 (L (dictO 255)) .nil) (L F3)
def u85:BT:=N I7 (u84 P) (N z8 (L D4) (L (dictO 223)))
def u86(Q:Params):BT:=N o6 (L E4) (L (dictO 239))
def u87:BT:=N L6 (u85 P) (N L6 (u56 P) (u86 P))
def u88(Q:Params):BT:=N L6 (L D9) (L (dictO 231))
def u89(Q:Params):BT:=N r0 (L L6) (L (dictO 247))
def u90:BT:=N v6 (u57 P) (u89 P)
def u91:BT:=N L6 (u87 P) (N K4 (N l7 (u8 P) (u88 P)) (u90 P))
def u92(Q:Params):BT:=N w3 (N B7 (L (dictO 259)) .nil) (L F5)
def u93:BT:=N L6 (u92 P) (N A1 (L D6) (L (dictO 227)))
def u94:BT:=N (q6 P) (L L6) (L (dictO 243))
def u95:BT:=N J8 (u93 P) (N L6 (u59 P) (u94 P))
def u96(Q:Params):BT:=N L6 (L L6) (L (dictO 235))
def u97:BT:=N (A3 P) (L F0) (L (dictO 251))
def u98:BT:=N L7 (u77 P) (u97 P)
def u99:BT:=N (J1 P) (u95 P) (N K8 (N m7 (u14 P) (u96 P)) (u98 P))
def u100(Q:Params):BT:=N L6 (N A8 (L (dictO 257)) .nil) (L F4)
def u101:BT:=N L7 (u100 P) (N z9 (L L6) (L (dictO 225)))
def u102(Q:Params):BT:=N o8 (L L7) (L (dictO 241))
def u103:BT:=N J6 (u101 P) (N t8 (u61 P) (u102 P))
def u104(Q:Params):BT:=N o0 (L L7) (L (dictO 233))
def u105(Q:Params):BT:=N A2 (L E9) (L (dictO 249))
def u106:BT:=N v8 (u78 P) (u105 P)
def u107(Q:Params):BT:=N w4 (N B8 (L (dictO 261)) .nil) (L F7)
def u108:BT:=N j9 (u107 P) (N L7 (L D7) (L (dictO 229)))
def u109(Q:Params):BT:=N q8 (L E7) (L (dictO 245))
def u110:BT:=N (K1 P) (u108 P) (N v5 (u63 P) (u109 P))
def u111(Q:Params):BT:=N o5 (L E2) (L (dictO 237))
def u112:BT:=N s8 (u65 P) (u111 P)
def u113(Q:Params):BT:=N L6 (L F2) (L (dictO 253))
def xR:BT:=N L6 (u79 P) (u113 P)
def u115:BT:=N L4 (N L8 (u103 P) (N K6 (N l8 (u21 P) (u104 P)) (u106 P))) (N (J3 P) (u110 P) (N I4 (u112 P) (xR P)))
def u116(Q:Params):BT:=N w2 (N A7 (L (dictO 256)) .nil) (L L7)
def u117:BT:=N L6 (u116 P) (N L6 (L D5) (L (dictO 224)))
def u118(Q:Params):BT:=N o7 (L L6) (L (dictO 240))
def u119:BT:=N J5 (u117 P) (N t4 (u67 P) (u118 P))
def u120(Q:Params):BT:=N m9 (L L6) (L (dictO 232))
def u121(Q:Params):BT:=N r7 (L L7) (L (dictO 248))
def u122:BT:=N v7 (u80 P) (u121 P)
def u123(Q:Params):BT:=N L6 (N L7 (L (dictO 260)) .nil) (L F6)
def u124:BT:=N j8 (u123 P) (N L6 (L L6) (L (dictO 228)))
def u125(Q:Params):BT:=N q7 (L E6) (L (dictO 244))
def u126:BT:=N (K0 P) (u124 P) (N L7 (u69 P) (u125 P))
def u127(Q:Params):BT:=N L7 (L E1) (L (dictO 236))
def u128(Q:Params):BT:=N A4 (L F1) (L (dictO 252))
def u129:BT:=N v9 (u81 P) (u128 P)
def u130(Q:Params):BT:=N L7 (N A9 (L (dictO 258)) .nil) (L L6)
def u131:BT:=N j7 (u130 P) (N A0 (L L7) (L (dictO 226)))
def u132(Q:Params):BT:=N o9 (L E5) (L (dictO 242))
def u133:BT:=N J7 (u131 P) (N t9 (u71 P) (u132 P))
def u134(Q:Params):BT:=N o4 (L E0) (L (dictO 234))
def u135(Q:Params):BT:=N s8 (L L6) (L (dictO 250))
def u136:BT:=N L6 (u82 P) (u135 P)
def u137(Q:Params):BT:=N m8 (L D8) (L (dictO 230))
def u138(Q:Params):BT:=N q9 (L E8) (L (dictO 246))
def u139:BT:=N L6 (u73 P) (u138 P)
def u140(Q:Params):BT:=N L6 (L E3) (L (dictO 238))
def u141(Q:Params):BT:=N A5 (L A9) (L (dictO 254))
def u142:BT:=N w0 (u83 P) (u141 P)
def u143:BT:=N I6 (N (s9 P) (u75 P) (u140 P)) (u142 P)
def u144:BT:=N (J9 P) (N L3 (N L7 (u119 P) (N K5 (N L5 (u33 P) (u120 P)) (u122 P))) (N J2 (u126 P) (N L6 (N L6 (u39 P) (u127 P)) (u129 P)))) (N L5 (N J0 (u133 P) (N K7 (N l9 (u45 P) (u134 P)) (u136 P))) (N J4 (N K3 (N l6 (u49 P) (u137 P)) (u139 P)) (u143 P)))
def Fz:BT:=N (I8 P) (N (I9 P) (N (a0 P) (u91 P) (u99 P)) (u115 P)) (u144 P)
def St10(w:World)(a:OsState):SharedT:=⟨Fz w.params,262,{},#[],{},2549,a⟩
def b9:Obj:=pu (a0 P) [ER P "map_table_b3" 2556 268]
def b8:Obj:=oF #[zi 2 0,zi 0 0,.ref 37,zi 9 0,zi 0 0,.ref 49,zi 81 0,zi 0 0,.ref 127,zi 119 0,zi 0 0,.ref 221,zi 122 0,zi 0 0,.ref 267]
def a8:Obj:=tU #[zs "code" 2552,zs "r" 2553]
def a9:Obj:=fA "map_table_b3" "map_table_b3" (stB 11)
def b6:Obj:=cO "map_table_b3" "map_table_b3" 2549 122 1 262 2554
def b7:Obj:=fB "map_table_b3" "map_table_b3" (stB 11) ZS 267
def u145:BT:=N w6 (N B9 (L L7) .nil) (L (F9 P))
def u146:BT:=N l7 (u145 P) (u88 P)
def u147:BT:=N K4 (u146 P) (u90 P)
def u148:BT:=N L6 (u87 P) (u147 P)
def u149:BT:=N m7 (N L6 (N L7 (L b6) .nil) (L G3)) (u96 P)
def u150:BT:=N K8 (u149 P) (u98 P)
def u151:BT:=N (J1 P) (u95 P) (u150 P)
def u152:BT:=N l8 (N L7 (N C1 (L L6) .nil) (L G1)) (u104 P)
def u153:BT:=N K6 (u152 P) (u106 P)
def u154:BT:=N L4 (N L8 (u103 P) (u153 P)) (N (J3 P) (u110 P) (N b8 (u112 P) (xR P)))
def u155:BT:=N L5 (N L6 (N C0 (L a8) .nil) (L G0)) (u120 P)
def u156:BT:=N K5 (u155 P) (u122 P)
def u157:BT:=N L6 (N w8 (N C2 (L b7) .nil) (L G4)) (u127 P)
def u158:BT:=N L6 (u157 P) (u129 P)
def u159:BT:=N J2 (u126 P) (u158 P)
def u160:BT:=N l9 (N w7 (N L6 (L a9) .nil) (L G2)) (u134 P)
def u161:BT:=N K7 (u160 P) (u136 P)
def u162:BT:=N J0 (u133 P) (u161 P)
def u163:BT:=N w5 (u5 P) (L F8)
def u164:BT:=N l6 (u163 P) (u137 P)
def u165:BT:=N K3 (u164 P) (u139 P)
def u166:BT:=N (J9 P) (N L3 (N L7 (u119 P) (u156 P)) (u159 P)) (N L5 (u162 P) (N J4 (u165 P) (u143 P)))
def GH:BT:=N (I8 P) (N (I9 P) (N (b9 P) (u148 P) (u151 P)) (u154 P)) (u166 P)
def St11(w:World)(a:OsState):SharedT:=⟨GH w.params,269,{},#[],{},2557,a⟩
def d0:Obj:=ps (b9 P) 0 (ES P "__name__" 165 "law_pe0276_01" 2557)
def Fq:BT:=N (I8 P) (N (I9 P) (N (d0 P) (u148 P) (u151 P)) (u154 P)) (u166 P)
def St12(w:World)(a:OsState):SharedT:=⟨Fq w.params,269,{},#[],{},2559,a⟩
def d6:Obj:=pu (d0 P) [ER P "_law_pairs" 2564 273]
def d5:Obj:=oF #[zi 2 0,zi 0 0,.ref 37,zi 9 0,zi 0 0,.ref 49,zi 81 0,zi 0 0,.ref 127,zi 119 0,zi 0 0,.ref 221,zi 122 0,zi 0 0,.ref 267,zi 128 0,zi 0 0,.ref 272]
def d2:Obj:=fA "_law_pairs" "_law_pairs" (stB 13)
def d3:Obj:=oT "code" #[zs "_law_pairs" 2559,zs "_law_pairs" 2560,zc 2561,zi 128 0,zi 1 0,zi 0 0,zi 0 0,zi 3 0,.ref 269,.bool true,zi 276 0,.ref 270,.none,.none,.none,.ref 271,zi 2562 0,zi 128 0,zc 2563]
def d4:Obj:=fB "_law_pairs" "_law_pairs" (stB 13) (zs "law_pe0276_01" 2557) 272
def u167:BT:=N L6 (N L6 (N C4 (L d2) .nil) (L H1)) (u86 P)
def u168:BT:=N L6 (u85 P) (u167 P)
def u169:BT:=N L6 (u168 P) (u147 P)
def u170:BT:=N t8 (N y7 (N C6 (L d4) .nil) (L L6)) (u102 P)
def u171:BT:=N J6 (u101 P) (u170 P)
def u172:BT:=N L8 (u171 P) (u153 P)
def xK:BT:=N s8 (N w9 (u5 P) (L G8)) (u111 P)
def u174:BT:=N t4 (N L7 (N C5 (L d3) .nil) (L H3)) (u118 P)
def u175:BT:=N J5 (u117 P) (u174 P)
def u176:BT:=N L7 (u175 P) (u156 P)
def u177:BT:=N (s9 P) (N y6 (N C3 (L L7) .nil) (L G9)) (u140 P)
def u178:BT:=N I6 (u177 P) (u142 P)
def Gm:BT:=N (I8 P) (N (I9 P) (N (d6 P) (u169 P) (u151 P)) (N L4 (u172 P) (N (J3 P) (u110 P) (N d5 (xK P) (xR P))))) (N (J9 P) (N L3 (u176 P) (u159 P)) (N L5 (u162 P) (N J4 (u165 P) (u178 P))))
def St13(w:World)(a:OsState):SharedT:=⟨Gm w.params,274,{},#[],{},2565,a⟩
def f6:Obj:=pu (d6 P) [ER P "_law_rows" 2570 278]
def e9:Obj:=oF #[zi 2 0,zi 0 0,.ref 37,zi 9 0,zi 0 0,.ref 49,zi 81 0,zi 0 0,.ref 127,zi 119 0,zi 0 0,.ref 221,zi 122 0,zi 0 0,.ref 267,zi 128 0,zi 0 0,.ref 272,zi 152 0,zi 0 0,.ref 277]
def d7:Obj:=fA "_law_rows" "_law_rows" (stB 14)
def d8:Obj:=oT "code" #[zs "_law_rows" 2565,zs "_law_rows" 2566,zc 2567,zi 152 0,zi 4 0,zi 0 0,zi 0 0,zi 3 0,.ref 274,.bool true,zi 276 0,.ref 275,.none,.none,.none,.ref 276,zi 2568 0,zi 152 0,zc 2569]
def d9:Obj:=fB "_law_rows" "_law_rows" (stB 14) (zs "law_pe0276_01" 2557) 277
def u179:BT:=N L6 (N y8 (N L7 (L L7) .nil) (L H5)) (u94 P)
def u180:BT:=N J8 (u93 P) (u179 P)
def u181:BT:=N v5 (N z0 (N L6 (L d8) .nil) (L H7)) (u109 P)
def u182:BT:=N (K1 P) (u108 P) (u181 P)
def u183:BT:=N L7 (N y9 (N C7 (L d7) .nil) (L (H6 P))) (u125 P)
def u184:BT:=N (K0 P) (u124 P) (u183 P)
def u185:BT:=N J2 (u184 P) (u158 P)
def u186:BT:=N t9 (N L6 (u5 P) (L H4)) (u132 P)
def u187:BT:=N J7 (u131 P) (u186 P)
def u188:BT:=N L6 (N L6 (N C8 (L d9) .nil) (L L6)) (u138 P)
def u189:BT:=N K3 (u164 P) (u188 P)
def u190:BT:=N J4 (u189 P) (u178 P)
def Gu:BT:=N (I8 P) (N (I9 P) (N (f6 P) (u169 P) (N (J1 P) (u180 P) (u150 P))) (N L4 (u172 P) (N (J3 P) (u182 P) (N e9 (xK P) (xR P))))) (N (J9 P) (N L3 (u176 P) (u185 P)) (N L5 (N J0 (u187 P) (u161 P)) (u190 P)))
def St14(w:World)(a:OsState):SharedT:=⟨Gu w.params,279,{},#[],{},2571,a⟩
def g7:Obj:=pu (f6 P) [ER P "_law_prepared" 2576 283]
def g6:Obj:=oF #[zi 2 0,zi 0 0,.ref 37,zi 9 0,zi 0 0,.ref 49,zi 81 0,zi 0 0,.ref 127,zi 119 0,zi 0 0,.ref 221,zi 122 0,zi 0 0,.ref 267,zi 128 0,zi 0 0,.ref 272,zi 152 0,zi 0 0,.ref 277,zi 183 0,zi 0 0,.ref 282]
def f7:Obj:=fA "_law_prepared" "_law_prepared" (stB 15)
def f8:Obj:=oT "code" #[zs "_law_prepared" 2571,zs "_law_prepared" 2572,zc 2573,zi 183 0,zi 1 0,zi 0 0,zi 0 0,zi 3 0,.ref 279,.bool true,zi 276 0,.ref 280,.none,.none,.none,.ref 281,zi 2574 0,zi 183 0,zc 2575]
def f9:Obj:=fB "_law_prepared" "_law_prepared" (stB 15) (zs "law_pe0276_01" 2557) 282
def u191:BT:=N v6 (N L7 (N C9 (L L6) .nil) (L H8)) (u89 P)
def u192:BT:=N K4 (u146 P) (u191 P)
def u193:BT:=N K8 (u149 P) (N L7 (N z6 (N L7 (L f9) .nil) (L L6)) (u97 P))
def u194:BT:=N (J1 P) (u180 P) (u193 P)
def u195:BT:=N K6 (u152 P) (N v8 (N L6 (N A9 (L f7) .nil) (L L7)) (u105 P))
def u196:BT:=N K5 (u155 P) (N v7 (N z4 (N D0 (L L7) .nil) (L L6)) (u121 P))
def u197:BT:=N K7 (u160 P) (N L6 (N z5 (N D1 (L f8) .nil) (L I0)) (u135 P))
def Gy:BT:=N (I8 P) (N (I9 P) (N (g7 P) (N L6 (u168 P) (u192 P)) (u194 P)) (N L4 (N L8 (u171 P) (u195 P)) (N (J3 P) (u182 P) (N g6 (xK P) (xR P))))) (N (J9 P) (N L3 (N L7 (u175 P) (u196 P)) (u185 P)) (N L5 (N J0 (u187 P) (u197 P)) (u190 P)))
def St15(w:World)(a:OsState):SharedT:=⟨Gy w.params,284,{},#[],{},2577,a⟩
def i9:Obj:=pu (g7 P) [ER P "_law_folded" 2587 290]
def i7:Obj:=oF #[zi 2 0,zi 0 0,.ref 37,zi 9 0,zi 0 0,.ref 49,zi 81 0,zi 0 0,.ref 127,zi 119 0,zi 0 0,.ref 221,zi 122 0,zi 0 0,.ref 267,zi 128 0,zi 0 0,.ref 272,zi 152 0,zi 0 0,.ref 277,zi 183 0,zi 0 0,.ref 282,zi 185 0,zi 0 0,.ref 289]
def g8:Obj:=tU #[zs "text" 2580,zs "room" 2581,zs "width" 2582,zs "splitters" 2583,zs "maker" 2584]
def g9:Obj:=fA "_law_folded" "_law_folded" (stB 16)
def i6:Obj:=cO "_law_folded" "_law_folded" 2577 185 4 284 2585
def i8:Obj:=fB "_law_folded" "_law_folded" (stB 16) (zs "law_pe0276_01" 2557) 289
def u198:BT:=N L6 (N I7 (u84 P) (N z8 (N D4 (L L6) .nil) (L (dictO 223)))) (u167 P)
def u199:BT:=N L8 (N J6 (N L7 (u100 P) (N z9 (N L6 (L i6) .nil) (L (dictO 225)))) (u170 P)) (u195 P)
def u200(Q:Params):BT:=N L6 (L L7) .nil
def u201:BT:=N L6 (N L6 (u200 P) (L I2)) (u113 P)
def u202:BT:=N L7 (N J5 (N L6 (u116 P) (N L6 (N D5 (L g9) .nil) (L (dictO 224)))) (u174 P)) (u196 P)
def u203:BT:=N L6 (u157 P) (N v9 (N z7 (N D2 (L L6) .nil) (L I1)) (u128 P))
def u204:BT:=N J0 (N J7 (N j7 (u130 P) (N A0 (N L7 (L i8) .nil) (L (dictO 226)))) (u186 P)) (u197 P)
def u205:BT:=N I6 (u177 P) (N w0 (N L7 (N D3 (L g8) .nil) (L I3)) (u141 P))
def FD:BT:=N (I8 P) (N (I9 P) (N (i9 P) (N L6 (u198 P) (u192 P)) (u194 P)) (N L4 (u199 P) (N (J3 P) (u182 P) (N i7 (xK P) (u201 P))))) (N (J9 P) (N L3 (u202 P) (N J2 (u184 P) (u203 P))) (N L5 (u204 P) (N J4 (u189 P) (u205 P))))
def St16(w:World)(a:OsState):SharedT:=⟨FD w.params,291,{},#[],{},2588,a⟩
def j4:Obj:=oD #[ES P "__name__" 165 "law_pe0276_01" 2557,E P "__doc__" 166 .none,E P "__package__" 167 .none,E P "__loader__" 168 (.builtin "__main__.__loader__#opaque"),E P "__spec__" 169 .none,ER P "__annotations__" 170 6,ER P "__builtins__" 171 4,E P "__file__" 173 (zc 172),E P "__cached__" 174 .none,ER P "_sre" 275 12,ER P "_wall" 288 38,ER P "_twin_re_1" 318 43,E P "NL" 320 (zs "\n" 319),ES P "EMPTYSTRING" 322 "" 321,ER P "_ValueFormatter" 432 116,ER P "_Accumulator" 528 200,ER P "b1_set" 590 212,ER P "in_table_b1" 597 222,ER P "b3_exceptions" 2548 223,ER P "map_table_b3" 2556 268,ER P "_law_pairs" 2564 273,ER P "_law_rows" 2570 278,ER P "_law_prepared" 2576 283,ER P "_law_folded" 2587 290,ER P "law" 2593 295] 25
def j0:Obj:=oF #[zi 2 0,zi 0 0,.ref 37,zi 9 0,zi 0 0,.ref 49,zi 81 0,zi 0 0,.ref 127,zi 119 0,zi 0 0,.ref 221,zi 122 0,zi 0 0,.ref 267,zi 128 0,zi 0 0,.ref 272,zi 152 0,zi 0 0,.ref 277,zi 183 0,zi 0 0,.ref 282,zi 185 0,zi 0 0,.ref 289,zi 189 0,zi 0 0,.ref 294]
def j1:Obj:=fA "law" "law" (stB 17)
def j2:Obj:=oT "code" #[zs "law" 2588,zs "law" 2589,zc 2590,zi 189 0,zi 1 0,zi 0 0,zi 0 0,zi 3 0,.ref 291,.bool true,zi 276 0,.ref 292,.none,.none,.none,.ref 293,zi 2591 0,zi 189 0,zc 2592]
def j3:Obj:=fB "law" "law" (stB 17) (zs "law_pe0276_01" 2557) 294
def tree17:BT:=N (I8 P) (N (I9 P) (N (j4 P) (N L6 (u198 P) (N K4 (N l7 (u145 P) (N L6 (N D9 (L j3) .nil) (L (dictO 231)))) (u191 P))) (N (J1 P) (N J8 (N L6 (u92 P) (N A1 (N D6 (L L6) .nil) (L (dictO 227)))) (u179 P)) (u193 P))) (N L4 (u199 P) (N (J3 P) (N (K1 P) (N j9 (u107 P) (N L7 (N D7 (L j1) .nil) (L (dictO 229)))) (u181 P)) (N j0 (xK P) (u201 P))))) (N (J9 P) (N L3 (u202 P) (N J2 (N (K0 P) (N j8 (u123 P) (N L6 (u200 P) (L (dictO 228)))) (u183 P)) (u203 P))) (N L5 (u204 P) (N J4 (N K3 (N l6 (u163 P) (N m8 (N D8 (L j2) .nil) (L (dictO 230)))) (u188 P)) (u205 P))))
def ba(w:World)(a:OsState):SharedT:=⟨tree17 w.params,296,{},#[],{},2594,a⟩
end
theorem pc4(w:World)(a:OsState):segRunT treeTable pw w 28 (some (.ref 6)) 1 128 (StB w a) (piecesOf [stB 0,stB 1,stB 2,stB 3,stB 4] aY aV ⟨0,0,0,0⟩ bO)=some (.next,St4 w a,aV,⟨8,0,8,11⟩):=by
 rw[zO,zK]
 kernel_rfl
theorem pc5(w:World)(a:OsState):segRunT treeTable pw w 28 (some (.ref 6)) 1 496 (St4 w a) (piecesOf [stB 5] aY aV ⟨8,0,8,11⟩ bO)=some (.next,St5 w a,aV,⟨9,0,80,47⟩):=by
 rw[zO,zK]
 kernel_rfl
theorem pc6(w:World)(a:OsState):segRunT treeTable pw w 28 (some (.ref 6)) 1 505 (St5 w a) (piecesOf [stB 6] aY aV ⟨9,0,80,47⟩ bO)=some (.next,St6 w a,aV,⟨81,0,116,32⟩):=by
 rw[zO,zK]
 kernel_rfl
theorem pc7(w:World)(a:OsState):segRunT treeTable pw w 28 (some (.ref 6)) 1 10 (St6 w a) (piecesOf [stB 7] aY aV ⟨81,0,116,32⟩ bO)=some (.next,St7 w a,aV,⟨117,0,117,8⟩):=by
 rw[zO,zK]
 kernel_rfl
noncomputable def Pc8(w:World):Prop:=∀a:OsState,segRunT treeTable pw w 28 (some (.ref 6)) 1 999 (St7 w a) (piecesOf [stB 8] aY aV ⟨117,0,117,8⟩ bO)=some (.next,St8 w a,aV,⟨118,0,118,6⟩)
theorem kj(w:World):Pc8 ((w.withFollow "special-get-raises" false).withFollow "set-order" false):=by
 intro a;rw[zO,zK]
 kernel_rfl
theorem mw(w:World):Pc8 ((w.withFollow "special-get-raises" true).withFollow "set-order" false):=by
 intro a;rw[zO,zK]
 kernel_rfl
theorem k9(w:World):Pc8 ((w.withFollow "special-get-raises" false).withFollow "set-order" true):=by
 intro a;rw[zO,zK]
 kernel_rfl
theorem mV(w:World):Pc8 ((w.withFollow "special-get-raises" true).withFollow "set-order" true):=by
 intro a;rw[zO,zK]
 kernel_rfl
theorem pc8(w:World):Pc8 w:=
 byRow2 "set-order" (P:=Pc8) (λw=>byRow2 "special-get-raises" (P:=λw=>Pc8 (w.withFollow "set-order" false)) kj mw w) (λw=>byRow2 "special-get-raises" (P:=λw=>Pc8 (w.withFollow "set-order" true)) k9 mV w) w
theorem pc9(w:World)(a:OsState):segRunT treeTable pw w 28 (some (.ref 6)) 1 30 (St8 w a) (piecesOf [stB 9] aY aV ⟨118,0,118,6⟩ bO)=some (.next,St9 w a,aV,⟨119,0,120,30⟩):=by
 rw[zO,zK]
 kernel_rfl
theorem pc11(w:World)(a:OsState):segRunT treeTable pw w 28 (some (.ref 6)) 1 31 (St10 w a) (piecesOf [stB 11] aY aV ⟨121,0,121,13⟩ bO)=some (.next,St11 w a,aV,⟨122,0,126,23⟩):=by
 rw[zO,zK]
 kernel_rfl
theorem pc12(w:World)(a:OsState):segRunT treeTable pw w 28 (some (.ref 6)) 1 10 (St11 w a) (piecesOf [stB 12] aY aV ⟨122,0,126,23⟩ bO)=some (.next,St12 w a,aV,⟨127,0,127,8⟩):=by
 rw[zO,zK]
 kernel_rfl
theorem pc13(w:World)(a:OsState):segRunT treeTable pw w 28 (some (.ref 6)) 1 27 (St12 w a) (piecesOf [stB 13] aY aV ⟨127,0,127,8⟩ bO)=some (.next,St13 w a,aV,⟨128,0,151,69⟩):=by
 rw[zO,zK]
 kernel_rfl
theorem pc14(w:World)(a:OsState):segRunT treeTable pw w 28 (some (.ref 6)) 1 27 (St13 w a) (piecesOf [stB 14] aY aV ⟨128,0,151,69⟩ bO)=some (.next,St14 w a,aV,⟨152,0,182,24⟩):=by
 rw[zO,zK]
 kernel_rfl
theorem pc15(w:World)(a:OsState):segRunT treeTable pw w 28 (some (.ref 6)) 1 27 (St14 w a) (piecesOf [stB 15] aY aV ⟨152,0,182,24⟩ bO)=some (.next,St15 w a,aV,⟨183,0,184,82⟩):=by
 rw[zO,zK]
 kernel_rfl
theorem pc16(w:World)(a:OsState):segRunT treeTable pw w 28 (some (.ref 6)) 1 34 (St15 w a) (piecesOf [stB 16] aY aV ⟨183,0,184,82⟩ bO)=some (.next,St16 w a,aV,⟨185,0,188,27⟩):=by
 rw[zO,zK]
 kernel_rfl
theorem pc17(w:World)(a:OsState):segRunT treeTable pw w 28 (some (.ref 6)) 1 27 (St16 w a) (piecesOf [stB 17] aY aV ⟨185,0,188,27⟩ bO)=some (.next,ba w a,aV,⟨189,0,204,71⟩):=by
 rw[zO,zK]
 kernel_rfl
end MineP
namespace MineP
open PySem PySem.Calls PySem.W MineH
noncomputable section
variable (P:Params)
def sS:BT:=N (I8 P) (N (I9 P) (N (I5 P) (u91 P) (u99 P)) (u115 P)) (u144 P)
end
noncomputable def Sm(w:World)(a:OsState):SharedT:=⟨sS w.params,262,{},#[],{},2548,a⟩
noncomputable def tN{a:Type}(d:a)(f:List (Option Expr)->List Expr->Pos->Pos->a)(s:Stmt):a:=if h:s.ctorIdx=5 then Stmt.Assign.elim (motive_2:=λ_=>a) s h λ_ e p=>if h:e.ctorIdx=6 then Expr.Dict.elim (motive_1:=λ_=>a) e h λks vs q=>f ks vs q p else d else d
noncomputable def gl:Stmt->List (Option Expr):=tN [] λks _ _ _=>ks
noncomputable def gm:Stmt->List Expr:=tN [] λ_ vs _ _=>vs
noncomputable def df:Stmt->Pos:=tN default λ_ _ q _=>q
noncomputable def rO:Stmt->Pos:=tN default λ_ _ _ p=>p
theorem stB10:stB 10=.Assign [.Name (zf "b3_exceptions") ⟨121,0,121,13⟩] (.Dict (gl (stB 10)) (gm (stB 10)) (df (stB 10))) (rO (stB 10)):=by kernel_rfl
theorem Aj:Mine.b3Tab=Mine.tabOf (gl (stB 10)) (gm (stB 10)):=by kernel_rfl
noncomputable def oW:List (Option Expr)->List Expr->Bool
 | [],[]=>true
 | some k::ks,v::vs=>match Mine.con? k,Mine.con? v with
  | some ⟨((.int _,_),_),_⟩,some ⟨((.str _,_),_),_⟩=>oW ks vs
  | _,_=>false
 | _,_=>false
theorem all10:oW (gl (stB 10)) (gm (stB 10))=true:=by decide +kernel
theorem ww{env:Env}{pos:Pos}(ks:List (Option Expr)):∀vs:List Expr,oW ks vs=true->(evalEachOpt ks env).zip ((evalEach vs env).map λv=>do let x<-v;standAt pos;pure x)=dN ((Mine.tabOf ks vs).map (aE pos)):=by
 have no:∀{G:Prop},false=true->G:=λh=>(uG h).elim
 induction ks with
 | nil=>exactλvs h=>by cases vs with
  | nil=>rfl
  | cons=>exact no h
 | cons k ks a=>
  intro vs h;cases k with
  | none=>exact no h
  | some k=>cases vs with
   | nil=>exact no h
   | cons v vs=>
    have h:(match Mine.con? k,Mine.con? v with
     | some ⟨((.int _,_),_),_⟩,some ⟨((.str _,_),_),_⟩=>oW ks vs
     | _,_=>false)=true:=h
    cases b:Mine.con? k with
    | none=>rw[b]at h;exact no h
    | some q=>cases d:Mine.con? v with
     | none=>
      rw[b,d]at h;obtain⟨⟨⟨c,f⟩,p⟩,e⟩:=q;cases c<;>exact no h
     | some r=>
      rw[b,d]at h;obtain⟨⟨⟨c,f⟩,p⟩,rfl⟩:=q;obtain⟨⟨⟨c2,k2⟩,p2⟩,rfl⟩:=r;cases c with
      | int i=>cases c2 with
       | str s=>
        have a:=a vs h;show(some (eval (.Constant (.int i) f p) env),(do let x<-eval (.Constant (.str s) k2 p2) env;standAt pos;pure x))::(evalEachOpt ks env).zip ((evalEach vs env).map λv=>do let x<-v;standAt pos;pure x)=_
        rw[a];rfl
       | _=>exact no h
      | _=>exact no h
noncomputable def sM:Sem Flow:=do
 standAt ⟨121,0,121,13⟩
 bindName aY (zf "b3_exceptions") (.ref 223)
 pure .next
noncomputable def Pc10(w:World):Prop:=∀a:OsState,segRunT treeTable pw w 28 (some (.ref 6)) 1 9 (Sm w a) ⟨sM.wrap doneF deadEnd id id,aV,df (stB 10),bO⟩=some (.next,St10 w a,aV,⟨121,0,121,13⟩)
theorem Gz(w:World):Pc10 (w.withFollow "special-get-raises" false):=by
 intro a;rw[zO,zK]
 kernel_rfl
theorem Gb(w:World):Pc10 (w.withFollow "special-get-raises" true):=by
 intro a;rw[zO,zK]
 kernel_rfl
theorem pc10(w:World):Pc10 w:=byRow2 "special-get-raises" (P:=Pc10) Gz Gb w
end MineP
namespace MineP
open PySem PySem.Calls PySem.W MineH PyProof.Rows
noncomputable abbrev cQ:Option Value:=some (.ref 6)
theorem wJ{b:Type}(d:b)(l:List b)(n:Nat)(h:l.length=n):(yS n).map (λi=>l.getD (223+i-223) d)=l:=by
 apply uq;intro i;by_cases a:i<n
 ·rw[jt,List.getElem?_range a];simp only[jO,Nat.add_sub_cancel_left];rw[uJ,zP (h▸a)];rfl
 ·rw[yr (by simp;exact yU a),yr (Mine.fk2 (zS h) (yU a))]
theorem tJ:b3c.length=17:=by rw[yP,MineH.b3_len];rfl
theorem kD:b3t.length=4:=by rw[yC,MineH.b3_len]
theorem sQ:b3s.length=37:=ki _ _
theorem CW:b3s.flatten.length=629:=by
 show(mT 37 _).flatten.length=_
 rw[eY,yP,yC,MineH.b3_len];rfl
theorem xn:(ic 598 b3c b3s b3t).length=39:=by
 unfold ic;rw[zL,zF,gy,sQ];rfl
theorem CP(P:Params):(sS P).list 262=(sP P).list 223++(yS 39).map λi=>dictO (223+i):=by kernel_rfl
theorem BR(P:Params):(sS P).list 262=(sP P).list 223++ic 598 b3c b3s b3t:=by
 rw[CP,show((yS 39).map λi=>dictO (223+i))=ic 598 b3c b3s b3t from wJ default _ 39 xn]
theorem DQ{a:Type}(l m:List a):l.toArray++m.toArray=(l++m).toArray:=by simp
theorem mid10(w:World)(a:OsState):({(St9 w a).abs with heap:=ii (St9 w a).abs.heap (St9 w a).abs.toks b3c b3s b3t,toks:=(St9 w a).abs.toks+3*b3c.length+3*b3s.flatten.length+3*b3t.length}:Shared)=(Sm w a).abs:=by
 rw[mU,tJ,CW,kD];show(⟨⟨((sP w.params).list 223).toArray++(ic 598 b3c b3s b3t).toArray,{}⟩,#[],{},2548,a⟩:Shared)=⟨⟨((sS w.params).list 262).toArray,{}⟩,#[],{},2548,a⟩
 rw[BR,DQ]
theorem Gc(w:World)(b:OsState)(q:Pos):Ex treeTable pw w 28 cQ (eval (.Dict (gl (stB 10)) (gm (stB 10)) (df (stB 10))) aY) (St9 w b).abs q 12516 (.ref 223) (Sm w b).abs (df (stB 10)):=by
 rw[arm_eval_Dict,ww _ _ all10,<-Aj,<-iv];have a:(St9 w b).abs.heap.objs.size=223:=absHeap_size _ _ _;obtain⟨e,f⟩:=qC Mine.b3Tab 0 (Int.le_refl _) Gr;have c:=rQ (p:=pw) (w:=w) (n₀:=28) (ann:=cQ) (c0:=b3c) (cs:=b3s) (tail:=b3t) (q0:=df (stB 10)) (q:=df (stB 10)) (s:=(St9 w b).abs) tJ (m2 _ _ (by rw[yC,MineH.b3_len];decide))
  (λh=>by have:=kD;rw[h]at this;cases this) (by rw[kD];decide) (by rw[iv,MineH.b3_len];decide) (by rw[iv];exact f) (λx d=>by rw[iv]at d;exact(e x d).2.2) (by rw[a];decide) (by rw[a];decide)
 rw[mid10,a,sQ,kD]at c;exact(Ex.bind Ex.at_ c).steps rfl
theorem Ca:∀{w:World}{b:OsState}{rest:List Stmt}{N:Nat}{r:Shared}(k:topRun treeTable pw w 28 cQ N (St10 w b).abs (restOf rest aY aV ⟨121,0,121,13⟩ bO)=some r),
 topRun treeTable pw w 28 cQ (12517+(9+N)) (St9 w b).abs (restOf (stB 10::rest) aY aV ⟨119,0,120,30⟩ bO)=some r:=by
 exists Mine.ce5_,w,b,rest,N,r;intro k;have c:=segRun_of (pc10 w b);obtain⟨a,h,i⟩:=seg_top (res:=_root_.id) (K':=λf=>match f with|.next=>(execs rest aY).wrap doneF (leaveH aY) _root_.id _root_.id|f=>doneF f) (H':=leaveH aY) (B:=bO) rfl 9 (Sm w b).abs ⟨sM.wrap doneF deadEnd _root_.id _root_.id,aV,df (stB 10),bO⟩
  ⟨sM.wrap (λf=>match f with|.next=>(execs rest aY).wrap doneF (leaveH aY) _root_.id _root_.id|f=>doneF f) (leaveH aY) _root_.id _root_.id,aV,df (stB 10),bO⟩ _ _ _ _ ⟨rfl,rfl,.inl ⟨rfl,rfl,_,rfl,rfl⟩⟩ c
 obtain rfl:a=.next:=h
 have j:=i N r k;unfold restOf;rw[execs_cons_wrap];have e:exec (stB 10) aY=(standAt (rO (stB 10))>>=λ_=>eval (.Dict (gl (stB 10)) (gm (stB 10)) (df (stB 10))) aY>>=λv=>(do standAt ⟨121,0,121,13⟩;bindName aY (zf "b3_exceptions") v;pure .next)):=by
  conv=>lhs;rw[stB10]
  exact exec_Assign_Name _ _ _ _ _ rfl
 rw[e];have l:=(Ex.bind (tb:=treeTable) (p:=pw) (w:=w) (n₀:=28) (ann:=cQ) (Ex.at_ (s:=(St9 w b).abs) (q:=⟨119,0,120,30⟩) (q':=rO (stB 10))) (f:=λ_=>eval (.Dict (gl (stB 10)) (gm (stB 10)) (df (stB 10))) aY) (Gc w b _)).steps (m:=12517) rfl;have n:=l (λv=>(do standAt ⟨121,0,121,13⟩;bindName aY (zf "b3_exceptions") v;pure .next:Sem Flow).wrap (λf=>match f with|.next=>(execs rest aY).wrap doneF (leaveH aY) _root_.id _root_.id|f=>doneF f) (leaveH aY) _root_.id _root_.id) (leaveH aY) _root_.id _root_.id aV bO (9+N) r j;have o:∀{d g:Type}(x:Sem Unit)(y:Sem d)(z:d->Sem g)(K:g->Sem Fin)(H:Value->Sem Fin),(x>>=λ_=>y>>=λv=>z v).wrap K H _root_.id _root_.id=(x>>=λ_=>y).wrap (λv=>(z v).wrap K H _root_.id _root_.id) H _root_.id _root_.id:=λx y z K H=>by
  simp only[Sem.bind_eq_wrap',Sem.wrap_wrap];rfl
 rw[o];exact n
theorem run18(w:World)(a:OsState):topRun treeTable pw w 28 cQ 3 (ba w a).abs (restOf [] aY aV ⟨189,0,204,71⟩ bO)=some (ba w a).abs:=by kernel_rfl
theorem Gq(w:World)(a:OsState):topRun treeTable pw w 28 cQ (27+(3)) (St16 w a).abs (restOf [stB 17] aY aV ⟨185,0,188,27⟩ bO)=some (ba w a).abs:=piece_app (l:=[stB 17]) (segRun_of (pc17 w a)) (run18 w a)
theorem Fk(w:World)(a:OsState):topRun treeTable pw w 28 cQ (34+(27+(3))) (St15 w a).abs (restOf [stB 16,stB 17] aY aV ⟨183,0,184,82⟩ bO)=some (ba w a).abs:=piece_app (l:=[stB 16]) (segRun_of (pc16 w a)) (Gq w a)
theorem FA(w:World)(a:OsState):topRun treeTable pw w 28 cQ (27+(34+(27+(3)))) (St14 w a).abs (restOf [stB 15,stB 16,stB 17] aY aV ⟨152,0,182,24⟩ bO)=some (ba w a).abs:=piece_app (l:=[stB 15]) (segRun_of (pc15 w a)) (Fk w a)
theorem Fb(w:World)(a:OsState):topRun treeTable pw w 28 cQ (27+(27+(34+(27+(3))))) (St13 w a).abs (restOf [stB 14,stB 15,stB 16,stB 17] aY aV ⟨128,0,151,69⟩ bO)=some (ba w a).abs:=piece_app (l:=[stB 14]) (segRun_of (pc14 w a)) (FA w a)
theorem Fy(w:World)(a:OsState):topRun treeTable pw w 28 cQ (27+(27+(27+(34+(27+(3)))))) (St12 w a).abs (restOf [stB 13,stB 14,stB 15,stB 16,stB 17] aY aV ⟨127,0,127,8⟩ bO)=some (ba w a).abs:=piece_app (l:=[stB 13]) (segRun_of (pc13 w a)) (Fb w a)
theorem Fh(w:World)(a:OsState):topRun treeTable pw w 28 cQ (10+(27+(27+(27+(34+(27+(3))))))) (St11 w a).abs (restOf [stB 12,stB 13,stB 14,stB 15,stB 16,stB 17] aY aV ⟨122,0,126,23⟩ bO)=some (ba w a).abs:=piece_app (l:=[stB 12]) (segRun_of (pc12 w a)) (Fy w a)
theorem GL(w:World)(a:OsState):topRun treeTable pw w 28 cQ (31+(10+(27+(27+(27+(34+(27+(3)))))))) (St10 w a).abs (restOf [stB 11,stB 12,stB 13,stB 14,stB 15,stB 16,stB 17] aY aV ⟨121,0,121,13⟩ bO)=some (ba w a).abs:=piece_app (l:=[stB 11]) (segRun_of (pc11 w a)) (Fh w a)
theorem FF(w:World)(a:OsState):topRun treeTable pw w 28 cQ (12517+(9+(31+(10+(27+(27+(27+(34+(27+(3)))))))))) (St9 w a).abs (restOf [stB 10,stB 11,stB 12,stB 13,stB 14,stB 15,stB 16,stB 17] aY aV ⟨119,0,120,30⟩ bO)=some (ba w a).abs:=Ca (GL w a)
theorem run9c(w:World)(a:OsState):topRun treeTable pw w 28 cQ (30+(12517+(9+(31+(10+(27+(27+(27+(34+(27+(3))))))))))) (St8 w a).abs (restOf [stB 9,stB 10,stB 11,stB 12,stB 13,stB 14,stB 15,stB 16,stB 17] aY aV ⟨118,0,118,6⟩ bO)=some (ba w a).abs:=piece_app (l:=[stB 9]) (segRun_of (pc9 w a)) (FF w a)
theorem run8c(w:World)(a:OsState):topRun treeTable pw w 28 cQ (999+(30+(12517+(9+(31+(10+(27+(27+(27+(34+(27+(3)))))))))))) (St7 w a).abs (restOf [stB 8,stB 9,stB 10,stB 11,stB 12,stB 13,stB 14,stB 15,stB 16,stB 17] aY aV ⟨117,0,117,8⟩ bO)=some (ba w a).abs:=piece_app (l:=[stB 8]) (segRun_of (pc8 w a)) (run9c w a)
theorem run7c(w:World)(a:OsState):topRun treeTable pw w 28 cQ (10+(999+(30+(12517+(9+(31+(10+(27+(27+(27+(34+(27+(3))))))))))))) (St6 w a).abs (restOf [stB 7,stB 8,stB 9,stB 10,stB 11,stB 12,stB 13,stB 14,stB 15,stB 16,stB 17] aY aV ⟨81,0,116,32⟩ bO)=some (ba w a).abs:=piece_app (l:=[stB 7]) (segRun_of (pc7 w a)) (run8c w a)
theorem run6c(w:World)(a:OsState):topRun treeTable pw w 28 cQ (505+(10+(999+(30+(12517+(9+(31+(10+(27+(27+(27+(34+(27+(3)))))))))))))) (St5 w a).abs (restOf [stB 6,stB 7,stB 8,stB 9,stB 10,stB 11,stB 12,stB 13,stB 14,stB 15,stB 16,stB 17] aY aV ⟨9,0,80,47⟩ bO)=some (ba w a).abs:=piece_app (l:=[stB 6]) (segRun_of (pc6 w a)) (run7c w a)
theorem run5c(w:World)(a:OsState):topRun treeTable pw w 28 cQ (496+(505+(10+(999+(30+(12517+(9+(31+(10+(27+(27+(27+(34+(27+(3))))))))))))))) (St4 w a).abs (restOf [stB 5,stB 6,stB 7,stB 8,stB 9,stB 10,stB 11,stB 12,stB 13,stB 14,stB 15,stB 16,stB 17] aY aV ⟨8,0,8,11⟩ bO)=some (ba w a).abs:=piece_app (l:=[stB 5]) (segRun_of (pc5 w a)) (run6c w a)
theorem run4c(w:World)(a:OsState):topRun treeTable pw w 28 cQ (128+(496+(505+(10+(999+(30+(12517+(9+(31+(10+(27+(27+(27+(34+(27+(3)))))))))))))))) (StB w a).abs (restOf [stB 0,stB 1,stB 2,stB 3,stB 4,stB 5,stB 6,stB 7,stB 8,stB 9,stB 10,stB 11,stB 12,stB 13,stB 14,stB 15,stB 16,stB 17] aY aV ⟨0,0,0,0⟩ bO)=some (ba w a).abs:=piece_app (l:=[stB 0,stB 1,stB 2,stB 3,stB 4]) (segRun_of (pc4 w a)) (run5c w a)
theorem Bc:behindTheImports pw=[stB 0,stB 1,stB 2,stB 3,stB 4,stB 5,stB 6,stB 7,stB 8,stB 9,stB 10,stB 11,stB 12,stB 13,stB 14,stB 15,stB 16,stB 17]:=by kernel_rfl
theorem runB(w:World)(a:OsState):topRun treeTable pw w 28 cQ (128+(496+(505+(10+(999+(30+(12517+(9+(31+(10+(27+(27+(27+(34+(27+(3)))))))))))))))) (StB w a).abs (restOf (behindTheImports pw) aY aV ⟨0,0,0,0⟩ bO)=some (ba w a).abs:=by
 have h:=run4c w a;rw[<-Bc]at h;exact h
theorem open0(w:World):(fencedOpening treeTable pw w 20000).map (λs=>(s.heap,s.gens,s.drawn,s.toks))=some (absHeap (lX w.params) 28 {},#[],{},276):=by
 unfold fencedOpening;rw[PySem.W.Fast.te10274390034422433532,PySem.W.Fast.te14289696077712309145,zK]
 kernel_rfl
theorem pre0(w:World)(a:OsState):topGo treeTable pw w 28 cQ 12 ⟨absHeap (lX w.params) 28 {},#[],{},276,a⟩ (topStub pw)=some ((StB w a).abs,⟨denote treeTable (.body (behindTheImports pw) aY),aV,⟨0,0,0,0⟩,bO⟩):=by
 rw[PySem.W.Fast.te15667345088766844465,PySem.W.Fast.te11892475500146522536,zK]
 kernel_rfl
theorem Gd(w:World)(a:OsState):segRun treeTable pw w 28 cQ 1 1 (StB w a).abs (blockOf (behindTheImports pw) aY aV ⟨0,0,0,0⟩ bO)=some (.next,(StB w a).abs,aV,⟨0,0,0,0⟩):=by
 rw[PySem.W.Fast.te14374325043358763698,zK]
 kernel_rfl
theorem size0(w:World):((absHeap (lX w.params) 28 {}).isNs mainGlobals&&(#[]:Array GenState).size==0,(absHeap (lX w.params) 28 {}).objs.size,(absHeap (lX w.params) 28 {}).nsMap mainGlobals "__annotations__")=(true,28,cQ):=by kernel_rfl
noncomputable def hS:Nat:=12+(1+(128+(496+(505+(10+(999+(30+(12517+(9+(31+(10+(27+(27+(27+(34+(27+(3)))))))))))))))))
theorem Fr(w:World)(a:OsState):topRun treeTable pw w 28 cQ hS ⟨absHeap (lX w.params) 28 {},#[],{},276,a⟩ (topStub pw)=some (ba w a).abs:=
 go_top (pre0 w a) (piece_block (Gd w a) (runB w a))
noncomputable def HA(P:Params):Heap:=absHeap (lX P) 28 {}
theorem lk1(w:World)(a:OsState):gensDone (ba w a).abs=true:=by kernel_rfl
theorem lk2(w:World)(a:OsState):laidKept (HA w.params) (ba w a).abs.heap=true:=by kernel_rfl
theorem lk3(w:World)(a:OsState):namesBound pw (ba w a).abs.heap=true:=by kernel_rfl
theorem lk4(w:World)(a:OsState):staticsOk (importedModules pw.main.body) (HA w.params) (ba w a).abs.heap=true:=by kernel_rfl
noncomputable def qv:Program:=view pw [18]
noncomputable def lv:List Str:=pw.boundNames.filter λx => !((recsOf qv).map (·.name)).contains x
theorem c1(w:World)(a:OsState):seen ((recsOf qv).map (·.name)) (ownsOf qv) [] {(ba w a).abs with gens:=#[]}=expectedOf qv:=by kernel_rfl
theorem c2(w:World)(a:OsState):(ba w a).abs.heap.bltView=bltViewBooted:=by kernel_rfl
theorem c3a(w:World)(a:OsState):(ba w a).abs.heap.keysOk (looseW qv lv) ((recsOf qv).map (·.name)) ((litsOf qv).map (·.1)) ((clssOf qv (looseW qv lv)).map (·.name))=true:=by kernel_rfl
theorem c3b(w:World)(a:OsState):(ba w a).abs.heap.accountedOkI (importedModules pw.main.body)=true:=by kernel_rfl
theorem c3c(w:World)(a:OsState):((ba w a).abs.heap.isNs mainGlobals&&(ba w a).abs.heap.isNs builtinsNs&&((ba w a).abs.gens.size==0))=true:=by kernel_rfl
theorem c3d(w:World)(a:OsState):tablesOk qv (ba w a).abs.heap=true:=by kernel_rfl
theorem c4(w:World)(a:OsState):tabsOk qv (ba w a).abs=true:=by kernel_rfl
theorem c5(w:World)(a:OsState):pinSeenD qv (drecsOf qv) (ba w a).abs=pinGoodD (drecsOf qv):=by kernel_rfl
theorem c6(w:World)(a:OsState):plainSeenE qv (looseW qv lv) (ba w a).abs=plainGoodE qv (looseW qv lv):=by kernel_rfl
theorem c7(w:World)(a:OsState):plainSeenD qv lv (ba w a).abs=plainGoodD qv lv:=by kernel_rfl
theorem c8(w:World)(a:OsState):wideSeen qv (ba w a).abs=wideGood qv:=by kernel_rfl
theorem c9(w:World)(a:OsState):clsSeenW qv lv (ba w a).abs=clsGoodW qv lv:=by kernel_rfl
theorem GG(w:World):(λa=>((staticsOk (importedModules pw.main.body) (HA w.params) (ba w a).abs.heap&&namesBound pw (ba w a).abs.heap&&gensDone (ba w a).abs&&laidKept (HA w.params) (ba w a).abs.heap),
 openSeen qv lv (importedModules pw.main.body) (λ_=>true) true (ba w a).abs,()))=λ_=>(true,openGood qv lv,()):=by
 funext a
 have b:((ba w a).abs.heap.keysOk (looseW qv lv) ((recsOf qv).map (·.name)) ((litsOf qv).map (·.1)) ((clssOf qv (looseW qv lv)).map (·.name))&&(ba w a).abs.heap.accountedOkI (importedModules pw.main.body)&&(ba w a).abs.heap.isNs mainGlobals&&(ba w a).abs.heap.isNs builtinsNs&&tablesOk qv (ba w a).abs.heap&&true&&(if true then(ba w a).abs.gens.size==0 else !leftWithCleanup (ba w a).abs.gens))=true:=by
  have c:=c3c w a;simp only[za]at c;simp only[c3a w a,c3b w a,c3d w a,c.1.1,c.1.2,c.2,Bool.and_true,if_true]
 unfold openSeen openGood;rw[lk1,lk2,lk3,lk4,c1,c2,b,c4,c5,c6,c7,c8,c9];rfl
noncomputable def HZ(P:Params):Heap:=absHeap (tree17 P) 296 {}
theorem FG(w:World):(λa=>((staticsOk (importedModules pw.main.body) (HA w.params) (HZ w.params)&&namesBound pw (HZ w.params)&&gensDone ⟨HZ w.params,#[],{},2594,a⟩&&laidKept (HA w.params) (HZ w.params)),
 openSeen qv lv (importedModules pw.main.body) (λ_=>true) true ⟨HZ w.params,#[],{},2594,a⟩,HZ w.params))=λ_=>(true,openGood qv lv,HZ w.params):=by
 funext a
 have h:=congrFun (GG w) a;have b:=congrArg (λx=>x.1) h;have c:=congrArg (λx=>x.2.1) h;exact Prod.ext b (Prod.ext c rfl)
theorem size1(w:World):((HA w.params).isNs mainGlobals&&(#[]:Array GenState).size==0,(HA w.params).objs.size,(HA w.params).nsMap mainGlobals "__annotations__")=(true,28,cQ):=size0 w
theorem Dj(w:World)(a:OsState):topRun treeTable pw w 28 cQ hS ⟨HA w.params,#[],{},276,a⟩ (topStub pw)=some ⟨HZ w.params,#[],{},2594,a⟩:=Fr w a
theorem le1:Nat.ble hS 20000=true:=by kernel_rfl
theorem left0:LeftO pw qv lv (λ_=>true) (λs=>s.heap) (λw=>HZ w.params) 20000 true:=
 LeftO.of_pieces (H₀:=HA) (H₁:=HZ) (gs₀:=#[]) (gs₁:=#[]) (d₀:={}) (d₁:={}) (k₀:=276) (k₁:=2594) (m₀:=28) (ann:=cQ) (M:=hS)
  (λw=>open0 w) size1 Dj le1 FG
noncomputable abbrev rwL:=PySem.Challenge.rw_pe0276_01
theorem Cs:((defOf qv rwL.row.name).map (·.1)).isSome=true:=by kernel_rfl
noncomputable def mM:DefRec:=((defOf qv rwL.row.name).map (·.1)).get Cs
noncomputable def YPw(w:World)(h:Heap):Prop:=∀b o,(HZ w.params).get? b=some o->h.get? b=some o
theorem hdef0:defOf qv rwL.row.name=some (mM,[]):=by kernel_rfl
theorem hp0:pw.theDef rwL.row.name=some (mM.params,mM.body,mM.scope):=by kernel_rfl
theorem hk0:kwWritten? mM.params.kwonlyargs mM.params.kw_defaults=some []:=by kernel_rfl
theorem ok0:(chainsOk qv&&opensWell rwL.row.prog&&(frees rwL.row.toRowW&&rwL.row.within.isEmpty))=true:=by kernel_rfl
theorem hwr0:(!rwL.row.writes||rwL.row.records.isEmpty)=true:=by kernel_rfl
theorem bare0:rwL.row.prog.bare:=⟨by kernel_rfl,by kernel_rfl,by kernel_rfl,by kernel_rfl,by kernel_rfl,by kernel_rfl⟩
theorem rec0(h:Heap):RecFacts rwL.row.records h:=⟨λ_ b=>(nomatch b),λ_ b=>(nomatch b),by
 refine⟨?_,?_⟩
 ·show ApartW [] _
  intro c e a d;exact absurd d (by simp[WRecords.fields?])
 ·show FieldsOnceW []
  intro c fs d;exact absurd d (by simp[WRecords.fields?])⟩
theorem holds_of(a:rwL.wellSaid=true)(c:rwL.row.toRowW.promised)
 (call:WalkO qv lv (λ_ _=>True) YPw rwL.row.toRowW mM [] λf vs=>PySem.call f vs):rwL.Holds:=
 holds_law a λk1=>holds_open (q:=qv) (loose:=lv) (Xt:=λ_=>true) (XP:=λ_ _=>True) (Yf:=λs=>s.heap) (Ya:=λw=>HZ w.params) (YP:=YPw) (N:=20000)
  left0 (λw s e b o h=>by have d:s.heap=HZ w.params:=e;rw[d];exact h) (λw h g k m b o x=>m b o (k b o x))
  (λ_ _=>trivial) (λ_ _ _ _ _=>trivial) hdef0 hp0 hk0 (λs _=>rec0 s.heap) hwr0 k1 ok0 bare0 c call
theorem hw0:rwL.row.toRowW.promised:=⟨[.list []],by kernel_rfl,by kernel_rfl⟩
theorem said0:rwL.wellSaid=true:=by kernel_rfl
end MineP
namespace MineQ
open PySem PySem.Calls PySem.W PyProof.Rows
open MineP (HZ)
open Mine (br ae aO aK cn aw cN nm cp cm dx constNames cl)
noncomputable def Et:Obj:={cls:=.none,data:=.freed}
noncomputable def vt:List Addr:=[19,39,205,207,211]
noncomputable def EJ(P:Params):BT:=vt.foldl (λt a=>t.set a λ_=>Et) (MineP.tree17 P)
noncomputable def HY(P:Params):Heap:=absHeap (EJ P) 296 {}
theorem tP(b:Nat):∀(c:List Addr)(t:BT),b∉c->(c.foldl (λt a=>t.set a λ_=>Et) t).get b=t.get b
 | [],t,_=>rfl
 | a::r,t,h=>by
  rw[uL,tP b r _ (λq=>h (zy _ q)),BT.get_set,if_neg (λe:b=a=>h (by rw[e];exact zj ..))]
theorem DM(P:Params){b:Addr}(h:b∈vt):(HY P).get? b=none:=by
 have x:vt.all (λb=>((HY P).get? b).isNone)=true:=by kernel_rfl
 exact vV.mp (yD.mp x b h)
theorem oH(P:Params){b:Addr}(h:b∉vt):(HY P).get? b=(HZ P).get? b:=by
 unfold HY HZ Heap.get?;rw[absHeap_at,absHeap_at];unfold EJ;rw[tP b vt _ h]
theorem BM(P:Params){b:Addr}{o:Obj}(h:(HY P).get? b=some o):(HZ P).get? b=some o:=by
 by_cases a:b∈vt
 ·rw[DM P a]at h;cases h
 ·rw[<-oH P a];exact h
noncomputable def bp(P:Params)(a:Nat):Obj:=((HY P).get? a).getD default
noncomputable def fdOf(o:Obj):FuncData:=match o.data with|.func fd=>fd|_=>default
noncomputable def isFd(o:Obj):Bool:=match o.data with|.func _=>true|_=>false
set_option tactic.hygienic true in
theorem kE{o:Obj}(h:isFd o=true):o.data=.func (fdOf o):=by
 unfold isFd at h;unfold fdOf;split at h
 ·rename_i fd e;rw[e]
 ·cases h
noncomputable abbrev ek(P:Params)(a:Nat):FuncData:=fdOf (bp P a)
theorem bb{P:Params}{a:Nat}(h:((HY P).get? a).isSome=true):(HY P).get? a=some (bp P a):=by
 unfold bp;cases e:(HY P).get? a with
 | none=>rw[e]at h;cases h
 | some o=>rfl
noncomputable def dq:Stmt->Arguments:=MineP.fnArgs
noncomputable def xI:Stmt->List Stmt:=MineP.fnOf [] λ_ b _=>b
noncomputable def eO:Stmt->Scope:=MineP.fnScope
noncomputable def refOf:Value->Nat
 | .ref a=>a
 | _=>0
noncomputable def sV:Value->Bool
 | .ref _=>true
 | _=>false
theorem qO{v:Value}(h:sV v=true):v=.ref (refOf v):=by
 cases v<;>first|rfl|cases h
structure FK (P:Params) (i:Nat):Prop where
 obj:((HY P).get? (ae i)).isSome=true
 dat:isFd (bp P (ae i))=true
 par:(ek P (ae i)).params=dq (aK i)
 body:(ek P (ae i)).body=.stmts (xI (aK i))
 scope:(ek P (ae i)).scope=eO (aK i)
 rest:((ek P (ae i)).globals,(ek P (ae i)).builtins)=(mainGlobals,builtinsNs)
 code:((HY P).codeRecOk (ek P (ae i)).code (ek P (ae i)).qualname&&sV (ek P (ae i)).code && !aO.contains (refOf (ek P (ae i)).code))=true
 sc:((eO (aK i)).kind==.function && !(eO (aK i)).isCoroutine && !(eO (aK i)).isGenerator&&(eO (aK i)).names.all (λx=>x.2 != .cell)&&
  (dq (aK i)).args.all (λx=>(eO (aK i)).names.lookup x.arg==some .local)&&decide (((dq (aK i)).args.map (·.arg)).Nodup))=true
theorem fk0(P:Params):FK P 0:=by constructor<;>kernel_rfl
theorem fk1(P:Params):FK P 1:=by constructor<;>kernel_rfl
theorem fk2(P:Params):FK P 2:=by constructor<;>kernel_rfl
theorem fk3(P:Params):FK P 3:=by constructor<;>kernel_rfl
theorem fk4(P:Params):FK P 4:=by constructor<;>kernel_rfl
theorem fk5(P:Params):FK P 5:=by constructor<;>kernel_rfl
theorem fk6(P:Params):FK P 6:=by constructor<;>kernel_rfl
theorem fk10(P:Params):FK P 10:=by constructor<;>kernel_rfl
theorem fk11(P:Params):FK P 11:=by constructor<;>kernel_rfl
theorem fk12(P:Params):FK P 12:=by constructor<;>kernel_rfl
theorem fk13(P:Params):FK P 13:=by constructor<;>kernel_rfl
theorem fk14(P:Params):FK P 14:=by constructor<;>kernel_rfl
theorem fk20(P:Params):FK P 20:=by constructor<;>kernel_rfl
theorem fk21(P:Params):FK P 21:=by constructor<;>kernel_rfl
theorem fk22(P:Params):FK P 22:=by constructor<;>kernel_rfl
theorem fk23(P:Params):FK P 23:=by constructor<;>kernel_rfl
theorem fk24(P:Params):FK P 24:=by constructor<;>kernel_rfl
theorem fk25(P:Params):FK P 25:=by constructor<;>kernel_rfl
theorem fk26(P:Params):FK P 26:=by constructor<;>kernel_rfl
theorem fk27(P:Params):FK P 27:=by constructor<;>kernel_rfl
theorem fk28(P:Params):FK P 28:=by constructor<;>kernel_rfl
theorem fk:∀(P:Params),∀i∈br,FK P i:=by
 exists Mine.ce2_,P,i;intro a;simp only[br,zM,yM,or_false]at a;rcases a with rfl|rfl|rfl|rfl|rfl|rfl|rfl|rfl|rfl|rfl|rfl|rfl|rfl|rfl|rfl|rfl|rfl|rfl|rfl|rfl|rfl
 ·exact fk0 P
 ·exact fk1 P
 ·exact fk2 P
 ·exact fk3 P
 ·exact fk4 P
 ·exact fk5 P
 ·exact fk6 P
 ·exact fk10 P
 ·exact fk11 P
 ·exact fk12 P
 ·exact fk13 P
 ·exact fk14 P
 ·exact fk20 P
 ·exact fk21 P
 ·exact fk22 P
 ·exact fk23 P
 ·exact fk24 P
 ·exact fk25 P
 ·exact fk26 P
 ·exact fk27 P
 ·exact fk28 P
end MineQ
namespace MineQ
open PySem PySem.Calls PySem.W PyProof.Rows
open Mine (br ae aO aK cn aw cN nm cp cm dx constNames cl Top kn eQ nR iQ mQ Ad aL)
variable (P:Params)
theorem tO:(HY P).objs.size=296:=by kernel_rfl
theorem zlim:(HY P).noLimitOk=true:=by kernel_rfl
theorem Ek:(HY P).isNs mainGlobals=true:=by kernel_rfl
theorem zblt:(HY P).isNs builtinsNs=true:=by kernel_rfl
noncomputable def qm(s:Str):Option Value->Bool
 | some (.str t _)=>t==s
 | _=>false
set_option tactic.hygienic true in
theorem qo{s:Str}{v:Option Value}(h:qm s v=true):∃t,v=some (.str s t):=by
 unfold qm at h;split at h
 ·rename_i t tt;exact⟨tt,by rw[beq_iff_eq.mp h]⟩
 ·cases h
theorem zg1:cp.map (λp=>(HY P).nsMap mainGlobals p.1)=cp.map (λp=>some (.ref (ae p.2))):=by kernel_rfl
theorem zg2:((HY P).nsMap mainGlobals (nm "_ValueFormatter"),(HY P).nsMap mainGlobals (nm "_Accumulator"))=(some (.ref cn),some (.ref aw)):=by kernel_rfl
theorem zg3:cm.map (λp=>(HY P).nsMap mainGlobals p.1)=cm.map (λp=>some (.ref (dx p.2))):=by kernel_rfl
theorem zg4:constNames.all (λp=>qm p.2 ((HY P).nsMap mainGlobals p.1))=true:=by kernel_rfl
theorem zg5:(cl++[nm "super",nm "zip",nm "iter",nm "range"]).map (λx=>(HY P).nsMap mainGlobals x)=(cl++[nm "super",nm "zip",nm "iter",nm "range"]).map (λ_=>none):=by kernel_rfl
theorem zb1:["len","ord","chr","sum","min","str","super","zip","iter","range"].map (λx=>(HY P).nsMap builtinsNs (nm x))=
 [some (.builtin "len"),some (.builtin "ord"),some (.builtin "chr"),some (.builtin "sum"),some (.builtin "min"),some (.type "str"),some (.type "super"),some (.type "zip"),some (.builtin "iter"),some (.type "range")]:=by kernel_rfl
theorem ct{c d:Type}{f g:c->d}{l:List c}(h:l.map f=l.map g):∀x∈l,f x=g x:=by
 induction l with
 | nil=>intro x b;cases b
 | cons a r e=>
  rw[zV,zV]at h;injection h with h1 h2
  intro x b;rcases zM.mp b with rfl|b
  ·exact h1
  ·exact e h2 x b
theorem ztop:Top (HY P) where
 size:=by rw[tO];exact zY _
 lim:=.of_ok (zlim P)
 fns:=λi a=>⟨_,_,bb (fk P i a).obj,kE (fk P i a).dat⟩
 glob:=⟨_,.of_isNs (Ek P),ct (zg1 P),congrArg (·.1) (zg2 P),congrArg (·.2) (zg2 P),ct (zg3 P),λp hp=>qo (yD.mp (zg4 P) p hp),ct (zg5 P)⟩
 blt:=by
  have h:=zb1 P;simp only[zV,ux,List.cons.injEq,and_true]at h;exact⟨_,.of_isNs (zblt P),h⟩
noncomputable def ks:List Addr:=[2,115,116,199,200,4]++br.map ae
noncomputable def KQ:Frag:=ks.map λa=>(a,bp P a)
theorem DR:ks.all (λa=>((HY P).get? a).isSome)=true:=by kernel_rfl
set_option tactic.hygienic true in
theorem lQ{f:Addr->Obj}:∀{l:List Addr}{a:Addr}{o:Obj},(l.map λa=>(a,f a)).lookup a=some o->a∈l/\o=f a
 | [],a,o,h=>by cases h
 | b::r,a,o,h=>by
  rw[zV,zZ]at h;split at h
  ·rename_i e;have e:=beq_iff_eq.mp e;subst e;cases h;exact⟨zj ..,rfl⟩
  ·obtain⟨h1,h2⟩:=lQ h;exact⟨zy _ h1,h2⟩
theorem kin:(KQ P).In (HY P):=λa o e=>by
 obtain⟨b,rfl⟩:=lQ e;exact bb (yD.mp (DR P) a b)
theorem zak:mQ (KQ P) where
 len:=by kernel_rfl
 str:=by kernel_rfl
 bool:=by kernel_rfl
 fn:=by
  have h:br.all (λi=>isFn (KQ P) (.ref (ae i)))=true:=by kernel_rfl
  exact yD.mp h
theorem zmk:Ad (KQ P) where
 vf:=by kernel_rfl
 ac:=by kernel_rfl
 vfI:=by kernel_rfl
 acI:=by kernel_rfl
theorem zcls:aL (HY P) (KQ P) where
 inn:=kin P
 off:=by
  intro a c;have h:∀a∈aO,((KQ P).lookup a).isNone=true:=yD.mp (by kernel_rfl:aO.all (λa=>((KQ P).lookup a).isNone)=true);exact vV.mp (h a c)
 ga:=by
  intro C b;simp only[cN,zM,yM,or_false]at b;rcases b with rfl|rfl
  ·exact .inl (by kernel_rfl)
  ·exact .inr ⟨by kernel_rfl,by kernel_rfl⟩
 gat:=ct (by kernel_rfl:cN.map (λC=>findIn (KQ P) (.ref C) "__getattr__")=cN.map λ_=>some none)
 sat:=ct (by kernel_rfl:cN.map (λC=>findIn (KQ P) (.ref C) "__setattr__")=cN.map λ_=>some (some (.builtin "object.__setattr__")))
 fld:=by
  intro C b;have h:∀C∈cN,Mine.fldNames.map (λn=>findIn (KQ P) (.ref C) n)=Mine.fldNames.map λ_=>some none:=ct (by kernel_rfl:cN.map (λC=>Mine.fldNames.map (λn=>findIn (KQ P) (.ref C) n))=cN.map λ_=>Mine.fldNames.map λ_=>some none);exact ct (h C b)
 dict:=by
  intro C b;simp only[cN,zM,yM,or_false]at b;rcases b with rfl|rfl
  ·exact⟨_,(by kernel_rfl:clsIn (KQ P) cn=some {name:=zf "_ValueFormatter",bases:=[yO "object"],mro:=[jV 116,yO "object"],ns:=115,qualname:=zf "_ValueFormatter"}),rfl,.inl rfl⟩
  ·exact⟨_,(by kernel_rfl:clsIn (KQ P) aw=some {name:=zf "_Accumulator",bases:=[yO "list"],mro:=[jV 200,yO "list",yO "object"],ns:=199,qualname:=zf "_Accumulator"}),rfl,.inr rfl⟩
 acMro:=⟨_,(by kernel_rfl:clsIn (KQ P) aw=some {name:=zf "_Accumulator",bases:=[yO "list"],mro:=[jV 200,yO "list",yO "object"],ns:=199,qualname:=zf "_Accumulator"}),rfl⟩
 acL:=ct (by kernel_rfl:[(nm "__getitem__","list.__getitem__"),(nm "__setitem__","list.__setitem__"),(nm "__iter__","list.__iter__"),(nm "append","list.append")].map (λp=>findIn (KQ P) (.ref aw) p.1)=[(nm "__getitem__","list.__getitem__"),(nm "__setitem__","list.__setitem__"),(nm "__iter__","list.__iter__"),(nm "append","list.append")].map λp=>some (some (.builtin p.2)))
 vfM:=λp hp=>⟨ct (by kernel_rfl:Mine.vfMeth.map (λp=>findIn (KQ P) (.ref cn) p.1)=Mine.vfMeth.map λp=>some (some (.ref (ae p.2)))) p hp,ct (by kernel_rfl:Mine.vfMeth.map (λp=>typeIn (KQ P) (.ref (ae p.2)))=Mine.vfMeth.map λp=>some (.type "function")) p hp⟩
 acM:=λp hp=>⟨ct (by kernel_rfl:Mine.acMeth.map (λp=>findIn (KQ P) (.ref aw) p.1)=Mine.acMeth.map λp=>some (some (.ref (ae p.2)))) p hp,ct (by kernel_rfl:Mine.acMeth.map (λp=>typeIn (KQ P) (.ref (ae p.2)))=Mine.acMeth.map λp=>some (.type "function")) p hp⟩
theorem Ey:(HY P).get? 43=some {cls:=yO "re.Pattern",data:=Data.fields #[Value.str (zf "([ \t]+)") 292,zl 32 317,zl 1 0,vK,vK,jV 42,zl 0 0]}:=by kernel_rfl
theorem ztops:eQ (HY P) where
 dict:=by
  have h:(((HY P).get? 223).isSome,(bp P 223).cls,(bp P 223).dict)=(true,.type "dict",none):=by kernel_rfl
  exact⟨_,bb (congrArg (·.1) h),congrArg (·.2.1) h,congrArg (·.2.2) h⟩
 pat:=⟨_,Ey P,rfl,rfl⟩
noncomputable def dS(o:Obj):Array Value×Nat:=match o.data with|.seq xs n=>(xs,n)|_=>default
noncomputable def m4(o:Obj):Bool:=match o.data with|.seq _ _=>true|_=>false
set_option tactic.hygienic true in
theorem h8{o:Obj}(h:m4 o=true):o.data=.seq (dS o).1 (dS o).2:=by
 unfold m4 at h;unfold dS;split at h
 ·rename_i xs n e;rw[e]
 ·cases h
theorem zpat:nR (HY P) where
 obj:=by
  have h:(((HY P).get? 42).isSome,m4 (bp P 42),((dS (bp P 42)).1.map Builtin.Re.reRawOf).map (·.toNat))=(true,true,Mine.code0):=by kernel_rfl
  exact⟨_,_,42,0,0,Ey P,rfl,rfl,rfl,rfl,rfl,by decide,_,_,_,bb (congrArg (·.1) h),h8 (congrArg (·.2.1) h),congrArg (·.2.2) h⟩
end MineQ
namespace MineQ
open Mine (eD dk av AU qW mf)
open PySem PySem.Calls PySem.W PyProof.Rows
open Mine (br ae aO aK cn aw cN nm cp cm dx constNames cl Top kn eQ nR iQ mQ Ad aL AR VR dA fc)
variable (P:Params)
noncomputable def intAt:Value->Option Int
 | .int i _=>some i
 | _=>none
theorem rd{v:Value}{i:Int}(h:intAt v=some i):∃t,v=.int i t:=by
 cases v<;>first|cases h;exact⟨_,rfl⟩|cases h
theorem df20:((ek P 137).defaults,((HY P).get? 129).isSome,m4 (bp P 129),(dS (bp P 129)).1.size,(dS (bp P 129)).1.toList.map intAt)=(.ref 129,true,true,1,[some 0]):=by kernel_rfl
theorem df22:((ek P 152).defaults,((HY P).get? 145).isSome,m4 (bp P 145),(dS (bp P 145)).1.size,(dS (bp P 145)).1.toList.map intAt)=(.ref 145,true,true,1,[some 0]):=by kernel_rfl
theorem df26:((ek P 182).defaults,((HY P).get? 175).isSome,m4 (bp P 175),(dS (bp P 175)).1)=(.ref 175,true,true,#[.none]):=by kernel_rfl
theorem dfs:∀i∈br,(i==20||i==22||i==26||((dq (aK i)).defaults.isEmpty&&(ek P (ae i)).defaults==.none))=true:=
 yD.mp (by kernel_rfl:br.all (λi=>i==20||i==22||i==26||((dq (aK i)).defaults.isEmpty&&(ek P (ae i)).defaults==.none))=true)
theorem da:((dq (aK 20)).args.length,(dq (aK 22)).args.length,(dq (aK 26)).args.length)=(2,2,2):=by kernel_rfl
theorem db:(dA fc (dq (aK 20)).defaults,dA fc (dq (aK 22)).defaults,dA fc (dq (aK 26)).defaults)=(some [.int 0],some [.int 0],some [.none]):=by kernel_rfl
theorem tv{xs:Array Value}(h:xs.size=1)(a:xs.toList.map intAt=[some 0]):∃t,xs=#[.int 0 t]:=by
 obtain⟨l⟩:=xs;cases l with
 | nil=>contradiction
 | cons v r=>
  cases r with
  | cons=>exact absurd (Nat.succ.inj h) (vY _)
  | nil=>exact eD (rd (List.cons.inj a).1) λt e=>⟨t,e▸rfl⟩
theorem two{c:Type}{l:List c}(h:l.length=2):∃a b,l=[a,b]:=by
 cases l with
 | nil=>contradiction
 | cons a r=>
  cases r with
  | nil=>exact absurd (Nat.succ.inj h).symm (vY _)
  | cons b r=>exact AU a b (by rw[zk.mp (Nat.succ.inj (Nat.succ.inj h))])
theorem nd2{a b:Arg}(h:as=[a,b])(n:(as.map (·.arg)).Nodup):a.arg≠b.arg:=by
 subst h;intro e;simp[e]at n
theorem zfn:kn (HY P):=by
 revert P;exists Mine.ce2_,P,i;intro p nm as m body sc a b c h;have k:=fk P i p;have f:dq (aK i)=⟨[],as,none,[],[],none,m⟩:=by rw[h];rfl
 have u:xI (aK i)=body:=by rw[h];rfl
 have q:eO (aK i)=sc:=by rw[h];rfl
 have r:=k.code;simp only[za,Bool.not_eq_true']at r;obtain⟨⟨c1,c2⟩,n⟩:=r;have ks:=k.sc;rw[f,q]at ks;simp only[za,Bool.not_eq_true',decide_eq_true_eq,beq_iff_eq,yD,bne_iff_ne]at ks;obtain⟨⟨⟨⟨⟨s1,s2⟩,s3⟩,v⟩,w⟩,l⟩:=ks;refine⟨⟨_,_,_,bb k.obj,kE k.dat,k.par.trans f,k.body.trans (congrArg _ u),k.scope.trans q,congrArg (·.1) k.rest,congrArg (·.2) k.rest,.of_ok c1,qO c2,(λA=>by replace n:=((un.mpr A).symm).trans n;cases n),?_⟩,s1,s2,s3,v,w,l⟩;have s:=dfs P i p;simp only[Bool.or_eq_true,beq_iff_eq,za]at s;have B:∀{as:List Arg}{a b:Arg},as=[a,b]->(as.map (·.arg)).Nodup->a.arg≠b.arg:=λe=>nd2 e;rcases s with ((rfl|rfl)|rfl)|⟨h1,h2⟩
 ·right
  have x:=df20 P;obtain⟨t,o⟩:=tv (congrArg (·.2.2.2.1) x) (congrArg (·.2.2.2.2) x);have y:=congrArg (·.1) da;have z:=congrArg (·.1) db;dsimp only at y z;rw[f]at y z;obtain⟨g,j,d⟩:=two y;exact⟨g,j,129,_,_,_,_,d,nd2 d l,congrArg (·.1) x,by decide,bb (congrArg (·.2.1) x),(h8 (congrArg (·.2.2.1) x)).trans (by rw[o]),z,λ_ _=>.int _ _⟩
 ·right
  have x:=df22 P;obtain⟨t,o⟩:=tv (congrArg (·.2.2.2.1) x) (congrArg (·.2.2.2.2) x);have y:=congrArg (·.2.1) da;have z:=congrArg (·.2.1) db;dsimp only at y z;rw[f]at y z;obtain⟨g,j,d⟩:=two y;exact⟨g,j,145,_,_,_,_,d,nd2 d l,congrArg (·.1) x,by decide,bb (congrArg (·.2.1) x),(h8 (congrArg (·.2.2.1) x)).trans (by rw[o]),z,λ_ _=>.int _ _⟩
 ·right
  have x:=df26 P;have y:=congrArg (·.2.2) da;have z:=congrArg (·.2.2) db;dsimp only at y z;rw[f]at y z;refine dk (two y) λg j d=>?_;exact⟨g,j,175,_,_,_,_,d,nd2 d l,congrArg (·.1) x,by decide,bb (congrArg (·.2.1) x),(h8 (congrArg (·.2.2.1) x)).trans (congrArg (λz=>Data.seq z _) (congrArg (·.2.2.2) x)),z,λ_ _=>.none⟩
 ·left
  rw[f]at h1;exact⟨List.isEmpty_iff.mp h1,h2⟩
noncomputable def fieldsOf(o:Obj):Array Value:=match o.data with|.fields vs=>vs|_=>#[]
noncomputable def ey(o:Obj):Bool:=match o.data with|.fields _=>true|_=>false
set_option tactic.hygienic true in
theorem iX{o:Obj}(h:ey o=true):o.data=.fields (fieldsOf o):=by
 unfold ey at h;unfold fieldsOf;split at h
 ·rename_i vs e;exact e
 ·cases h
noncomputable def ou(i:Nat):Addr:=refOf (ek P (ae i)).code
theorem sp1:∀i∈[20,23,28],((ek P (ae i)).closure,sV (ek P (ae i)).code,aO.contains (ou P i),((HY P).get? (ou P i)).isSome,ey (bp P (ou P i)),qm jL.main.file ((fieldsOf (bp P (ou P i)))[2]?))=([(nm "__class__",124)],true,false,true,true,true):=
 ct (by kernel_rfl:[20,23,28].map (λi=>((ek P (ae i)).closure,sV (ek P (ae i)).code,aO.contains (ou P i),((HY P).get? (ou P i)).isSome,ey (bp P (ou P i)),qm jL.main.file ((fieldsOf (bp P (ou P i)))[2]?)))=[20,23,28].map λ_=>([(nm "__class__",124)],true,false,true,true,true))
theorem sp2:(HY P).get? 124=some {cls:=yO "cell",data:=Data.cell (some (jV 200))}:=by kernel_rfl
theorem sp3:∀p∈[(24,166),(25,173)],(ek P (ae p.1)).code=.ref p.2:=
 ct (by kernel_rfl:[(24,166),(25,173)].map (λp=>(ek P (ae p.1)).code)=[(24,166),(25,173)].map λp=>.ref p.2)
theorem sp4:∀p∈[(166,162),(173,169)],(((HY P).get? p.1).isSome,(bp P p.1).cls,ey (bp P p.1),(fieldsOf (bp P p.1))[11]?)=(true,.type "code",true,some (.ref p.2)):=
 ct (by kernel_rfl:[(166,162),(173,169)].map (λp=>(((HY P).get? p.1).isSome,(bp P p.1).cls,ey (bp P p.1),(fieldsOf (bp P p.1))[11]?))=[(166,162),(173,169)].map λp=>(true,.type "code",true,some (.ref p.2)))
theorem sp5:((HY P).nsMap mainGlobals "__builtins__",(HY P).get? 4)=(some (.ref 4),some {cls:=yO "module",dict:=some 0}):=by kernel_rfl
theorem zsp:iQ (HY P) (KQ P) where
 fn:=λi b=>by
  have x:=sp1 P i b;have a:i∈br:=(by decide:∀i∈[20,23,28],i∈br) i b;obtain⟨t,d⟩:=qo (congrArg (·.2.2.2.2.2) x);refine⟨_,_,_,_,_,t,bb (fk P i a).obj,kE (fk P i a).dat,congrArg (·.1) x,qO (congrArg (·.2.1) x),λe=>?_,bb (congrArg (·.2.2.2.1) x),iX (congrArg (·.2.2.2.2.1) x),d⟩;have c:=congrArg (·.2.2.1) x;dsimp only at c
  replace c:=((un.mpr (e:ou P i∈aO)).symm).trans c
  cases c
 cell:=(av _ (sp2 P) rfl)
 stat:=by kernel_rfl
 qual:=⟨_,(by kernel_rfl:clsIn (KQ P) aw=some {name:=zf "_Accumulator",bases:=[yO "list"],mro:=[jV 200,yO "list",yO "object"],ns:=199,qualname:=zf "_Accumulator"}),by kernel_rfl⟩
 ty:=by kernel_rfl
 gen:=λp hp=>by
  have a:p.1∈br:=(by decide:∀p∈[((24:Nat),(166:Nat)),(25,173)],p.1∈br) p hp;exact qW _ _ (bb (fk P p.1 a).obj) (kE (fk P p.1 a).dat) (sp3 P p hp)
 code:=λp hp=>by
  have x:=sp4 P p hp;exact mf _ _ (bb (congrArg (·.1) x)) (congrArg (·.2.1) x) (iX (congrArg (·.2.2.1) x)) (congrArg (·.2.2.2) x)
 bi:=⟨_,4,_,.of_isNs (Ek P),congrArg (·.1) (sp5 P),by decide,by decide,congrArg (·.2) (sp5 P),rfl,rfl,rfl⟩
theorem zcall:∀C∈cN,∃o c,(HY P).get? C=some o/\o.data=.cls c/\specialIn (KQ P) (.ref C) "__call__"=some (some (.builtin "type.__call__")):=by
 intro C b;simp only[cN,zM,yM,or_false]at b;refine b.elim (λa=>a▸?_) λa=>a▸?_
 ·have h:((HY P).get? cn).isSome=true/\(bp P cn).data=.cls {name:=zf "_ValueFormatter",bases:=[yO "object"],mro:=[jV 116,yO "object"],ns:=115,qualname:=zf "_ValueFormatter"}:=⟨by kernel_rfl,by kernel_rfl⟩;exact qW _ _ (bb h.1) h.2 (by kernel_rfl)
 ·have h:((HY P).get? aw).isSome=true/\(bp P aw).data=.cls {name:=zf "_Accumulator",bases:=[yO "list"],mro:=[jV 200,yO "list",yO "object"],ns:=199,qualname:=zf "_Accumulator"}:=⟨by kernel_rfl,by kernel_rfl⟩;exact qW _ _ (bb h.1) h.2 (by kernel_rfl)
end MineQ
namespace MineQ
open PySem PySem.Calls PySem.W PyProof.Rows
open Mine (gR b3Tab gr ie)
noncomputable def vd:Array (Int×Value):=#[(65024,zl 65024 547),(65025,zl 65025 548),(65026,zl 65026 549),(65027,zl 65027 550),(65028,zl 65028 551),(65029,zl 65029 552),(6150,zl 6150 533),(65030,zl 65030 553),(65031,zl 65031 554),(65032,zl 65032 555),(65033,zl 65033 556),(6155,zl 6155 534),(6156,zl 6156 535),(6157,zl 6157 536),(8203,zl 8203 537),(8204,zl 8204 538),(8205,zl 8205 539),(65034,zl 65034 557),(65035,zl 65035 558),(65036,zl 65036 559),(65037,zl 65037 560),(65038,zl 65038 561),(65039,zl 65039 562),(173,zl 173 531),(847,zl 847 532),(8288,zl 8288 540),(65279,zl 65279 541)]
noncomputable def EH(b:Bool):SetTable:={mask:=127,place:=#[0,1,2,3,4,5,6,7,8,9,10,11,12,13,14,15,16,17,18,19,20,21,22,45,79,96,127],dummies:=#[],finger:=0,led:=b,moves:=2,plain:=true}
noncomputable def o212(b:Bool):Obj:={cls:=yO "set",data:=Data.set vd 29 (EH b)}
theorem sh(P:Params):∃b,(HY P).get? 212=some (o212 b):=by
 have g:(MineP.tree17 P).get 212=some (MineP.H6 P):=by kernel_rfl
 have e:(HY P).get? 212=alive (MineP.H6 P):=(oH P (by decide)).trans (abs_get (by decide) g);unfold MineP.H6 at e;cases h:P.followText "set-order" with
 | true=>rw[h]at e;exact⟨false,e⟩
 | false=>rw[h]at e;exact⟨true,e⟩
theorem Cn:(vd.toList.all (λe=>match e.2 with|.int i _=>e.1==hashInt i&&gR.contains i|_=>false)&&gR.all (λi=>vd.toList.any λe=>Value.isInt i e.2))=true:=by kernel_rfl
set_option tactic.hygienic true in
theorem setOf:∀(w':World)(p:Program)(b:Bool){s:Shared}(h:s.heap.get? 212=some (o212 b)),s.heap.SetOf (intKind p w') 212 (λi=>gR.contains i) 27:=by
 exists Mine.ce4_,w',p,b,s;intro h;have x:=Cn;rw[za,yD,yD]at x;obtain⟨x1,x2⟩:=x;refine⟨_,vd,29,EH b,h,⟨rfl,rfl,rfl⟩,rfl,λe he=>?_,λk=>⟨λhk=>?_,λq426_=>Mine.el12 q426_ λe he hi=>?_⟩,by decide,by cases b<;>decide,by decide⟩
 ·have y:=x1 e he;split at y
  ·rename_i i t e2;rw[za]at y;refine⟨⟨i,?_,beq_iff_eq.mp y.1⟩,?_⟩
   ·rw[e2];show(i==i)=true;exact beq_self_eq_true i
   ·rw[e2];rfl
  ·cases y
 ·have y:=x2 k (un.mp hk);obtain⟨e,he,hh⟩:=List.any_eq_true.mp y;exact⟨e,he,hh⟩
 ·have y:=x1 e he;split at y
  ·rename_i i t e2;rw[za]at y;have hi:Value.isInt k e.2=true:=hi;rw[e2]at hi;have hi:(i==k)=true:=hi;rw[<-beq_iff_eq.mp hi];exact y.2
  ·cases y
theorem zset(w:World):gr w (HY w.params):=λs A i t Q a c=>by
 obtain⟨b,e⟩:=sh w.params;exact wpAny_inSet_of (knd:=intKind _ w) (k:=i) (beq_self_eq_true i) rfl (setOf w _ b (a.trans e)) c
theorem zsome(P:Params):((HY P).get? 212).isSome=true:=by
 obtain⟨b,e⟩:=sh P;rw[e];rfl
noncomputable def strAt:Value->Option Str
 | .str s _=>some s
 | _=>none
noncomputable def dictOf(o:Obj):Array DictEntry:=match o.data with|.dict es _=>es|_=>#[]
noncomputable def epOf(o:Obj):Nat:=match o.data with|.dict _ n=>n|_=>0
noncomputable def rV(o:Obj):Bool:=match o.data with|.dict _ _=>true|_=>false
set_option tactic.hygienic true in
theorem xE{o:Obj}(h:rV o=true):o.data=.dict (dictOf o) (epOf o):=by
 unfold rV at h;unfold dictOf epOf;split at h
 ·rename_i a b e;rw[e]
 ·cases h
theorem Az{v:Value}{s:Str}(h:strAt v=some s):∃t,v=.str s t:=by
 cases v<;>first|cases h;exact⟨_,rfl⟩|cases h
theorem Gp(P:Params):(HY P).get? 223=some (MineH.dictO 223):=by
 have g:(MineP.tree17 P).get 223=some (MineH.dictO 223):=by kernel_rfl
 have e:(HY P).get? 223=alive (MineH.dictO 223):=(oH P (by decide)).trans (abs_get (by decide) g);exact e.trans (by kernel_rfl)
theorem DT:(dictOf (MineH.dictO 223)).toList.map (λe=>(intAt e.key,e.hash,strAt e.val))=b3Tab.map λx=>(some x.1,hashInt x.1,some x.2):=by kernel_rfl
theorem CK:(rV (MineH.dictO 223),(MineH.dictO 223).cls,(MineH.dictO 223).dict,(MineH.dictO 223).slots)=(true,.type "dict",none,#[]):=by kernel_rfl
theorem Ec{es:List DictEntry}{l:List (Int×Str)}(h:es.map (λe=>(intAt e.key,e.hash,strAt e.val))=l.map λx=>(some x.1,hashInt x.1,some x.2)):
 (∀e∈es,∃k,Value.isInt k e.key=true/\e.hash=hashInt k)/\∀i,match l.lookup i with|some z=>∃t,(es.find? λe=>Value.isInt i e.key).map (·.val)=some (.str z t)|none=>(es.find? λe=>Value.isInt i e.key).map (·.val)=none:=by
 induction es generalizing l with
 | nil=>
  cases l with
  | nil=>exact⟨λe c=>(nomatch c),λi=>rfl⟩
  | cons _ _=>cases h
 | cons e es f=>
  cases l with
  | nil=>cases h
  | cons x l=>
   rw[zV,zV]at h;injection h with h1 h2
   obtain⟨g,j⟩:=f h2;injection h1 with a1 a2
   injection a2 with a2 a3
   obtain⟨t,m⟩:=rd a1;obtain⟨u,n⟩:=Az a3;have self:∀i,Value.isInt i e.key=(x.1==i):=λi=>by rw[m];rfl
   refine⟨λd a=>?_,λi=>?_⟩
   ·rcases zM.mp a with rfl|a
    ·exact⟨x.1,by rw[self];exact beq_self_eq_true _,a2⟩
    ·exact g d a
   ·obtain⟨k,z⟩:=x;rw[zZ,uf,self];by_cases b:k=i
    ·subst b;rw[beq_self_eq_true];exact⟨u,by rw[<-n];rfl⟩
    ·rw[show(i==k)=false from beq_false_of_ne (λh=>b h.symm),show(k==i)=false from beq_false_of_ne b];exact j i
theorem zdict(P:Params):ie (HY P) where
 map:=λw=>by
  obtain⟨a,b⟩:=Ec DT;have f:=CK;refine⟨λi=>findBy Value.isInt (dictOf (MineH.dictO 223)) i,⟨_,_,_,Gp P,⟨congrArg (·.2.1) f,congrArg (·.2.2.1) f,congrArg (·.2.2.2) f⟩,xE (congrArg (·.1) f),λe c=>a e (Array.mem_toList_iff.mpr c),λ_=>rfl⟩,λi=>?_⟩;have y:=b i;simp only[findBy,<-Array.find?_toList];exact y
theorem zlaid(w:World):Mine.TopLaid (HY w.params) w (KQ w.params) where
 T:=ztop w.params
 SO:=zset w
 set:=zsome w.params
 k:=zcls w.params
 TO:=ztops w.params
 pat:=zpat w.params
 dict:=zdict w.params
 fo:=zfn w.params
 sp:=zsp w.params
 mko:=zmk w.params
 ak:=zak w.params
 call:=zcall w.params
theorem FY(w:World)(n:Nat):Mine.SF (HY w.params) w (Mine.run Mine.tabNow n) n:=(zlaid w).sound n
end MineQ
namespace MineQ
open Mine (no ce3_ aA el12 cu bY kX in04 av qW mf in35)
open PySem PySem.Calls PySem.W PyProof.Rows
open MineP (HZ rwL mM qv lv YPw)
open Mine (br ae aO aK cn aw cN nm cp cm dx constNames cl Rep ib oQ cj V O)
theorem td(P:Params):(HZ P).get? 162=some (X.tableObj #[]):=by kernel_rfl
theorem t3(P:Params):(HZ P).get? 169=some (X.tableObj #[]):=by kernel_rfl
noncomputable def gg(P:Nat)(o:Obj):Bool:=o.cls==.type "code"&&match o.data with
 | .fields vs=>(match vs.getD 11 .none with|.ref a=>a==P|_=>false)&&(match vs.getD 18 .none with|.str _ _=>true|_=>false)&&
  (match vs.getD 7 .none with|.int _ _=>true|_=>false)&&(match vs.getD 9 .none with|.bool _=>true|_=>false)&&(match vs.getD 10 .none with|.int _ _=>true|_=>false)&&decide (11<vs.size)
 | _=>false
noncomputable def codeAt(P:Params)(a:Nat):Obj:=((HZ P).get? a).getD default
theorem Dm(P:Params):(((HZ P).get? 166).isSome&&gg 162 (codeAt P 166))=true:=by kernel_rfl
theorem Cy(P:Params):(((HZ P).get? 173).isSome&&gg 169 (codeAt P 173))=true:=by kernel_rfl
set_option tactic.hygienic true in
theorem nE:∀{P:Params}{c t:Nat}(h:(((HZ P).get? c).isSome&&gg t (codeAt P c))=true)(ht:(HZ P).get? t=some (X.tableObj #[]))(hc:c≠t),(HZ P).IsCode c t #[]/\isCodeTable (HZ P) t:=by
 exists Mine.ce3_,P,c,t;intro h ht hc;simp only[za]at h;obtain⟨h1,h2⟩:=h;obtain⟨o,ho⟩:=uQ.mp h1;unfold codeAt at h2;simp only[ho,vQ]at h2;unfold gg at h2;simp only[za]at h2;obtain⟨hcls,h2⟩:=h2;split at h2
 ·rename_i vs hd;simp only[za,decide_eq_true_eq]at h2;obtain⟨⟨⟨⟨⟨a1,a2⟩,a3⟩,a4⟩,a5⟩,a6⟩:=h2;split at a1
  ·rename_i a ea;have a1:=beq_iff_eq.mp a1;subst a1;split at a2
   ·rename_i f tf ef;split at a3
    ·rename_i fl tg efl;split at a4
     ·rename_i inF ein;split at a5
      ·rename_i tx tt etx;refine⟨⟨o,vs,f,tf,fl,tg,inF,tx,tt,X.tableObj #[],ho,hd,ea,ef,efl,ein,etx,ht,rfl,trivial,hc⟩,⟨c,o,vs,ho,(beq_iff_eq.mp hcls),hd,?_⟩⟩;simp only[<-ea,Array.getD_eq_getD_getElem?,uK a6];rfl
      ·cases a5
     ·cases a4
    ·cases a3
   ·cases a2
  ·cases a1
 ·cases h2
theorem isCodeTable.keeps{b:Addr}(x:isCodeTable h b)(k:∀b o,h.get? b=some o->h'.get? b=some o):isCodeTable h' b:=
 x.imp λ_=>.imp λ_=>.imp λ_=>.imp_left (k _ _)
theorem CR(P:Params):∀b o,(HY P).get? b=some o->o.cls≠.type "list":=by
 intro b o h a;by_cases f:b=212
 ·obtain⟨c,e⟩:=sh P;rw[f,e]at h;injection h with h
  rw[<-h]at a;have a:yO "set"=yO "list":=a;injection a with a
  exact absurd a (by decide)
 ·have d:b<296:=by have:=yB h;rw[tO]at this;exact this
  have y:=yD.mp (by kernel_rfl:((yS 296).all λb=>b==212||(match(HY P).get? b with|some o => !(o.cls==.type "list")|none=>true))=true) b (jn.mpr d);rw[h,beq_false_of_ne f,Bool.false_or]at y;simp only at y
  replace y:=a▸y
  cases y
theorem zlast(P:Params):oQ (HY P) where
 big:=by rw[tO];exact zY _
 last:=by rw[tO];exact⟨_,bb (fk P 6 (by decide)).obj⟩
 codes:=by
  have h:(((HY P).get? 166).isSome&&((HY P).get? 173).isSome)=true:=by kernel_rfl
  simp only[za]at h;exact h
theorem lm{R:WRecords}:∀{xs:List WData},WShape.hasItems R xs .int=true->∃a:List Int,xs=a.map .int
 | [],_=>⟨[],rfl⟩
 | x::r,h=>by
  simp only[WShape.hasItems,za]at h;obtain⟨i,rfl⟩:=hasW_int h.1;obtain⟨a,rfl⟩:=lm h.2;exact⟨i::a,rfl⟩
theorem Dd(h:rwL.row.toRowW.claim.pre args=true):∃a:List Int,args=[.list (a.map .int)]/\a.length<=63:=by
 refine aA (pre_splitW h) λf b=>?_;refine bY (hasAllW_cons (f:WShape.hasAll [] args [.list .int]=true)) λd r c g i=>?_;subst c;have:=hasAllW_nil i;subst this;refine el12 (hasW_list g) λxs c j=>?_;subst c;obtain⟨a,rfl⟩:=lm j;refine av a rfl ?_;have b:(WTm.and (.not (.lt (.lit (.int (63:Nat))) (.len (.arg 0)))) (.lit (.bool true))).holds [] {args:=[.list (a.map .int)]}=true:=b;have k:(WTm.and (.not (.lt (.lit (.int (63:Nat))) (.len (.arg 0)))) (.lit (.bool true))).value [] {args:=[.list (a.map .int)]}=some (.bool (!(decide (((63:Nat):Int)<(((a.map WData.int).length:Nat):Int)))&&true)):=
  w_and (w_not (w_lt rfl (w_len_list rfl))) rfl
 unfold WTm.holds at b;rw[k,Bool.and_true]at b;by_cases e:((63:Nat):Int)<(((a.map WData.int).length:Nat):Int)
 ·replace b:=(decide_eq_true e)▸b
  cases b
 ·rw[zC]at e;omega
theorem mZ{P:Params}:∀{c:List Int}{vs:List Value},WellAll P h vs (c.map .int)->∃l:List (Int×Nat),vs=(l.map λq=>zl q.1 q.2)/\l.length=c.length
 | [],_,x=>by cases x;exact⟨[],rfl,rfl⟩
 | i::c,_,x=>by
  cases x with
  | cons a b=>
   cases a with
   | int i t=>
    refine el12 (mZ b) λl d e=>?_;subst d;exact av ((i,t)::l) rfl (by simp[e])
theorem wE(args ds:List WData):rwL.row.toRowW.claim.post args (.bool true) ds=true:=by
 have a:(WTm.eq .res (.lit (.bool true))).value [] {args:=args,res:=some (.bool true),after:=ds}=some (.bool (true==true)):=w_eq_bool rfl rfl;have b:(WTm.eq .res (.lit (.bool true))).holds [] {args:=args,res:=some (.bool true),after:=ds}=true:=by
  unfold WTm.holds;rw[a];rfl
 exact yN.mpr ⟨(by rfl),b⟩
theorem rc:cj callerA 7:=⟨rfl,by decide,by decide,⟨_,rfl⟩,⟨_,rfl⟩⟩
theorem call0:WalkO qv lv (λ_ _=>True) YPw rwL.row.toRowW mM [] λf vs=>PySem.call f vs:=by
 intro w Q c mg mb G Y a o pm cd doc dV kV S h2 h3 h4 U hg args z as A V hrd s W;have ha:a=295:=by
  refine cu ((ztop w.params).glob) λI hn hf _=>?_;have u:=hf (nm "law",6) (by decide);have j:=Heap.Ns.agree G.T.g (hn.at' λo e=>Y _ _ (BM w.params e):c.heap.Ns mainGlobals I) (nm "law");have e3:mM.name=nm "law":=(defOf_name MineP.hdef0).trans rfl;rw[e3]at U;simp only[U,u]at j;injection j with j
  injection j
 subst ha;refine el12 (Dd A) λX t B=>?_;subst t;obtain⟨v,rfl,hv⟩:∃v,z=[v]/\Well w.params c.heap v (.list (X.map .int)):=by
  cases s with
  | cons x y=>cases y;exact av _ rfl x
 obtain⟨p,l,rfl,hp,J⟩:∃(p:Addr) (l:List (Int×Nat)),v=.ref p/\c.heap.get? p=some {cls:=.type "list",data:=.seq (l.map λq=>zl q.1 q.2).toArray}/\l.length=X.length:=by
  cases hv with
  | list x y=>
   refine el12 (mZ y) λl t hl=>?_;subst t;exact qW _ l rfl x hl
 have c1:=nE (Dm w.params) (td w.params) (by decide);have c2:=nE (Cy w.params) (t3 w.params) (by decide);have K:(HY w.params).get? p=none:=by
  cases e:(HY w.params).get? p with
  | none=>rfl
  | some o'=>
   have j:=Y _ _ (BM w.params e);rw[hp]at j;injection j with j
   exact absurd (by exact congrArg _ j.symm) (CR w.params p o' e)
 have L:p∉aO:=by
  intro q;have d:p=162\/p=169:=by simpa[aO] using q
  rcases d with rfl|rfl
  ·have e:=Y _ _ (td w.params);rw[hp]at e;injection e with e;injection e with e;cases e
  ·have e:=Y _ _ (t3 w.params);rw[hp]at e;injection e with e;injection e with e;cases e
 have i:Mine.foot [(p,p)]=[p]:=by simp[Mine.foot,Mine.feet]
 have R:Rep (HY w.params) [(p,p)] [.frozen l 0] c:=by
  refine⟨λb o e _=>Y _ _ (BM w.params e),?_,?_,rfl,?_,?_,?_,zlast w.params⟩
  ·exact mf (#[]) (#[]) (c1.1.keeps (Y · ·)) (c2.1.keeps (Y · ·)) (Y _ _ (td w.params)) (Y _ _ (t3 w.params))
  ·exact hg▸AllBare.empty
  ·intro k q ob u j;cases k with
   | zero=>
    injection u with u
    injection j with j
    subst u j;exact⟨rfl,hp⟩
   | succ k=>exact no u
  ·rw[i];exact List.nodup_cons.mpr ⟨nofun,List.nodup_nil⟩
  ·intro b Z;rw[i,zG]at Z;subst Z;exact⟨K,L⟩
 refine el12 (Mine.Sm.run6 (n:=0) (p:=0) (hp:=[O.frozen l 0]) (l:=l) (N:=0) rfl (Mine.fk2 B (zS J))) λC D E=>?_;refine enter_call (jm (FY w 7 callerA c [(p,p)] [.frozen l 0] 6 [.ref 0] [.ref p] (.bool true) C rc R (.cons (Mine.VR.ref (p:=(p,p)) rfl) .nil) D) λr s' h=>?_);obtain⟨y,rfl,M,st,P,vr⟩:=h;obtain rfl:=vr
 ·refine in04 (.inl (in35 _ _ [] rfl (λ_=>rfl) (ReadsW.bool true) (wE _ _) (λ_=>⟨List.nodup_nil,λ_ hm=>(nomatch hm)⟩))) ⟨λb o e=>?_,λb o e=>st.alive b o e⟩ st.os P.gens;by_cases F:b=p
  ·subst F;have h0:M[0]?=some (b,b):=st.ref 0 (b,b) rfl;have S:C[0]?=some (.frozen l 0):=E.get rfl;obtain⟨_,hk⟩:=P.obj 0 _ _ h0 S;rw[hp]at e;injection e with e
   subst e;exact .inl hk
  ·by_cases H:b∈aO
   ·have d:b=162\/b=169:=by simpa[aO] using H
    refine kX P.tab λps qs _ _ q1 q2=>?_;rcases d with rfl|rfl
    ·have m:=Y _ _ (td w.params);rw[e]at m;injection m with m
     subst m;exact .inr (.inl ⟨isCodeTable.keeps c1.2 (Y · ·),rfl,#[],ps,rfl,by refine q1.trans ?_;rw[Array.empty_append];rfl⟩)
    ·have m:=Y _ _ (t3 w.params);rw[e]at m;injection m with m
     subst m;exact .inr (.inl ⟨isCodeTable.keeps c2.2 (Y · ·),rfl,#[],qs,rfl,by refine q2.trans ?_;rw[Array.empty_append];rfl⟩)
   ·exact .inl (st.keep b o e (by rw[i,zG];exact F) (nofun) H)
theorem holds:rwL.Holds:=MineP.holds_of MineP.said0 MineP.hw0 call0
end MineQ
theorem PySem.Challenge.cw_pe0276_01_holds : PySem.Challenge.rw_pe0276_01.Holds :=
 MineQ.holds
