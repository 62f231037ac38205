import PyProof.Rows.All
import Wide.All
import OpenK.AllK
import Wide.FinOn
import KE.KSuper
import OpenK.KMake
import KE.KNestM
import Open.TreeImp
import PyProof.Rows.TupAssign
import PyProof.Rows.DictMethods
import PyProof.AttrMissHeap
import KE.KPar
import KE.KLam
import PyProof.GenQ
import PyProof.JoinWalk
import PyProof.SumAny
import KE.KCallOwn
import KE.KDictIter
import PyProof.FactsAll.str_8
import PyProof.DictTable
import KE.KNest
import Lean
import PySem.Challenge.RW_in0055_01
local macro_rules | `(tactic|rfl')=>`(tactic|kernel_rfl)
set_option Elab.async false
set_option linter.all false
set_option maxRecDepth 100000
set_option maxHeartbeats 8000000
set_option bootstrap.genMatcherCode false
set_option genSizeOf false
set_option backward.match.sparseCases false
open PySem renaming wpAny_bind->El,wpAny_pure->Ev,wpAny_mono->KE,Value->W2,Shared->Xd,model->Xe,wpAny->Xf,mainGlobals->Xj,Builtin->Xp,callEnvC->Xz,wpAny_of_eq->XG,wpAny_with_toks->XJ,wpAny_holding->XQ,wpAny_Call_method_lateS->Yd,builtinLookup_eq_fast->Yg,builtinsNs->Yi,NameKind->Yl,wpAny_standAt->Yq,codeAny_of_tree->Yr,wpAny_toks_of->Ys,wpAny_ite_false->Yu,wpAny_execs_cons->Yw,FuncData->Yz,starEach->YD,ks_wpAt_execs_cons->YF,recursionLimit->YH,callEnv->YL,Scope->YM,typeLookup_type->YN,seg_bind_wrap->YO,wpAny_seqItems->YY,cellsFrom->YZ,Program->Y3,wpAny_newObj_type->Y5,wpAt_of_wpAny->Y6,theTreesLotGoes->Y8,wpAny_Constant_str->Zb,sizeLine_eq->Ze,entryFor_of_tree->Zf,typeIs_str->Zh,wpAny_truthy_bool->Zi,wpAny_Assign_Name->Zj,wpAny_field->Zl,Around->Zp,codeAny->Zq,wpAny_call->Zr,wpAny_isInstance->Zs,compareOp->Zv,bootBuiltins->Zx,Comprehension->Zy,builtinKind->ZA,isSubtype_type->ZC,argsOk->ZD,wpAny_loadName_local->ZE,codeAny_call_builtin->ZF,checkBoundCall->ZO,clipAt->ZQ,seqIndex?->ZR,DictEntry->ZS,wpAny_updateSeq->ZV,wpAny_execs_nil->ZW,wpAny_rule->ZZ,wpAny_loadPart->Z4,newFunctionEnv->Z5,Operator->Z8,wpAny_noted->aab,backTo->aae,typeLookup->aaf,wpAny_typeOf->aag,codeAny_mono->aah,entryFor->aak,World->aal
open List renaming length_append->Om,length_cons->W5,length_map->W7,mem_cons_of_mem->Xc,mem_cons_self->Xh,mem_singleton->Xi,mem_cons->Xk,getElem?_eq_getElem->Xo,length_nil->Xq,range->Xr,not_mem_nil->Xw,length_take->Xy,append_assoc->XO,eq_nil_of_length_eq_zero->XY,getD_eq_getElem?_getD->Yb,append_nil->Yc,mem_range->Ye,getElem?_eq_some_iff->Yh,length_range->Yn,mem_map->Yp,mem_append->Yv,lookup_cons->Yy,mem_of_getElem?->YB,map_cons->YE,all_eq_true->YP,map_map->YV,map_append->Y0,mem_of_mem_take->Zg,take_of_length_le->Zo,length_drop->Zu,nil_append->ZH,getElem?_map->ZJ,getElem_map->ZM,length->ZT,drop_eq_getElem_cons->Z7,range'->aac
open Nat renaming le_trans->W6,le_of_ble_eq_true->Xn,le_refl->Xs,lt_of_le_of_lt->Xu,ble_eq_true_of_le->XB,eq_of_beq_eq_true->XF,le_succ->XH,beq->XI,not_lt->XN,lt_irrefl->XR,le_succ_of_le->XU,le_add_right->XX,ne_of_lt->XZ,lt_of_lt_of_le->Yj,le_add_left->Yk,lt_succ_of_lt->Ym,le_of_lt->Yo,lt_succ_self->Yx,ble->YG,min_le_right->YJ,blt->YU,zero_le->Y4,blt_eq->Za,min_le_left->ZG,zero_add->ZL,add_le_add->ZP,not_lt_zero->ZX,add_le_add_right->Z3,succ_le_succ->Z9,ne_of_gt->aai
open Bool renaming and_eq_true_iff->W8,and_eq_true->YK,noConfusion->YQ,false_ne_true->Y1,eq_iff_iff->ZI,not_eq_true'->ZK
open Option.some renaming inj->W9
open PySem.Heap renaming get?_push_of_some->Xg,get?_push_size->Xl,lt_size->Xm,get?_none_of_le->XA,SameBut->XC,size_push->XV,get?_update_self->Zz
open Prod.mk renaming inj->Xv
open PySem.Calls renaming Name_function_global->Xx,spliced_cons->XK,callWith_builtin->XW,spliced_nil->YC,evalArgs_plain->YI,loadGlobal_global->YX,loadGlobal_builtin->Zc
open Int renaming natCast_nonneg->XM,le_trans->YW,ofNat_lt->Y7,ofNat_le->ZU
open PySem.Heap.SameBut renaming update->Yt
open PySem.Str renaming ofString->YA
open PySem.W renaming findIn->YS,emptyDict->Zk,looks_findIn->Zw,Looks->aaj
open PySem.Obj renaming mapSeq->Y2
open Classical renaming choose_spec->Y9,choose->ZN
open Option renaming isSome_iff_exists->Zd,bind_some->Zt
open Array renaming toList_append->Zm
open PySem.Builtin.Range renaming rangeFitsLong->Zn
open PySem.Value renaming isInt->ZB
open Eq renaming trans->ZY
open PySem.W.KFB renaming if_not->Z0
open PySem.Env renaming kindOf->Z1
open PyProof.Rows renaming subscriptTail->Z2
open PySem.Bind renaming checkArgs->Z6
open PySem.F renaming plainAttrs_str->aaa
open PySem.Manifest renaming signature?->aad
namespace Mine.Internal
open PySem PySem.W PySem.Calls PyProof.Rows PySem.SeqAt
theorem aw{P0 P1:Prop}{C:Prop}(h:P0/\P1)(k:P0->P1->C):C:=k h.1 h.2
theorem al{a:Sort _}{P1:a->Prop}{C:Prop}(h:∃x0,P1 x0)(k:∀x0,P1 x0->C):C:=h.elim λx0 h0=>k x0 h0
theorem da{P0 P1 P2:Prop}{C:Prop}(h:P0/\P1/\P2)(k:P0->P1->P2->C):C:=k h.1 h.2.1 h.2.2
theorem cq{b:Sort _}{P0:Prop}{P2:b->Prop}{C:Prop}(h:P0/\∃x1,P2 x1)(k:P0->∀x1,P2 x1->C):C:=h.2.elim λx1 h1=>k h.1 x1 h1
theorem af{a:Sort _}{P1 P2:a->Prop}{C:Prop}(h:∃x0,P1 x0/\P2 x0)(k:∀x0,P1 x0->P2 x0->C):C:=h.elim λx0 h0=>k x0 h0.1 h0.2
theorem iH{a b:Sort _}{P2:a->b->Prop}{C:Prop}(h:∃x0 x1,P2 x0 x1)(k:∀x0 x1,P2 x0 x1->C):C:=h.elim λx0 h0=>h0.elim λx1 h1=>k x0 x1 h1
theorem gV{P0 P1 P2 P3:Prop}{C:Prop}(h:P0/\P1/\P2/\P3)(k:P0->P1->P2->P3->C):C:=k h.1 h.2.1 h.2.2.1 h.2.2.2
theorem il{c:Sort _}{P0 P1:Prop}{P3:c->Prop}{C:Prop}(h:P0/\P1/\∃x2,P3 x2)(k:P0->P1->∀x2,P3 x2->C):C:=h.2.2.elim λx2 h2=>k h.1 h.2.1 x2 h2
theorem we{b:Sort _}{P0:Prop}{P2 P3:b->Prop}{C:Prop}(h:P0/\∃x1,P2 x1/\P3 x1)(k:P0->∀x1,P2 x1->P3 x1->C):C:=h.2.elim λx1 h1=>k h.1 x1 h1.1 h1.2
theorem dY{a:Sort _}{P1 P2 P3:a->Prop}{C:Prop}(h:∃x0,P1 x0/\P2 x0/\P3 x0)(k:∀x0,P1 x0->P2 x0->P3 x0->C):C:=h.elim λx0 h0=>k x0 h0.1 h0.2.1 h0.2.2
theorem Dw{a c:Sort _}{P1:a->Prop}{P3:a->c->Prop}{C:Prop}(h:∃x0,P1 x0/\∃x2,P3 x0 x2)(k:∀x0,P1 x0->∀x2,P3 x0 x2->C):C:=h.elim λx0 h0=>h0.2.elim λx2 h2=>k x0 h0.1 x2 h2
theorem cw{a b:Sort _}{P2 P3:a->b->Prop}{C:Prop}(h:∃x0 x1,P2 x0 x1/\P3 x0 x1)(k:∀x0 x1,P2 x0 x1->P3 x0 x1->C):C:=h.elim λx0 h0=>h0.elim λx1 h1=>k x0 x1 h1.1 h1.2
theorem km{P0 P1 P2 P3 P4:Prop}{C:Prop}(h:P0/\P1/\P2/\P3/\P4)(k:P0->P1->P2->P3->P4->C):C:=k h.1 h.2.1 h.2.2.1 h.2.2.2.1 h.2.2.2.2
theorem eQ{b c:Sort _}{P0:Prop}{P3 P4:b->c->Prop}{C:Prop}(h:P0/\∃x1 x2,P3 x1 x2/\P4 x1 x2)(k:P0->∀x1 x2,P3 x1 x2->P4 x1 x2->C):C:=h.2.elim λx1 h1=>h1.elim λx2 h2=>k h.1 x1 x2 h2.1 h2.2
theorem im{a:Sort _}{P1 P2 P3 P4:a->Prop}{C:Prop}(h:∃x0,P1 x0/\P2 x0/\P3 x0/\P4 x0)(k:∀x0,P1 x0->P2 x0->P3 x0->P4 x0->C):C:=h.elim λx0 h0=>k x0 h0.1 h0.2.1 h0.2.2.1 h0.2.2.2
theorem lr{a d:Sort _}{P1 P2:a->Prop}{P4:a->d->Prop}{C:Prop}(h:∃x0,P1 x0/\P2 x0/\∃x3,P4 x0 x3)(k:∀x0,P1 x0->P2 x0->∀x3,P4 x0 x3->C):C:=h.elim λx0 h0=>h0.2.2.elim λx3 h3=>k x0 h0.1 h0.2.1 x3 h3
theorem bb{a b:Sort _}{P2 P3 P4:a->b->Prop}{C:Prop}(h:∃x0 x1,P2 x0 x1/\P3 x0 x1/\P4 x0 x1)(k:∀x0 x1,P2 x0 x1->P3 x0 x1->P4 x0 x1->C):C:=h.elim λx0 h0=>h0.elim λx1 h1=>k x0 x1 h1.1 h1.2.1 h1.2.2
theorem dd{a b c:Sort _}{P3 P4:a->b->c->Prop}{C:Prop}(h:∃x0 x1 x2,P3 x0 x1 x2/\P4 x0 x1 x2)(k:∀x0 x1 x2,P3 x0 x1 x2->P4 x0 x1 x2->C):C:=h.elim λx0 h0=>h0.elim λx1 h1=>h1.elim λx2 h2=>k x0 x1 x2 h2.1 h2.2
theorem jh{a b c d:Sort _}{P4:a->b->c->d->Prop}{C:Prop}(h:∃x0 x1 x2 x3,P4 x0 x1 x2 x3)(k:∀x0 x1 x2 x3,P4 x0 x1 x2 x3->C):C:=h.elim λx0 h0=>h0.elim λx1 h1=>h1.elim λx2 h2=>h2.elim λx3 h3=>k x0 x1 x2 x3 h3
theorem jM{P0 P1 P2 P3 P4 P5:Prop}{C:Prop}(h:P0/\P1/\P2/\P3/\P4/\P5)(k:P0->P1->P2->P3->P4->P5->C):C:=k h.1 h.2.1 h.2.2.1 h.2.2.2.1 h.2.2.2.2.1 h.2.2.2.2.2
theorem wf{c:Sort _}{P0 P1:Prop}{P3 P4 P5:c->Prop}{C:Prop}(h:P0/\P1/\∃x2,P3 x2/\P4 x2/\P5 x2)(k:P0->P1->∀x2,P3 x2->P4 x2->P5 x2->C):C:=h.2.2.elim λx2 h2=>k h.1 h.2.1 x2 h2.1 h2.2.1 h2.2.2
theorem Dx{b:Sort _}{P0:Prop}{P2 P3 P4 P5:b->Prop}{C:Prop}(h:P0/\∃x1,P2 x1/\P3 x1/\P4 x1/\P5 x1)(k:P0->∀x1,P2 x1->P3 x1->P4 x1->P5 x1->C):C:=h.2.elim λx1 h1=>k h.1 x1 h1.1 h1.2.1 h1.2.2.1 h1.2.2.2
theorem Dy{b c:Sort _}{P0:Prop}{P3 P4 P5:b->c->Prop}{C:Prop}(h:P0/\∃x1 x2,P3 x1 x2/\P4 x1 x2/\P5 x1 x2)(k:P0->∀x1 x2,P3 x1 x2->P4 x1 x2->P5 x1 x2->C):C:=h.2.elim λx1 h1=>h1.elim λx2 h2=>k h.1 x1 x2 h2.1 h2.2.1 h2.2.2
theorem ko{a:Sort _}{P1 P2 P3 P4 P5:a->Prop}{C:Prop}(h:∃x0,P1 x0/\P2 x0/\P3 x0/\P4 x0/\P5 x0)(k:∀x0,P1 x0->P2 x0->P3 x0->P4 x0->P5 x0->C):C:=h.elim λx0 h0=>k x0 h0.1 h0.2.1 h0.2.2.1 h0.2.2.2.1 h0.2.2.2.2
theorem wg{a d:Sort _}{P1 P2:a->Prop}{P4 P5:a->d->Prop}{C:Prop}(h:∃x0,P1 x0/\P2 x0/\∃x3,P4 x0 x3/\P5 x0 x3)(k:∀x0,P1 x0->P2 x0->∀x3,P4 x0 x3->P5 x0 x3->C):C:=h.elim λx0 h0=>h0.2.2.elim λx3 h3=>k x0 h0.1 h0.2.1 x3 h3.1 h3.2
theorem Dz{a c d:Sort _}{P1:a->Prop}{P4 P5:a->c->d->Prop}{C:Prop}(h:∃x0,P1 x0/\∃x2 x3,P4 x0 x2 x3/\P5 x0 x2 x3)(k:∀x0,P1 x0->∀x2 x3,P4 x0 x2 x3->P5 x0 x2 x3->C):C:=h.elim λx0 h0=>h0.2.elim λx2 h2=>h2.elim λx3 h3=>k x0 h0.1 x2 x3 h3.1 h3.2
theorem io{a b:Sort _}{P2 P3 P4 P5:a->b->Prop}{C:Prop}(h:∃x0 x1,P2 x0 x1/\P3 x0 x1/\P4 x0 x1/\P5 x0 x1)(k:∀x0 x1,P2 x0 x1->P3 x0 x1->P4 x0 x1->P5 x0 x1->C):C:=h.elim λx0 h0=>h0.elim λx1 h1=>k x0 x1 h1.1 h1.2.1 h1.2.2.1 h1.2.2.2
theorem mq{a b d:Sort _}{P2:a->b->Prop}{P4 P5:a->b->d->Prop}{C:Prop}(h:∃x0 x1,P2 x0 x1/\∃x3,P4 x0 x1 x3/\P5 x0 x1 x3)(k:∀x0 x1,P2 x0 x1->∀x3,P4 x0 x1 x3->P5 x0 x1 x3->C):C:=h.elim λx0 h0=>h0.elim λx1 h1=>h1.2.elim λx3 h3=>k x0 x1 h1.1 x3 h3.1 h3.2
theorem fJ{a b c:Sort _}{P3 P4 P5:a->b->c->Prop}{C:Prop}(h:∃x0 x1 x2,P3 x0 x1 x2/\P4 x0 x1 x2/\P5 x0 x1 x2)(k:∀x0 x1 x2,P3 x0 x1 x2->P4 x0 x1 x2->P5 x0 x1 x2->C):C:=h.elim λx0 h0=>h0.elim λx1 h1=>h1.elim λx2 h2=>k x0 x1 x2 h2.1 h2.2.1 h2.2.2
theorem DA{a b c d:Sort _}{P4 P5:a->b->c->d->Prop}{C:Prop}(h:∃x0 x1 x2 x3,P4 x0 x1 x2 x3/\P5 x0 x1 x2 x3)(k:∀x0 x1 x2 x3,P4 x0 x1 x2 x3->P5 x0 x1 x2 x3->C):C:=h.elim λx0 h0=>h0.elim λx1 h1=>h1.elim λx2 h2=>h2.elim λx3 h3=>k x0 x1 x2 x3 h3.1 h3.2
theorem DB{a b c d e:Sort _}{P5:a->b->c->d->e->Prop}{C:Prop}(h:∃x0 x1 x2 x3 x4,P5 x0 x1 x2 x3 x4)(k:∀x0 x1 x2 x3 x4,P5 x0 x1 x2 x3 x4->C):C:=h.elim λx0 h0=>h0.elim λx1 h1=>h1.elim λx2 h2=>h2.elim λx3 h3=>h3.elim λx4 h4=>k x0 x1 x2 x3 x4 h4
theorem mr{P0 P1 P2 P3 P4 P5 P6:Prop}{C:Prop}(h:P0/\P1/\P2/\P3/\P4/\P5/\P6)(k:P0->P1->P2->P3->P4->P5->P6->C):C:=k h.1 h.2.1 h.2.2.1 h.2.2.2.1 h.2.2.2.2.1 h.2.2.2.2.2.1 h.2.2.2.2.2.2
theorem wi{e f:Sort _}{P0 P1 P2 P3:Prop}{P6:e->f->Prop}{C:Prop}(h:P0/\P1/\P2/\P3/\∃x4 x5,P6 x4 x5)(k:P0->P1->P2->P3->∀x4 x5,P6 x4 x5->C):C:=h.2.2.2.2.elim λx4 h4=>h4.elim λx5 h5=>k h.1 h.2.1 h.2.2.1 h.2.2.2.1 x4 x5 h5
theorem wj{c d:Sort _}{P0 P1:Prop}{P4 P5 P6:c->d->Prop}{C:Prop}(h:P0/\P1/\∃x2 x3,P4 x2 x3/\P5 x2 x3/\P6 x2 x3)(k:P0->P1->∀x2 x3,P4 x2 x3->P5 x2 x3->P6 x2 x3->C):C:=h.2.2.elim λx2 h2=>h2.elim λx3 h3=>k h.1 h.2.1 x2 x3 h3.1 h3.2.1 h3.2.2
theorem wk{b c:Sort _}{P0:Prop}{P3 P4 P5 P6:b->c->Prop}{C:Prop}(h:P0/\∃x1 x2,P3 x1 x2/\P4 x1 x2/\P5 x1 x2/\P6 x1 x2)(k:P0->∀x1 x2,P3 x1 x2->P4 x1 x2->P5 x1 x2->P6 x1 x2->C):C:=h.2.elim λx1 h1=>h1.elim λx2 h2=>k h.1 x1 x2 h2.1 h2.2.1 h2.2.2.1 h2.2.2.2
theorem si{b c d e f:Sort _}{P0:Prop}{P6:b->c->d->e->f->Prop}{C:Prop}(h:P0/\∃x1 x2 x3 x4 x5,P6 x1 x2 x3 x4 x5)(k:P0->∀x1 x2 x3 x4 x5,P6 x1 x2 x3 x4 x5->C):C:=h.2.elim λx1 h1=>h1.elim λx2 h2=>h2.elim λx3 h3=>h3.elim λx4 h4=>h4.elim λx5 h5=>k h.1 x1 x2 x3 x4 x5 h5
theorem DC{a:Sort _}{P1 P2 P3 P4 P5 P6:a->Prop}{C:Prop}(h:∃x0,P1 x0/\P2 x0/\P3 x0/\P4 x0/\P5 x0/\P6 x0)(k:∀x0,P1 x0->P2 x0->P3 x0->P4 x0->P5 x0->P6 x0->C):C:=h.elim λx0 h0=>k x0 h0.1 h0.2.1 h0.2.2.1 h0.2.2.2.1 h0.2.2.2.2.1 h0.2.2.2.2.2
theorem pC{a e:Sort _}{P1 P2 P3:a->Prop}{P5 P6:a->e->Prop}{C:Prop}(h:∃x0,P1 x0/\P2 x0/\P3 x0/\∃x4,P5 x0 x4/\P6 x0 x4)(k:∀x0,P1 x0->P2 x0->P3 x0->∀x4,P5 x0 x4->P6 x0 x4->C):C:=h.elim λx0 h0=>h0.2.2.2.elim λx4 h4=>k x0 h0.1 h0.2.1 h0.2.2.1 x4 h4.1 h4.2
theorem wl{a c d:Sort _}{P1:a->Prop}{P4 P5 P6:a->c->d->Prop}{C:Prop}(h:∃x0,P1 x0/\∃x2 x3,P4 x0 x2 x3/\P5 x0 x2 x3/\P6 x0 x2 x3)(k:∀x0,P1 x0->∀x2 x3,P4 x0 x2 x3->P5 x0 x2 x3->P6 x0 x2 x3->C):C:=h.elim λx0 h0=>h0.2.elim λx2 h2=>h2.elim λx3 h3=>k x0 h0.1 x2 x3 h3.1 h3.2.1 h3.2.2
theorem sj{a b:Sort _}{P2 P3 P4 P5 P6:a->b->Prop}{C:Prop}(h:∃x0 x1,P2 x0 x1/\P3 x0 x1/\P4 x0 x1/\P5 x0 x1/\P6 x0 x1)(k:∀x0 x1,P2 x0 x1->P3 x0 x1->P4 x0 x1->P5 x0 x1->P6 x0 x1->C):C:=h.elim λx0 h0=>h0.elim λx1 h1=>k x0 x1 h1.1 h1.2.1 h1.2.2.1 h1.2.2.2.1 h1.2.2.2.2
theorem nG{a b e f:Sort _}{P2 P3:a->b->Prop}{P6:a->b->e->f->Prop}{C:Prop}(h:∃x0 x1,P2 x0 x1/\P3 x0 x1/\∃x4 x5,P6 x0 x1 x4 x5)(k:∀x0 x1,P2 x0 x1->P3 x0 x1->∀x4 x5,P6 x0 x1 x4 x5->C):C:=h.elim λx0 h0=>h0.elim λx1 h1=>h1.2.2.elim λx4 h4=>h4.elim λx5 h5=>k x0 x1 h1.1 h1.2.1 x4 x5 h5
theorem fc{a b c:Sort _}{P3 P4 P5 P6:a->b->c->Prop}{C:Prop}(h:∃x0 x1 x2,P3 x0 x1 x2/\P4 x0 x1 x2/\P5 x0 x1 x2/\P6 x0 x1 x2)(k:∀x0 x1 x2,P3 x0 x1 x2->P4 x0 x1 x2->P5 x0 x1 x2->P6 x0 x1 x2->C):C:=h.elim λx0 h0=>h0.elim λx1 h1=>h1.elim λx2 h2=>k x0 x1 x2 h2.1 h2.2.1 h2.2.2.1 h2.2.2.2
theorem lu{a b c d:Sort _}{P4 P5 P6:a->b->c->d->Prop}{C:Prop}(h:∃x0 x1 x2 x3,P4 x0 x1 x2 x3/\P5 x0 x1 x2 x3/\P6 x0 x1 x2 x3)(k:∀x0 x1 x2 x3,P4 x0 x1 x2 x3->P5 x0 x1 x2 x3->P6 x0 x1 x2 x3->C):C:=h.elim λx0 h0=>h0.elim λx1 h1=>h1.elim λx2 h2=>h2.elim λx3 h3=>k x0 x1 x2 x3 h3.1 h3.2.1 h3.2.2
theorem DD{P0 P1 P2 P3 P4 P5 P6 P7:Prop}{C:Prop}(h:P0/\P1/\P2/\P3/\P4/\P5/\P6/\P7)(k:P0->P1->P2->P3->P4->P5->P6->P7->C):C:=k h.1 h.2.1 h.2.2.1 h.2.2.2.1 h.2.2.2.2.1 h.2.2.2.2.2.1 h.2.2.2.2.2.2.1 h.2.2.2.2.2.2.2
theorem wm{a e g:Sort _}{P1 P2 P3:a->Prop}{P5:a->e->Prop}{P7:a->e->g->Prop}{C:Prop}(h:∃x0,P1 x0/\P2 x0/\P3 x0/\∃x4,P5 x0 x4/\∃x6,P7 x0 x4 x6)(k:∀x0,P1 x0->P2 x0->P3 x0->∀x4,P5 x0 x4->∀x6,P7 x0 x4 x6->C):C:=h.elim λx0 h0=>h0.2.2.2.elim λx4 h4=>h4.2.elim λx6 h6=>k x0 h0.1 h0.2.1 h0.2.2.1 x4 h4.1 x6 h6
theorem iI{a b:Sort _}{P2 P3 P4 P5 P6 P7:a->b->Prop}{C:Prop}(h:∃x0 x1,P2 x0 x1/\P3 x0 x1/\P4 x0 x1/\P5 x0 x1/\P6 x0 x1/\P7 x0 x1)(k:∀x0 x1,P2 x0 x1->P3 x0 x1->P4 x0 x1->P5 x0 x1->P6 x0 x1->P7 x0 x1->C):C:=h.elim λx0 h0=>h0.elim λx1 h1=>k x0 x1 h1.1 h1.2.1 h1.2.2.1 h1.2.2.2.1 h1.2.2.2.2.1 h1.2.2.2.2.2
theorem b5{a b c:Sort _}{P3 P4 P5 P6 P7:a->b->c->Prop}{C:Prop}(h:∃x0 x1 x2,P3 x0 x1 x2/\P4 x0 x1 x2/\P5 x0 x1 x2/\P6 x0 x1 x2/\P7 x0 x1 x2)(k:∀x0 x1 x2,P3 x0 x1 x2->P4 x0 x1 x2->P5 x0 x1 x2->P6 x0 x1 x2->P7 x0 x1 x2->C):C:=h.elim λx0 h0=>h0.elim λx1 h1=>h1.elim λx2 h2=>k x0 x1 x2 h2.1 h2.2.1 h2.2.2.1 h2.2.2.2.1 h2.2.2.2.2
theorem lw{a b c d:Sort _}{P4 P5 P6 P7:a->b->c->d->Prop}{C:Prop}(h:∃x0 x1 x2 x3,P4 x0 x1 x2 x3/\P5 x0 x1 x2 x3/\P6 x0 x1 x2 x3/\P7 x0 x1 x2 x3)(k:∀x0 x1 x2 x3,P4 x0 x1 x2 x3->P5 x0 x1 x2 x3->P6 x0 x1 x2 x3->P7 x0 x1 x2 x3->C):C:=h.elim λx0 h0=>h0.elim λx1 h1=>h1.elim λx2 h2=>h2.elim λx3 h3=>k x0 x1 x2 x3 h3.1 h3.2.1 h3.2.2.1 h3.2.2.2
theorem sk{a b c d e f g:Sort _}{P7:a->b->c->d->e->f->g->Prop}{C:Prop}(h:∃x0 x1 x2 x3 x4 x5 x6,P7 x0 x1 x2 x3 x4 x5 x6)(k:∀x0 x1 x2 x3 x4 x5 x6,P7 x0 x1 x2 x3 x4 x5 x6->C):C:=h.elim λx0 h0=>h0.elim λx1 h1=>h1.elim λx2 h2=>h2.elim λx3 h3=>h3.elim λx4 h4=>h4.elim λx5 h5=>h5.elim λx6 h6=>k x0 x1 x2 x3 x4 x5 x6 h6
theorem ji{b c d:Sort _}{P0:Prop}{P4 P5 P6 P7 P8:b->c->d->Prop}{C:Prop}(h:P0/\∃x1 x2 x3,P4 x1 x2 x3/\P5 x1 x2 x3/\P6 x1 x2 x3/\P7 x1 x2 x3/\P8 x1 x2 x3)(k:P0->∀x1 x2 x3,P4 x1 x2 x3->P5 x1 x2 x3->P6 x1 x2 x3->P7 x1 x2 x3->P8 x1 x2 x3->C):C:=h.2.elim λx1 h1=>h1.elim λx2 h2=>h2.elim λx3 h3=>k h.1 x1 x2 x3 h3.1 h3.2.1 h3.2.2.1 h3.2.2.2.1 h3.2.2.2.2
theorem nH{a b:Sort _}{P2 P3 P4 P5 P6 P7 P8:a->b->Prop}{C:Prop}(h:∃x0 x1,P2 x0 x1/\P3 x0 x1/\P4 x0 x1/\P5 x0 x1/\P6 x0 x1/\P7 x0 x1/\P8 x0 x1)(k:∀x0 x1,P2 x0 x1->P3 x0 x1->P4 x0 x1->P5 x0 x1->P6 x0 x1->P7 x0 x1->P8 x0 x1->C):C:=h.elim λx0 h0=>h0.elim λx1 h1=>k x0 x1 h1.1 h1.2.1 h1.2.2.1 h1.2.2.2.1 h1.2.2.2.2.1 h1.2.2.2.2.2.1 h1.2.2.2.2.2.2
theorem lx{a b c d e f g h:Sort _}{P8:a->b->c->d->e->f->g->h->Prop}{C:Prop}(h:∃x0 x1 x2 x3 x4 x5 x6 x7,P8 x0 x1 x2 x3 x4 x5 x6 x7)(k:∀x0 x1 x2 x3 x4 x5 x6 x7,P8 x0 x1 x2 x3 x4 x5 x6 x7->C):C:=h.elim λx0 h0=>h0.elim λx1 h1=>h1.elim λx2 h2=>h2.elim λx3 h3=>h3.elim λx4 h4=>h4.elim λx5 h5=>h5.elim λx6 h6=>h6.elim λx7 h7=>k x0 x1 x2 x3 x4 x5 x6 x7 h7
theorem aT{α:Type _}{a:α}{C:Prop}(h:none=some a):C:=by cases h
theorem DE{α:Type _}{a:α}{C:Prop}(h:some a=none):C:=by cases h
theorem sm{C:Prop}(h:true=false):C:=by cases h
theorem eE{C:Prop}(h:false=true):C:=by cases h
@[elab_as_elim] theorem aa{α:Sort _}{a b:α}{C:α->Prop}(e:a=b)(k:C b):C a:=e▸k
@[elab_as_elim] theorem aS{α:Sort _}{a b:α}{C:α->Prop}(e:a=b)(k:C a):C b:=e▸k
theorem fS{α:Type _}{x:Option α}{a b:α}(h1:x=some a)(h2:x=some b):a=b:=W9 (h1.symm.trans h2)
theorem bR{P0 P1 P2:Prop}(h0:P0)(h1:P1)(h2:P2):P0/\P1/\P2:=⟨h0,h1,h2⟩
theorem gB{b:Sort _}{P0:Prop}{P2:b->Prop}(h0:P0)(x1:b)(h2:P2 x1):P0/\∃x1,P2 x1:=⟨h0,x1,h2⟩
theorem ah{a:Sort _}{P1 P2:a->Prop}(x0:a)(h1:P1 x0)(h2:P2 x0):∃x0,P1 x0/\P2 x0:=⟨x0,h1,h2⟩
theorem dZ{a b:Sort _}{P2:a->b->Prop}(x0:a)(x1:b)(h2:P2 x0 x1):∃x0 x1,P2 x0 x1:=⟨x0,x1,h2⟩
theorem iJ{P0 P1 P2 P3:Prop}(h0:P0)(h1:P1)(h2:P2)(h3:P3):P0/\P1/\P2/\P3:=⟨h0,h1,h2,h3⟩
theorem fU{c:Sort _}{P0 P1:Prop}{P3:c->Prop}(h0:P0)(h1:P1)(x2:c)(h3:P3 x2):P0/\P1/\∃x2,P3 x2:=⟨h0,h1,x2,h3⟩
theorem fw{b:Sort _}{P0:Prop}{P2 P3:b->Prop}(h0:P0)(x1:b)(h2:P2 x1)(h3:P3 x1):P0/\∃x1,P2 x1/\P3 x1:=⟨h0,x1,h2,h3⟩
theorem de{a:Sort _}{P1 P2 P3:a->Prop}(x0:a)(h1:P1 x0)(h2:P2 x0)(h3:P3 x0):∃x0,P1 x0/\P2 x0/\P3 x0:=⟨x0,h1,h2,h3⟩
theorem cx{a b:Sort _}{P2 P3:a->b->Prop}(x0:a)(x1:b)(h2:P2 x0 x1)(h3:P3 x0 x1):∃x0 x1,P2 x0 x1/\P3 x0 x1:=⟨x0,x1,h2,h3⟩
theorem dH{a:Sort _}{P1 P2 P3 P4:a->Prop}(x0:a)(h1:P1 x0)(h2:P2 x0)(h3:P3 x0)(h4:P4 x0):∃x0,P1 x0/\P2 x0/\P3 x0/\P4 x0:=⟨x0,h1,h2,h3,h4⟩
theorem dl{a d:Sort _}{P1 P2:a->Prop}{P4:a->d->Prop}(x0:a)(h1:P1 x0)(h2:P2 x0)(x3:d)(h4:P4 x0 x3):∃x0,P1 x0/\P2 x0/\∃x3,P4 x0 x3:=⟨x0,h1,h2,x3,h4⟩
theorem bM{a b:Sort _}{P2 P3 P4:a->b->Prop}(x0:a)(x1:b)(h2:P2 x0 x1)(h3:P3 x0 x1)(h4:P4 x0 x1):∃x0 x1,P2 x0 x1/\P3 x0 x1/\P4 x0 x1:=⟨x0,x1,h2,h3,h4⟩
theorem lA{a b c:Sort _}{P3 P4:a->b->c->Prop}(x0:a)(x1:b)(x2:c)(h3:P3 x0 x1 x2)(h4:P4 x0 x1 x2):∃x0 x1 x2,P3 x0 x1 x2/\P4 x0 x1 x2:=⟨x0,x1,x2,h3,h4⟩
theorem fy{a b:Sort _}{P2 P3 P4 P5 P6:a->b->Prop}(x0:a)(x1:b)(h2:P2 x0 x1)(h3:P3 x0 x1)(h4:P4 x0 x1)(h5:P5 x0 x1)(h6:P6 x0 x1):∃x0 x1,P2 x0 x1/\P3 x0 x1/\P4 x0 x1/\P5 x0 x1/\P6 x0 x1:=⟨x0,x1,h2,h3,h4,h5,h6⟩
theorem gW{a b:Sort _}{P2 P3 P4 P5 P6 P7:a->b->Prop}(x0:a)(x1:b)(h2:P2 x0 x1)(h3:P3 x0 x1)(h4:P4 x0 x1)(h5:P5 x0 x1)(h6:P6 x0 x1)(h7:P7 x0 x1):∃x0 x1,P2 x0 x1/\P3 x0 x1/\P4 x0 x1/\P5 x0 x1/\P6 x0 x1/\P7 x0 x1:=⟨x0,x1,h2,h3,h4,h5,h6,h7⟩
theorem dS{a b c:Sort _}{P3 P4 P5 P6 P7:a->b->c->Prop}(x0:a)(x1:b)(x2:c)(h3:P3 x0 x1 x2)(h4:P4 x0 x1 x2)(h5:P5 x0 x1 x2)(h6:P6 x0 x1 x2)(h7:P7 x0 x1 x2):∃x0 x1 x2,P3 x0 x1 x2/\P4 x0 x1 x2/\P5 x0 x1 x2/\P6 x0 x1 x2/\P7 x0 x1 x2:=⟨x0,x1,x2,h3,h4,h5,h6,h7⟩
theorem iK{a:Nat}:¬a+20<20:=by simp_all
theorem wn:¬2<=1:=by decide
theorem wo:¬2<=0:=by decide
theorem kq{a b c:Nat}(h1:a+1+b<c+1):a+b<c:=by simp +arith at *;assumption
theorem pD{a:Nat}(h1:a<=100):a<=4096:=by exact W6 (by assumption) (by decide)
theorem nJ{a:Int}(h1:¬a<0):0<=a:=by simp_all
theorem ms{a b:Nat}(h1:a<=b)(h2:b<a):False:=by exact XR _ (Yj (by assumption) (by assumption))
theorem mt{a b:Nat}:a<=a+b:=by simp_all
theorem pE{a b:Nat}(h1:a+(b+1)<=4096):a<=4096:=by exact W6 (XX ..) (by assumption)
theorem pF{a b:Nat}(h1:a+(b+1)<=4096):a+b<=4096:=by exact Yo (by assumption)
theorem pG{a b:Nat}(h1:a=b):b<=a:=by subst_vars;exact Xs _
theorem pH{a:Nat}(h1:a<=8192):a<=16777216:=by exact W6 (by assumption) (by decide)
theorem sn{a b:Nat}(h1:a+b+64<=900):a+2<1000:=by simp +arith at *;lia
theorem wp{a b c:Nat}(h1:a=b)(h2:c<a):c<b:=by simp_all
theorem sq{a b:Nat}(h1:a+2<b):a<b:=Nat.lt_of_add_right_lt h1
theorem sr{a b:Nat}(h1:a+2<b):a+1<b:=by exact Yo (by assumption)
theorem su{a b c:Nat}(h1:a<=b)(h2:c<=a):c<=b:=by exact W6 (by assumption) (by assumption)
theorem sv{a b:Nat}(h1:a+(b+1)<=4000):a+(0+1)+b<=4000:=by simp +arith at *;assumption
theorem sy{a b:Nat}(h1:a+(b+1)<=4000):a<=4096:=by simp +arith at *;lia
theorem sB{a b:Nat}(h1:a<=b)(h2:b-a=0):a=b:=Nat.le_antisymm h1 (Nat.le_of_sub_eq_zero h2)
theorem wq{a b:Nat}(h1:a<=b)(h2:b=4096):¬(↑a:Int)≥2 ^ 63:=by subst_vars;lia
theorem wt{a b:Nat}:(Max.max (↑(Min.min a b):Int) (↑b:Int)).toNat=b:=by rw[Int.max_eq_right (ZU.mpr (YJ a b))];rfl
theorem wu{a b:Nat}(h1:a<=b):a+1<=b+1:=by simp +arith at *;assumption
theorem wv{a b:Nat}(h1:¬a<=b):b<=a:=Nat.le_of_not_ge h1
theorem ww{a b:Nat}(h1:a+(b+1)<=4096):a+(0+1)+b<=4096:=by simp +arith at *;assumption
theorem wx{a b c:Nat}(h1:a<=b):a<=b+c:=Nat.le_add_right_of_le h1
theorem wy{a b:Nat}(h1:a<=b):a<=min a b:=by simp_all
theorem wz{a b c:Nat}(h1:a+1+(b+1)<c+1):a+b<c:=by simp +arith at *;lia
theorem wA{a b:Nat}(h1:0=a+b):b=0:=Nat.eq_zero_of_add_eq_zero_left (id (Eq.symm h1))
theorem wB{a:Nat}:1<=a+1:=by simp_all
theorem wC{a:Nat}(h1:a<=100):a+1<=4096:=by exact Xu (by assumption) (by decide)
theorem wD{a b c:Nat}(h1:a+b<=4096):a+min c b<=4096:=W6 (Nat.add_le_add_left (YJ c b) a) h1
theorem wE{a b:Nat}(h1:a<=b):min a (b+1)=a:=by grind
theorem DF{a b:Nat}(h1:a<=100)(h2:b<a):b<=100:=by exact Yo (Yj (by assumption) (by assumption))
theorem wF{a b:Nat}:a+(b+1)=a+1+b:=Eq.symm (Nat.succ_add_eq_add_succ a b)
theorem wG{a b:Nat}(h1:a<b):¬a=b:=XZ h1
theorem wH{a:Nat}(h1:a<=4000):a<=4096:=by exact W6 (by assumption) (by decide)
theorem wJ{a:Nat}(h1:a<=3000):a<=4000:=by exact W6 (by assumption) (by decide)
theorem wK{a:Nat}:¬a+1+1+1+1+1+1+1+1+1<=8:=Std.LawfulOrderOrd.isLE_compare_eq_false.mp rfl
theorem wL{a b c:Nat}(h1:a<=b)(h2:c<a):c<b:=by exact Yj (by assumption) (by assumption)
theorem wM{a b:Nat}(h1:a<=50)(h2:b=a+1):b<=100:=by subst_vars;lia
theorem sC{a:Nat}(h1:a<=50):a<=100:=by exact W6 (by assumption) (by decide)
theorem wN{a b:Nat}(h1:a=b+1):b<=a:=Nat.le.intro (id (Eq.symm h1))
theorem wO:3+4<=8:=by simp_all
theorem wP:3<=8:=by simp_all
theorem wQ:3<=5:=by simp_all
theorem wR{a:Nat}(h1:a<=6):a<7:=by exact Xu (by assumption) (by decide)
theorem wS{a b c:Nat}(h1:a<=0+b):c+a<=c+b:=by simp +arith at *;assumption
theorem wT{a b c:Nat}(h1:a+b<=a+c):b<=0+c:=by simp +arith at *;assumption
theorem wU{a b c:Nat}{d:Int}(h1:a<=b+1)(h2:c<a)(h3:b=4096)(h4:c=d.toNat):d<2 ^ 63:=Int.lt_of_le_of_lt (Int.self_le_toNat d) (Int.lt_of_lt_of_le (Y7.mpr (h4▸Yj h2 (h3▸h1))) (by decide))
theorem sD{a:Nat}:a<=a:=by subst_vars;exact Xs _
theorem wV{a b:Nat}(h1:a<=b):a<=b:=by omega
theorem DG{a:Nat}(h1:a<=8192):a+1<=16777216:=by exact Xu (by assumption) (by decide)
theorem DH{a:Nat}(h1:a<=8192):a+1<=16777216+1:=by exact Xu (by assumption) (by decide)
theorem DI{a:Nat}:-1+(↑(a+1):Int)=(↑a:Int):=by simp +arith [*]
theorem DJ{a:Nat}:0<=(↑a:Int)/\(↑a:Int)<(↑(a+1):Int):=by simp +arith [*]
theorem DK{a b:Nat}(h1:a<=8192)(h2:b<=a+1):b<=16777216+1:=by simp +arith at *;lia
theorem DL{a b:Nat}(h1:a+8 * b+200<=9800):a+1+1<9900:=by simp +arith at *;lia
theorem DM{a b c:Nat}(h1:a<b)(h2:c=a)(h3:b<=c):False:=by subst_vars;lia
theorem DN{a b:Nat}(h1:a=b):a-0=b:=by omega
theorem DO{a b c:Nat}(h1:a=b)(h2:c<b):c<a:=by subst_vars;assumption
theorem DP{a:Int}:0+a=a+0:=Int.add_comm 0 a
theorem DQ{a b c:Int}:a+b+c=a+(b+c):=Int.add_assoc a b c
theorem DR{a:Int}(h1:0<=a/\a<=4):-2 ^ 63<=a/\a<2 ^ 63:=⟨YW (by decide) h1.1,Int.lt_of_le_of_lt h1.2 (by decide)⟩
theorem DS{a:Int}:0+a=a:=by simp_all
theorem DT{a b:Nat}(h1:a+b+64<=900):a+1<1000:=by simp +arith at *;lia
theorem DU{a b:Nat}:0+((↑a:Int)+(↑b:Int))=(↑a:Int)+(↑b:Int)+0:=Int.add_comm 0 (↑a + ↑b)
theorem DV{a b:Nat}{c d:Int}:(↑a:Int)+(↑b:Int)+c+d=(↑a:Int)+(↑b:Int)+(c+d):=Int.add_assoc (↑a + ↑b) c d
theorem DW{a b c:Nat}(h1:a<=b/\b+1=c)(h2:b<a):False:=by lia
theorem DX{a b:Nat}(h1:a<=b * 8192)(h2:b * 8192<=4097 * 8192):(↑a:Int)<=8192 * 4097:=by lia
theorem DY{a:Int}{b:Nat}(h1:0<=a/\a<=4)(h2:Int.ofNat b=(↑b:Int)):¬a+Int.ofNat b<0:=by lia
theorem DZ{a:Int}{b:Nat}(h1:0<=a/\a<=4)(h2:(↑b:Int)<=8192 * 4097)(h3:Int.ofNat b=(↑b:Int)):¬a+Int.ofNat b≥2 ^ 63:=by lia
theorem D0{a b c:Nat}(h1:a<=b)(h2:c<=b)(h3:b=4096):a+(c+0)+2 * 0<=16777216:=by simp +arith at *;lia
theorem D1{a b:Nat}(h1:a<=b+1)(h2:b=4096):a<=4097:=by subst_vars;assumption
theorem D2{a:Nat}(h1:a<=4097):a<=16777216:=by exact W6 (by assumption) (by decide)
theorem D3{a b c d:Nat}(h1:a<=b)(h2:b=4096)(h3:c+d * 0<=a+0):c+d * 0<=16777216:=by simp +arith at *;lia
theorem D4{a b:Nat}{c:Int}(h1:a<=8192)(h2:b<a)(h3:0<=c)(h4:b=c.toNat):-2 ^ 63<=c/\c<2 ^ 63:=⟨YW (by decide) h3,by rw[<-Int.toNat_of_nonneg h3,<-h4];exact Int.lt_of_lt_of_le (Y7.mpr (Yj h2 h1)) (by decide)⟩
theorem D5{a:Int}(h1:¬0<=a):a<0:=by simp_all
theorem D6{a:Nat}{b:Int}(h1:a<=8192)(h2:¬0<=b)(h3:-(↑a:Int)<=b):-2 ^ 63<=b/\b<2 ^ 63:=⟨YW (YW (by decide) (Int.neg_le_neg (ZU.mpr h1))) h3,Int.lt_trans (Int.not_le.mp h2) (by decide)⟩
theorem D7{a:Nat}(h1:a<=8192):¬a+0 > 16777216:=by lia
theorem D8{a b:Nat}:Min.min (Min.min a b) b=Min.min a b:=by simp_all
theorem D9{a b:Nat}(h1:a<=8192):Min.min (↑b:Int).toNat a-0+0+(Min.min a a-a)<=16777216+1:=W6 (ZP (YJ (↑b:Int).toNat a) (W6 (Nat.sub_le _ _) (ZG a a))) (W6 (ZP h1 h1) (by decide))
theorem Ea{a b:Nat}(h1:a<=b+1)(h2:b=4096):a<=8192:=by subst_vars;lia
theorem Eb{a b c:Nat}(h1:a<=b)(h2:b=4096)(h3:c=a):c<=8192:=by subst_vars;lia
theorem Ec{a b c:Nat}(h1:a<=b):Min.min c a<=b+1:=W6 (YJ c a) (XU h1)
theorem Ed{a b c:Nat}(h1:a<=b):a-c<=b:=by simp +arith at *;lia
theorem Ee{a b c:Nat}(h1:a<=b+1)(h2:b=4096)(h3:c=a):c<=8192:=by subst_vars;lia
theorem Ef{a b c:Nat}(h1:a+1<=b+1)(h2:b=4096)(h3:c=a):c<=8192:=by subst_vars;lia
theorem Eg{a b c:Nat}(h1:a+1<=b+1)(h2:b=4096)(h3:c=a):c+1<=8192:=by subst_vars;lia
theorem Eh{a:Nat}:(↑(a+1):Int)≠0:=Ne.symm ((λ{x y}=>PyProof.Rows.bi_ine.mp) rfl)
theorem Ei{a b:Nat}(h1:a+1<=b+1):a<=b+1:=by exact Yo (by assumption)
theorem Ej:1<=16777217:=by simp_all
theorem Ek{a b c:Nat}(h1:a<=b)(h2:c+b+64<=900):c+a+64<=900:=by simp +arith at *;lia
theorem Em{a b:Nat}(h1:a+8 * (b+1)+200<=9800):a+3+8 * b+200<=9800:=by simp +arith at *;lia
theorem En:1<=4096:=by simp_all
theorem Eo:2<=4096:=by simp_all
theorem wW{a b:Nat}(h1:a+1<=b):a<b:=by subst_vars;assumption
theorem Ep{a:Nat}:3<=a+3:=by simp_all
theorem Er{a:Nat}:a+1<=a+3:=by simp_all
theorem Es{a b c:Nat}(h1:a<=b):a<=c+b:=Nat.le_add_left_of_le h1
theorem Et{a b c d e:Nat}(h1:a<=8)(h2:b+c+d<=a)(h3:e<=c):e<=8:=by lia
theorem Eu{a b c d:Nat}(h1:a<=8)(h2:b+c+d<=a):b<=100:=by lia
theorem Ew{a b c d:Nat}(h1:a<=8)(h2:b+c+d<=a):d<=100:=by lia
theorem Ex{a:Nat}(h1:a<=8):a<=100:=by exact W6 (by assumption) (by decide)
theorem Ey{a b:Nat}(h1:a<=8)(h2:b<=a * 7):b<=4000:=by simp +arith at *;lia
theorem Ez{a b c d e:Nat}(h1:a<=8)(h2:b+c+d<=a)(h3:e<=d * 3+c):b+e<=40:=by simp +arith at *;lia
theorem EA{a b:Nat}(h1:a<=7 * b)(h2:b<=40):a<=4000:=by lia
theorem EB{a b:Nat}(h1:a-b=0)(h2:b<=a):b=a:=Nat.le_antisymm h2 (Nat.le_of_sub_eq_zero h1)
theorem EC{a b c:Nat}(h1:a-b=c+1):b<a:=Nat.lt_of_sub_eq_succ h1
theorem ED{a b c:Nat}(h1:a-b=c+1):a-(b+1)=c:=by rw[Nat.sub_succ,h1];rfl
theorem EE{a b c:Nat}(h1:a<b)(h2:b<=c):c≠a:=by lia
theorem EF{a b:Nat}(h1:a=b+1)(h2:a<b):False:=by subst_vars;lia
theorem EG{a b c:Nat}(h1:a=b)(h2:c=b):c=a:=by simp_all
theorem EH{a b c:Nat}(h1:a<=b)(h2:c<a)(h3:c=b):False:=by subst_vars;lia
theorem EI{a:Nat}(h1:a<=8192):-8193<=(↑a:Int)/\(↑a:Int)<=8192:=by simp +arith at *;lia
theorem EJ{a:Nat}(h1:a<=8192):-8193<=-((↑a:Int)+1)/\-((↑a:Int)+1)<=8192:=by lia
theorem EK{a:Int}{b:Nat}:a+1+(↑b:Int) * 1=a+((↑b:Int)+1) * 1:=by simp +arith [*]
theorem EL{a:Int}{b:Nat}:a-1+(↑b:Int) * -1=a+((↑b:Int)+1) * -1:=by simp +arith [*]
theorem EM{a:Nat}:((↑a:Int)-0).toNat=a:=Nat.add_zero a
theorem EN{a b c:Nat}(h1:a+(b+1)<=4096):min c a+b<=4096:=W6 (ZP (YJ c a) (XH b)) h1
theorem EP{a b:Nat}:a<=a+(b+1):=by simp_all
theorem EQ{a b:Nat}(h1:a<b):(↑a:Int)<(↑b:Int):=by simp +arith at *;assumption
theorem ER{a b c:Nat}(h1:a<=b+(0+1)+c):a<=b+(c+1):=by simp +arith at *;assumption
theorem ES{a b c:Nat}(h1:a<=b+c):a<=b+(c+1):=XU h1
theorem ET{a b c:Nat}:min a b<=b+(c+1):=by lia
theorem EU{a b c:Nat}:a+b+c+97=a+c+52+b+45:=by simp +arith [*]
theorem EV{a b c d:Nat}(h1:a+(b+1) * c<=4000)(h2:d+1=a)(h3:(b+1) * c=b * c+c):d+c<=4096:=W6 (W6 (ZP (h2▸XH d) (Nat.le_mul_of_pos_left c (Nat.succ_pos b))) h1) (by decide)
theorem wX{a b c:Nat}(h1:a<b)(h2:c+1=b):a<=c:=by subst_vars;lia
theorem EW{a b c d:Nat}{e:Prop}{f g:Nat}{h i:Prop}(h1:a+(b+1) * c<=4000)(h2:d+1=a)(h3:(b+1) * c=b * c+c)(h4:e/\f<=g/\g<=d+c/\h/\(i->g=f)):g+b * c<=4000:=W6 (Z3 h4.2.2.1 (b * c)) (W6 (by rw[Nat.add_assoc,Nat.add_comm c,<-h3,<-h2];exact Z3 (XH d) _) h1)
theorem EX{a b:Nat}(h1:a+b<=1800):1899-a-b+a+b+100=1999:=by rw[Nat.sub_sub,Nat.add_assoc (1899-(a+b)) a b,Nat.sub_add_cancel (W6 h1 (by decide))]
theorem EY{a:Nat}:min 8 a<=8:=ZG 8 a
theorem EZ{a:Nat}(h1:a<=8)(h2:¬a<2):a+0<=8/\2<=a+0:=by simp_all
theorem E0{a:Nat}(h1:a<2):a+(0+1+1+1+1)<=8/\2<=a+(0+1+1+1+1):=by simp +arith at *;lia
theorem E1{a:Nat}(h1:a<2):a+4<=4096:=W6 (Z3 (Yo h1) 4) (by decide)
theorem E2{a:Nat}(h1:a<2):(↑a:Int)<2:=Int.lt_toNat.mp h1
theorem E3{a:Nat}(h1:¬a<2):¬(↑a:Int)<2:=by lia
theorem E4{a b c d e:Nat}(h1:a+b<c+d)(h2:c+d<e+1):a+b<e:=by simp +arith at *;exact W6 (by assumption) (by assumption)
theorem E5{a b:Nat}:a+b+1=a+1+b:=Nat.add_right_comm a b 1
theorem E6{a b c:Nat}(h1:a+1+(b+1)<c+1):a+1+b<c:=Nat.succ_lt_succ_iff.mp h1
theorem E7{a b c d:Nat}(h1:a+b+c+4<d):a+(b+1)+1+0<d:=by simp +arith at *;lia
theorem E8{a b c d:Nat}(h1:a+b+c+8<d):a+b+c<d:=Nat.lt_of_add_right_lt h1
theorem E9{a b:Nat}(h1:(0+1+1) * (a+1)<b):a<b:=by simp +arith at *;lia
theorem Fa{a:Nat}(h1:0<a):a=a-1+1:=(Nat.sub_eq_iff_eq_add h1).mp rfl
theorem Fb{a b c d:Nat}(h1:a+b+(c+1)+4<d):a+(b+1)+1+(c+1)<d:=by simp +arith at *;lia
theorem Fc{a b c d:Nat}(h1:a+b+(c+1)+4<d):a+(b+1)+(c+1)<d:=by simp +arith at *;lia
theorem Fd{a b c d e:Nat}(h1:a+b+(c+1)+4<d)(h2:c+1=a+e):b+1+e<d:=by simp +arith at *;lia
theorem Fe{a b:Nat}(h1:a+1<b):b=b-1+1:=(Nat.sub_add_cancel (Yo (Xu (Yk 1 a) h1))).symm
theorem Ff{a b c d:Nat}(h1:a+b+(c+1)+4<d):a+b+c+4<d:=by exact Yo (by assumption)
theorem Fg{a b:Nat}(h1:a+1<b+1):a<b:=by simp +arith at *;assumption
theorem Fh{a b c:Nat}(h1:a<=b+c):a+1<=b+(c+1):=Z3 h1 1
theorem Fi{a b c d e:Nat}(h1:a=b+c)(h2:d+a+1=b+e):c<=e:=Nat.le_of_add_le_add_left (a:=b) (by rw[<-h1,<-h2];exact XU (Yk a d))
theorem Fj{a b c d e f:Nat}(h1:a=b+c)(h2:d+a+1=b+e):f+e-c=f+(e-c):=Nat.add_sub_assoc (Nat.le_of_add_le_add_left (a:=b) (by rw[<-h1,<-h2];exact XU (Yk a d))) f
theorem Fk{a b c:Nat}(h1:a<min (b+1) c):a<=b:=Nat.le_of_lt_succ (Yj h1 (ZG ..))
theorem Fl{a b c:Nat}(h1:a<min (b+1) c):a<c:=by grind
theorem Fm{a b c:Nat}(h1:a<=b)(h2:a<c):a<min (b+1) c:=Nat.lt_min.mpr ⟨Nat.lt_succ_of_le h1,h2⟩
theorem Fn{a b c:Nat}(h1:a=b+1)(h2:c<=b):c<a:=by simp +arith [*]
theorem Fo{a b c d:Nat}(h1:min a b=c+d):c<=a:=W6 (XX c d) (h1▸ZG a b)
theorem wY{a b:Nat}(h1:a+1<=b):a<=b:=by exact Yo (by assumption)
theorem Fp{a:Nat}(h1:a<=100):a+1<=101:=by exact Xu (by assumption) (by decide)
theorem Fq{a:Nat}(h1:1<=a):a=a-1+1:=(Nat.sub_eq_iff_eq_add h1).mp rfl
theorem Fs{a:Nat}:1<=a+26:=by simp_all
theorem wZ{a b:Nat}(h1:a<=b):a<b+1:=Nat.lt_succ_of_le h1
theorem Ft{a:Nat}(h1:a<=100):0+a<=3000:=by simp +arith at *;lia
theorem Fu{a:Nat}:(↑(a+1):Int)-1=(↑a:Int):=Int.sub_eq_iff_eq_add.mpr rfl
theorem Fv{a b c d:Nat}(h1:a+b+(c+1)<=d):a+b+(c+1)<=d+1:=Nat.le_add_right_of_le h1
theorem Fw{a b c d:Nat}(h1:a<=b)(h2:c<=d * b):a+c<=d * b+b:=Nat.add_comm a c▸ZP h2 h1
theorem Fx{a b c d:Nat}(h1:a+b+c<=d):a+1+b+c<=d+1:=by simp +arith at *;assumption
theorem Fy{a b c d:Nat}(h1:a<=6)(h2:b<=32)(h3:c<=7 * b):c+min d a<=240:=W6 (ZP (W6 h3 (Nat.mul_le_mul_left 7 h2)) (W6 (YJ d a) h1)) (by decide)
theorem Fz{a b c:Nat}(h1:a<=6)(h2:b<=a):min b c<=6:=W6 (ZG b c) (W6 h2 h1)
theorem FA{a b c d:Nat}(h1:a<=6)(h2:b<=a)(h3:c<=min b d * 240):c<=4096:=W6 h3 (W6 (Nat.mul_le_mul_right 240 (W6 (ZG b d) (W6 h2 h1))) (by decide))
theorem FB{a b c d:Nat}(h1:a<=8)(h2:b+c+d<=a):d+1<=9:=Z9 (W6 (Yk d (b+c)) (W6 h2 h1))
theorem FC{a b:Nat}(h1:a<=6):min b a+1<=7:=Z9 (W6 (YJ b a) h1)
theorem FD{a b c:Nat}(h1:a<=6)(h2:b<=32):b+min c a+8<60:=Xu (Z3 (ZP h2 (W6 (YJ c a) h1)) 8) (by decide)
theorem FE{a b:Nat}(h1:(a+1) * (b+1)<=9 * 7):(a+1) * (b+1)+1<65:=by simp +arith [*]
theorem FG{a b:Nat}(h1:a<=6)(h2:b<=a):b+(0+1)+65 * 60<=4000:=by lia
theorem FH:60+65<=1800:=by simp_all
theorem FI{a:Nat}:¬a+8<8:=by simp_all
theorem FJ{a:Nat}:min 6 a<=6:=ZG 6 a
theorem FK{a b:Nat}:a+1+b=a+(b+1):=Nat.succ_add_eq_add_succ a b
theorem FL{a:Nat}(h1:a<7):a<=4096:=by simp +arith at *;lia
theorem FM{a b:Nat}(h1:a<b):a<b+1:=Nat.lt_add_right 1 h1
theorem FN{a b:Nat}(h1:a<7)(h2:b<a):b+1<=100:=by simp +arith at *;lia
theorem FO{a b:Nat}(h1:a<=8)(h2:b<=a * 7):b<=4096:=by simp +arith at *;lia
theorem FP{a:Nat}:1<=a+16:=by simp_all
theorem FQ{a b c:Nat}(h1:a<=100)(h2:b<=2)(h3:c=4096):a+b<=c:=by subst_vars;lia
theorem FR{a:Nat}(h1:a<=4000):a+(0+1)<=4096:=by exact Xu (by assumption) (by decide)
theorem FS{a:Nat}(h1:a<=4000):0+1+1+1+1+1+1+a+(0+1)<=4096:=by simp +arith at *;lia
theorem FT{a b:Nat}(h1:a+b<=3000):0+b<=4000:=by simp +arith at *;lia
theorem FU{a b:Nat}:a+24+b+30=a+b+54:=by simp +arith [*]
theorem FV{a b:Nat}(h1:a+2 * b<=2000):a<=4096:=by lia
theorem FW{a b:Nat}(h1:a<=b):a<=b+10:=Nat.le_add_right_of_le h1
theorem FX{a b:Nat}(h1:a+2 * b<=2000):a<=3000:=by lia
theorem FY{a:Nat}(h1:a<=600):a+10<=3000:=by simp +arith at *;lia
theorem FZ{a b c:Nat}(h1:a<b)(h2:b-(a+1)=c+0):a+1+c<=b:=Nat.add_le_of_le_sub' h1 (h2▸Xs c)
theorem F0{a b c:Nat}(h1:a<=b):a<=b+c+11:=by lia
theorem F1{a b:Nat}(h1:a+2 * (b+1+1)<=2000):a<=3000:=by simp +arith at *;lia
theorem F2{a b c:Nat}(h1:a<=600)(h2:b+2 * (c+1+1)<=2000):a+c+11<=3000:=by simp +arith at *;lia
theorem w2{a b c d:Nat}(h1:a<b)(h2:b-(a+1)=c+d):a+1+c<=b:=Nat.add_le_of_le_sub' h1 (h2▸XX c d)
theorem F3{a b:Nat}(h1:a+2 * (b+1+1)<=2000):a+(0+1)+2 * (b+1)<=2000:=by simp +arith at *;lia
theorem F4{a:Nat}(h1:a<=4000):0+(0+1+1+1+1)+a+(0+1+1+1)<=4096:=by simp +arith at *;lia
theorem F5{a:Nat}(h1:a<=100):0+a<=4000:=by simp +arith at *;lia
theorem F6{a:Nat}(h1:a<=100):366-a+a+30=396:=congrArg (· + 30) (Nat.sub_add_cancel (W6 h1 (by decide)))
theorem F7{a:Nat}:325-a<=600:=by simp +arith [*]
theorem F8{a b:Nat}(h1:a<=100)(h2:b<=100):b<=325-a:=W6 h2 (W6 (by decide:100<=325-100) (Nat.sub_le_sub_left h1 325))
theorem F9{a b:Nat}(h1:a<=100)(h2:b<=100):a+2 * b<=2000:=by lia
theorem Ga{a:Nat}(h1:a<=100):325-a+a+70=395:=congrArg (· + 70) (Nat.sub_add_cancel (W6 h1 (by decide)))
theorem Gb{a:Nat}(h1:a≠1)(h2:¬a=0):2<=a:=by lia
theorem Gc{a b:Nat}(h1:a+1<=b):a+1+1<=b+1:=by simp +arith at *;assumption
theorem Ge{a b:Nat}(h1:a+1<=8)(h2:b<=2):b+2 * a<=100:=by simp +arith at *;lia
theorem Gf{a b:Nat}(h1:a<=100)(h2:b=4096):0+1+a<=b:=by subst_vars;lia
theorem Gg{a b:Nat}:((↑a:Int)-(↑b:Int)).toNat=a-b:=Int.toNat_sub a b
theorem Gh{a:Nat}(h1:¬a<=8192):8192<a:=by simp_all
theorem Gi:3<=3+2:=by simp_all
theorem Gj{a:Nat}(h1:a<=6):a+1<=100:=by exact Xu (by assumption) (by decide)
theorem Gk{a:Nat}(h1:a<=6):a<=50:=by exact W6 (by assumption) (by decide)
theorem Gl{a:Int}(h1:0<=a)(h2:a<5):0<=a/\a<=4:=by lia
theorem Gm{a b:Nat}:a+0+1 * b<=a+b:=by simp_all
theorem Gn{a b c:Nat}(h1:a<=b/\b<a+(c+1-a)):a<=b:=by simp_all
theorem Go{a b c d e:Nat}(h1:a+b * c<=d+c):e+a+(b * c+1 * c)<=e+(c+d)+c:=by simp +arith at *;assumption
theorem Gq{a b c d e:Nat}(h1:a=b+c)(h2:0+d<e)(h3:d<c):b+d<Min.min (b+e) a:=Nat.lt_min.mpr ⟨Nat.add_lt_add_left (ZL d▸h2) b,h1▸Nat.add_lt_add_left h3 b⟩
theorem Gu{a b c:Nat}(h1:a+b<=c):c=a+(c-a):=(Nat.add_sub_cancel' (W6 (XX a b) h1)).symm
theorem Gv{a b c d:Nat}(h1:a+b<Min.min (a+c) d):0+b<c:=by rw[ZL];exact Nat.lt_of_add_lt_add_left (Yj h1 (ZG ..))
theorem Gw{a b c:Nat}(h1:a<b):c+a<c+b:=by simp +arith at *;assumption
theorem Gx{a b c d e:Nat}(h1:a+b<Min.min (a+c) d)(h2:e<b):a+e<Min.min (a+c) d:=by lia
theorem Gy{a b c:Nat}(h1:a<=b)(h2:c<=a)(h3:b<c):False:=by lia
theorem Gz{a:Nat}(h1:a<7):a+1<=100:=by exact W6 (by assumption) (by decide)
theorem GA{a:Nat}:a<=a+2:=by simp_all
theorem GB{a b:Nat}(h1:a=b+0):b=a:=by simp[*]
theorem GC{a b c:Nat}(h1:a=b+(c+1)):b<a:=by simp_all
theorem GD{a b c:Nat}(h1:a=b+(c+1)):a=b+1+c:=by simp +arith [*]
theorem GE{a b:Nat}{c:Int}(h1:a<=b+1)(h2:b=4096)(h3:-(↑a:Int)<=c):-2 ^ 63<=c:=by subst_vars;lia
theorem GF{a b:Nat}(h1:a<b):b-(a+1)=(-((↑a:Int)+1)+(↑b:Int)).toNat/\-(↑b:Int)<=-((↑a:Int)+1):=⟨by rw[Int.add_comm,<-Int.sub_eq_add_neg];exact congrArg Int.toNat (Int.ofNat_sub h1),Int.neg_le_neg (ZU.mpr h1)⟩
theorem GG{a b c:Nat}:min a b<=b+c:=W6 (YJ a b) (XX b c)
theorem GH{a b:Nat}:min a b<=b:=YJ a b
theorem GI{a b:Nat}(h1:a<b):-((↑a:Int)+1)+(↑b:Int)=(↑(b-1-a):Int):=by rw[Int.add_comm,<-Int.sub_eq_add_neg,Nat.sub_sub,Nat.add_comm 1 a];exact(Int.ofNat_sub h1).symm
theorem GJ{a b:Nat}(h1:a<b):-(↑b:Int)<=-((↑a:Int)+1):=by lia
theorem GK{a:Nat}{b:Int}(h1:a<=4096)(h2:-(↑a:Int)<=b/\b<(↑a:Int)):-2 ^ 63<=b:=by lia
theorem GL{a:Nat}{b:Int}(h1:a<=4096)(h2:-(↑a:Int)<=b/\b<(↑a:Int)):b<2 ^ 63:=by lia
theorem GM{a b:Nat}{c:Int}(h1:a<=b)(h2:-(↑a:Int)<=c)(h3:c<(↑a:Int))(h4:b=4096):¬c < -2 ^ 63/\¬c≥2 ^ 63:=⟨Int.not_lt.mpr (YW (YW (by decide) (Int.neg_le_neg (ZU.mpr (h4▸h1:a<=4096)))) h2),Int.not_le.mpr (Int.lt_of_lt_of_le h3 (YW (ZU.mpr (h4▸h1:a<=4096)) (by decide)))⟩
theorem GN:8<=4096:=by simp_all
theorem GP{a b c:Nat}(h1:a<=b)(h2:b<c):a<=c:=by exact Yo (Xu (by assumption) (by assumption))
theorem GQ{a b:Nat}(h1:a=16777216)(h2:b<=5):b<=a:=by subst_vars;lia
theorem GR{a:Nat}(h1:a<=5):a+0+1 * 0<=16777216:=by exact W6 (by assumption) (by decide)
theorem GS{a b c:Nat}(h1:a<=b)(h2:c+8 * b+200<=9800):c+8 * a+200<=9800:=by simp +arith at *;lia
theorem GU{a:Nat}:a+3<=a+4:=by simp_all
theorem GV{a b:Int}(h1:¬a > b):0=(↑(a-b).toNat:Int):=by simp +arith at *;lia
theorem GW{a b:Int}(h1:a > b):a-b-1+1=(↑(a-b).toNat:Int):=by grind
theorem GX{a b:Nat}(h1:¬a<b):¬(↑a:Int)<(↑b:Int):=by simp[*]
theorem GY{a b:Nat}:a+1+b<a+1+(b+1):=by subst_vars;exact Xs _
theorem GZ{a b:Nat}:a+b<a+1+(b+1):=by simp +arith [*]
theorem Ha{a b c d:Nat}(h1:a+b+c<d):0<d:=by exact W6 (Yk ..) (by assumption)
theorem Hb{a b c d:Nat}(h1:a+1+b+(c+1)<d):a+b+1+(c+1)<d:=by simp +arith at *;assumption
theorem Hc{a b c d:Nat}(h1:a+1+b+(c+1)<d):a+b+c<d:=by simp +arith at *;lia
theorem Hd{a b:Nat}(h1:0=a+b):b<=0:=by simp_all
theorem He{a b c:Nat}(h1:a=b+c):c<=a:=by simp_all
theorem w5{a b:Nat}(h1:a<=b):a<=b+1:=by lia
theorem Hf{a b c:Nat}(h1:a+b+4<c):0<c:=by exact W6 (Yk ..) (by assumption)
theorem Hg{a b c:Nat}(h1:a+b+0+4<c):b+1+0<c:=by simp +arith at *;lia
theorem Hh{a b:Nat}(h1:a=b):a<=b:=by subst_vars;exact Xs _
theorem Hi{a b:Nat}(h1:a+1<b):a<b:=by exact Yo (by assumption)
theorem Hj{a b c:Nat}(h1:(a+1) * (b+1)<c)(h2:(a+1) * 1<=(a+1) * (b+1)):a<c:=by grind
theorem Hk{a b c d:Nat}(h1:a+(b+1)+1+1+c+8<d):a+(b+1)+1+1+c<d:=by simp +arith at *;lia
theorem Hl{a b c d:Nat}(h1:a+(b+1)+1+1+c+8<d):a+b+c+4<d:=by simp +arith at *;lia
theorem Hm{a b c d e:Nat}(h1:a+(b+1)+1+1+c+8<d)(h2:e<=c):b+e+8<d:=by simp +arith at *;lia
theorem Hn{a b c d e f:Nat}(h1:(a+1) * (b+1)<c)(h2:c<=d+b)(h3:(e+1) * (f+1)<=(e+1) * (b+1))(h4:(a+1) * (b+1)=(e+1) * (b+1)+(b+1)):(e+1) * (f+1)<d:=by omega
theorem Ho{a:Nat}(h1:a<=0):a=0:=by simp +arith at *;assumption
theorem Hp{a:Nat}(h1:a+1<=101):0+1+a<=4000:=by simp +arith at *;lia
theorem w6{a:Nat}(h1:a<=4000):1+a<=4096:=by simp +arith at *;lia
theorem Hq{a:Nat}(h1:a+0<=3000):a<=4000:=by exact W6 (by assumption) (by decide)
theorem Hr{a b:Nat}(h1:a+(b+1)<=3000):a<=4000:=by simp +arith at *;lia
theorem Hs{a b:Nat}(h1:a+(b+1)<=3000):a+1+b<=3000:=by simp +arith at *;assumption
theorem Ht{a:Nat}:2<=a+2:=by simp_all
theorem Hu{a:Nat}(h1:¬a<20):20<=a:=by simp_all
theorem Hv{a b c d:Nat}(h1:a+1+b+c<=d):a+1+b+(c+1)<=d+1:=by simp +arith at *;assumption
theorem Hw{a b:Nat}(h1:a<b+1):a<=b:=by simp +arith at *;assumption
theorem Hx{a:Nat}(h1:a<=6):a<=100:=by exact W6 (by assumption) (by decide)
theorem Hy{a b c:Nat}(h1:a<=6)(h2:b<=32)(h3:c<=7 * b):c+a<=4096:=by simp +arith at *;lia
theorem w7{a:Nat}(h1:0<a):0<(↑a:Int):=by simp_all
theorem Hz{a:Int}(h1:0<=a):a=(↑a.toNat:Int):=by lia
theorem HA{a b:Nat}(h1:a+2 * (b+1)<=100):a<=100:=by exact W6 (XX ..) (by assumption)
theorem HB{a b:Nat}(h1:a<=b):b=b-a+a:=by simp_all
theorem HC{a b c:Nat}(h1:a<b-c):c+a<b:=Nat.add_comm a c▸Nat.add_lt_of_lt_sub h1
theorem HD{a b c:Nat}(h1:a<=b)(h2:c+1<=a):c+1<=b:=by exact Yj (by assumption) (by assumption)
theorem HE{a b:Nat}(h1:a<b):a+1<=b:=by subst_vars;assumption
theorem HF{a b c:Nat}(h1:a<=b)(h2:c<=b)(h3:c-a=b):a=0:=by lia
noncomputable abbrev aam:List Nat:=[110,97,109,101]
noncomputable abbrev aan:List Nat:=[115,99,114,105,112,116]
noncomputable abbrev aao:List Nat:=[114,97,110,103,101,115]
noncomputable abbrev aap:List Nat:=[98,97,114,114,101,100]
noncomputable abbrev aaq:List Nat:=[110,117,109,98,101,114,115]
noncomputable abbrev aar:List Nat:=[112,105,101,99,101]
noncomputable abbrev aas:List Nat:=[107,105,110,100,115]
noncomputable abbrev aat:List Nat:=[105,116,101,109,115]
noncomputable abbrev aau:List Nat:=[114,101,97,99,104]
noncomputable abbrev aav:List Nat:=[115,116,97,99,107]
noncomputable abbrev aaw:List Nat:=[115,105,103,110]
noncomputable abbrev aax:List Nat:=[116,101,120,116]
noncomputable abbrev aay:List Nat:=[119,97,121]
noncomputable abbrev aaz:List Nat:=[115,116,97,114]
noncomputable abbrev aaA:List Nat:=[104,101,97,100,115]
noncomputable abbrev aaB:List Nat:=[112,97,116,116,101,114,110]
noncomputable abbrev aaC:List Nat:=[81,85,69,83,84,73,79,78,95,77,65,82,75]
noncomputable abbrev aaD:List Nat:=[114,101,115]
noncomputable abbrev aaE:List Nat:=[114,111,111,109]
noncomputable abbrev aaF:List Nat:=[102,105,116,115]
noncomputable abbrev aaG:List Nat:=[83,84,65,82]
noncomputable abbrev aaH:List Nat:=[112,97,114,116,115]
noncomputable abbrev aaI:List Nat:=[102,108,111,111,114]
noncomputable abbrev aaJ:List Nat:=[104,101,97,100]
noncomputable abbrev aaK:List Nat:=[116,111,108,100]
noncomputable abbrev aaL:List Nat:=[119,104,111,108,101]
noncomputable abbrev aaM:List Nat:=[97,100,100]
noncomputable abbrev aaN:List Nat:=[46,42]
noncomputable abbrev aaO:List Nat:=[112,108,97,99,101,115]
noncomputable abbrev aaP:List Nat:=[40,63,62,46,42,63]
noncomputable abbrev aaQ:List Nat:=[46,42,63]
noncomputable abbrev aaR:List Nat:=[105,110,112]
noncomputable abbrev aaS:List Nat:=[108,101,102,116]
noncomputable abbrev aaT:List Nat:=[40,63,62]
noncomputable abbrev aaU:List Nat:=[112,97,116]
noncomputable abbrev aaV:List Nat:=[102,117,110,99,116,105,111,110]
noncomputable abbrev aaW:List Nat:=[115,101,113,117,101,110,99,101]
noncomputable abbrev aaX:List Nat:=[103,111,105,110,103]
noncomputable abbrev aaY:List Nat:=[105,110,105,116,105,97,108]
noncomputable abbrev aaZ:List Nat:=[112,97,114,116]
noncomputable abbrev aa0:List Nat:=[109,101,97,110,116]
noncomputable abbrev aa1:List Nat:=[97,98,111,118,101]
inductive AV where
 | none
 | bool (b:Bool)
 | int (i:Int)
 | str (x:List Nat)
 | tup (l:List AV)
 | lst (l:List AV)
 | op (k:Nat)
 | idx (k:Nat)
 | pat (r:List Nat)
 | lpat (r:List AV)
inductive PV where
 | val (a:AV)
 | cell (i:Nat)
 | app (i:Nat)
 | rng (a b c:Int)
structure bE where
 acc:Option Int
 items:List AV
noncomputable abbrev ai:=List (List Nat×PV)
inductive bG where
 | next | brk | cont
 | ret (v:PV)
noncomputable def ax:List Nat->List Nat->Bool
 | [],[]=>true
 | a::l,b::m=>cond (XI a b) (ax l m) false
 | [],_::_=>false
 | _::_,[]=>false
noncomputable def nm(s:Str):List Nat:=s.cps.toList
noncomputable def aB:ai->List Nat->Option PV
 | [],_=>none
 | p::r,x=>match ax p.1 x with | true=>some p.2 | false=>aB r x
noncomputable def mu:ai->List Nat->PV->ai
 | [],x,v=>[(x,v)]
 | p::r,x,v=>match ax p.1 x with | true=>(p.1,v)::r | false=>p::mu r x v
noncomputable def bP{α:Type}:List α->Nat->Option α
 | [],_=>none
 | a::_,0=>some a
 | _::l,n+1=>bP l n
noncomputable def dg{α:Type}:List α->Nat->α->List α
 | [],_,_=>[]
 | _::l,0,b=>b::l
 | a::l,n+1,b=>a::dg l n b
noncomputable def bo{α γ:Type}(x:Option α)(f:α->Option γ):Option γ:=match x with | some a=>f a | none=>none
noncomputable def bp{α β γ:Type}(x:Option (α×β))(f:α->β->Option γ):Option γ:=match x with | some (a,b)=>f a b | none=>none
noncomputable def gd{γ:Type}(b:Bool)(x:Option γ):Option γ:=match b with | true=>x | false=>none
noncomputable def oc{α γ:Type}(x:Option α)(f:α->Option γ)(y:Option γ):Option γ:=match x with | some a=>f a | none=>y
noncomputable abbrev S:=List bE
noncomputable def un{α:Type}{P:α->Prop}:Option {a // P a}->Option α
 | some a=>some a.1
 | none=>none
theorem bS{α:Type}{P:α->Prop}{a:α}:∀{x:Option {a // P a}},un x=some a->P a
 | some b,h=>W9 h▸b.2
noncomputable def ir(p:PV):Option AV:=un (P:=λa=>p=.val a) (match p with
 | .val a=>some ⟨a,rfl⟩
 | _=>none)
noncomputable def bv{γ:Type}(x:Option (PV×S))(f:AV->S->Option γ):Option γ:=bp x λp σ=>bo (ir p) λa=>f a σ
noncomputable def vo(σ:S)(x:Option AV):Option (PV×S):=bo x λa=>some (.val a,σ)
noncomputable def cu{α:Type}(l:List α):Option α:=un (P:=λa=>l=[a]) (match l with
 | [a]=>some ⟨a,rfl⟩
 | _=>none)
noncomputable def jN{α:Type}(l:List α):Option (α×α):=un (P:=λp=>l=[p.1,p.2]) (match l with
 | [a,b]=>some ⟨(a,b),rfl⟩
 | _=>none)
noncomputable def dJ(a:AV):Option (List Nat):=un (P:=λx=>a=.str x) (match a with
 | .str x=>some ⟨x,rfl⟩
 | _=>none)
noncomputable def eF(a:AV):Option Int:=un (P:=λi=>a=.int i) (match a with
 | .int i=>some ⟨i,rfl⟩
 | _=>none)
noncomputable def kr(a:AV):Option (List AV):=un (P:=λl=>a=.lst l) (match a with
 | .lst l=>some ⟨l,rfl⟩
 | _=>none)
noncomputable def lB(a:AV):Option (List AV):=un (P:=λl=>a=.tup l) (match a with
 | .tup l=>some ⟨l,rfl⟩
 | _=>none)
noncomputable def w8(a:AV):Option (List Nat):=un (P:=λx=>a=.pat x) (match a with
 | .pat x=>some ⟨x,rfl⟩
 | _=>none)
noncomputable def jk(a:AV):Option Nat:=un (P:=λk=>a=.idx k) (match a with
 | .idx k=>some ⟨k,rfl⟩
 | _=>none)
noncomputable def pI(a:AV):Option Bool:=un (P:=λb=>a=.bool b) (match a with
 | .bool b=>some ⟨b,rfl⟩
 | _=>none)
noncomputable def ks(i:Int):Option Nat:=un (P:=λn=>i=.ofNat n) (match i with
 | .ofNat n=>some ⟨n,rfl⟩
 | _=>none)
noncomputable def lC(a:AV):Option Nat:=bo (eF a) ks
noncomputable def kx(a:PV):Option Nat:=un (P:=λq=>a=.cell q) (match a with
 | .cell q=>some ⟨q,rfl⟩
 | _=>none)
noncomputable def nK(a:PV):Option Nat:=un (P:=λq=>a=.app q) (match a with
 | .app q=>some ⟨q,rfl⟩
 | _=>none)
noncomputable def ky(p:PV):Option Int:=bo (ir p) eF
noncomputable def iL(e:Expr):Option Str:=un (P:=λx=>∃p,e=.Name x p) (match e with
 | .Name x p=>some ⟨x,p,rfl⟩
 | _=>none)
noncomputable def pJ(e:Expr):Option (Expr×Str×Pos):=un (P:=λq=>e=.Attribute q.1 q.2.1 q.2.2) (match e with
 | .Attribute o m p=>some ⟨(o,m,p),rfl⟩
 | _=>none)
noncomputable def pK(e:Expr):Option (List Nat):=un (P:=λx=>∃s k p,e=.Constant (.str s) k p/\nm s=x) (match e with
 | .Constant (.str s) k p=>some ⟨nm s,s,k,p,rfl,rfl⟩
 | _=>none)
noncomputable def sE(e:Expr):Option (Option Expr×Option Expr×Option Expr):=un (P:=λq=>∃p,e=.Slice q.1 q.2.1 q.2.2 p) (match e with
 | .Slice lo hi st p=>some ⟨(lo,hi,st),p,rfl⟩
 | _=>none)
noncomputable def aD:Nat:=4096
noncomputable def jl(x:List Nat):Option AV:=gd (YG x.length aD) (some (.str x))
noncomputable def nL(x:List AV):Option AV:=gd (YG x.length aD) (some (.lst x))
noncomputable def gk:List Nat->List Nat->Bool
 | [],_=>true
 | _::_,[]=>false
 | a::l,b::m=>cond (XI a b) (gk l m) (YG a b)
noncomputable def w9(a b:List Nat):Bool:=!gk b a
noncomputable def jm(f:AV->AV->Option Bool):List AV->List AV->Option Bool
 | [],[]=>some true
 | a::l,b::m=>bo (f a b) λx=>bo (jm f l m) λy=>some (x&&y)
 | [],_::_=>some false
 | _::_,[]=>some false
noncomputable def jO:Nat->AV->AV->Option Bool
 | 0,_,_=>none
 | n+1,a,b=>match a with
  | .bool a=>bo (pI b) λb=>some (a==b)
  | .int a=>bo (eF b) λb=>some (a==b)
  | .str a=>bo (dJ b) λb=>some (ax a b)
  | .lst a=>bo (kr b) λb=>jm (jO n) a b
  | .tup a=>bo (lB b) λb=>jm (jO n) a b
  | _=>none
noncomputable def lE(a b:AV):Option Bool:=oc (jk a) (λp=>bo (jk b) λq=>some (XI p q)) (jO 4 a b)
noncomputable def gX(a b:Int):Bool:=decide (a<b)
noncomputable def mv(a b:Int):Bool:=decide (a<=b)
noncomputable def nM(b:Bool):List AV->Option Bool
 | []=>some false
 | a::l=>bo (pI a) λa=>bo (nM b l) λr=>some (a==b||r)
noncomputable def sG(d:Nat):List AV->Option Bool
 | []=>some false
 | a::l=>bo (dJ a) λx=>bo (sG d l) λr=>some (ax x [d]||r)
noncomputable def xc(a:AV):Option Nat:=un (P:=λk=>a=.op k) (match a with
 | .op k=>some ⟨k,rfl⟩
 | _=>none)
noncomputable def sH(a b:AV):Option Bool:=bo (xc b) λk=>match a with
 | .op j=>gd (XI j k) (some true)
 | .str _=>some false
 | .int _=>some false
 | _=>none
noncomputable def xd(b:AV):AV->Option Bool
 | .int x=>bo (eF b) λy=>some (gX x y)
 | .idx x=>oc (jk b) (λy=>some (YU x y)) (bo (lC b) λy=>gd (XI y 0) (some false))
 | _=>none
noncomputable def xe(b:AV):AV->Option Bool
 | .int x=>bo (eF b) λy=>some (mv x y)
 | .str x=>bo (dJ b) λy=>some (gk x y)
 | _=>none
noncomputable def xf(b:AV):AV->Option Bool
 | .int x=>bo (eF b) λy=>some (gX y x)
 | .str x=>bo (dJ b) λy=>some (w9 y x)
 | _=>none
noncomputable def xg(b:AV):AV->Option Bool
 | .int x=>bo (eF b) λy=>some (mv y x)
 | .idx x=>bo (jk b) λy=>some (YG y x)
 | _=>none
noncomputable def xh(b:AV):AV->Option Bool
 | .bool x=>bo (kr b) λl=>nM x l
 | .str x=>bo (cu x) λc=>bo (lB b) λl=>sG c l
 | _=>none
noncomputable def fe(o:CmpOp)(a b:AV):Option Bool:=match o with
 | .Eq=>lE a b
 | .NotEq=>bo (lE a b) λr=>some !r
 | .Lt=>xd b a
 | .LtE=>xe b a
 | .Gt=>xf b a
 | .GtE=>xg b a
 | .Is=>sH a b
 | .IsNot=>bo (sH a b) λr=>some !r
 | .In=>xh b a
 | .NotIn=>bo (dJ a) λx=>bo (cu x) λc=>bo (dJ b) λy=>some (!(y.any (XI c)))
noncomputable def sI(b:AV):AV->Option AV
 | .int x=>bo (eF b) λy=>some (.int (x+y))
 | .idx x=>bo (lC b) λy=>some (.idx (x+y))
 | .str x=>bo (dJ b) λy=>jl (x++y)
 | .lst x=>bo (kr b) λy=>nL (x++y)
 | _=>none
noncomputable def HG(x y:Int):Option AV:=bo (ks x) λa=>bo (ks y) λb=>gd (YG a 10&&YG b 100) (some (.int (.ofNat a ^ b)))
noncomputable def HH(x y:Int):Option AV:=bo (ks x) λa=>gd (YG a 1000) (some (.int (.ofNat a * y)))
noncomputable def sJ(n:Nat):Option Nat:=un (P:=λb=>n=b+1) (match n with
 | b+1=>some ⟨b,rfl⟩
 | 0=>none)
noncomputable def HI(x y:Int):Option AV:=bo (ks y) λb=>bo (sJ b) λb=>gd (YG b 1000) (some (.int (x.fdiv (.ofNat (b+1)))))
noncomputable def HJ(x y:Int):Option AV:=bo (ks y) λb=>bo (sJ b) λb=>some (.int (x.fmod (.ofNat (b+1))))
noncomputable def HK(x y:Int):Option AV:=bo (ks y) λb=>some (.int (x.fdiv (2 ^ b)))
noncomputable def kz(a b:AV)(f:Int->Int->Option AV):Option AV:=bo (eF a) λx=>bo (eF b) λy=>f x y
noncomputable def lF(o:Z8)(a b:AV):Option AV:=match o with
 | .Add=>sI b a
 | .Sub=>kz a b λx y=>some (.int (x-y))
 | .Mult=>kz a b HH
 | .FloorDiv=>kz a b HI
 | .Mod=>kz a b HJ
 | .Pow=>kz a b HG
 | .BitAnd=>kz a b λx y=>some (.int (Xp.bitAnd x y))
 | .RShift=>kz a b HK
 | _=>none
noncomputable def full{α:Type}:List α->Bool
 | []=>false
 | _=>true
noncomputable def iM:AV->Option Bool
 | .none=>some false
 | .bool b=>some b
 | .int i=>some (!(i==0))
 | .str x=>some (full x)
 | .lst x=>some (full x)
 | _=>none
noncomputable def fz(n:Nat):Int->Nat
 | .ofNat k=>k
 | .negSucc m=>n-(m+1)
noncomputable def cut{α:Type}(x:List α)(a b:Option Nat):List α:=
 (match b with | some k=>x.take k | none=>x).drop (a.getD 0)
noncomputable def nN(n:Nat):AV->Option (Option Nat)
 | .none=>some none
 | .int i=>some (some (fz n i))
 | _=>none
noncomputable def sK:AV->Option (Option Nat)
 | .idx k=>some (some k)
 | _=>none
noncomputable def xi(a x y:AV):Option AV:=match a with
 | .str l=>bo (nN l.length x) λp=>bo (nN l.length y) λq=>some (.str (cut l p q))
 | .lst l=>bo (nN l.length x) λp=>bo (nN l.length y) λq=>some (.lst (cut l p q))
 | .pat l=>bo (sK x) λp=>bo (sK y) λq=>some (.str (cut l p q))
 | _=>none
noncomputable def is{α:Type}(l:List α):Int->Option α
 | .ofNat n=>bP l n
 | .negSucc m=>bP l.reverse m
noncomputable def sL(o:Option Nat):Option AV:=bo o λc=>some (.str [c])
noncomputable def lG(a x:AV):Option AV:=match a with
 | .lst l=>bo (eF x) λi=>is l i
 | .tup l=>bo (eF x) λi=>is l i
 | .str l=>bo (eF x) λi=>sL (is l i)
 | .pat l=>bo (jk x) λk=>sL (bP l k)
 | .lpat l=>bo (jk x) λk=>bP l k
 | _=>none
noncomputable def mw(a:Int):Nat->List AV
 | 0=>[]
 | n+1=>.int a::mw (a+1) n
noncomputable def lH(a:Int):Nat->List AV
 | 0=>[]
 | n+1=>.int a::lH (a-1) n
noncomputable def fK:Int->Bool
 | .ofNat n=>YG n 8192
 | .negSucc n=>YG n 8192
noncomputable def HL(c:Int):Option Bool:=un (P:=λb=>c=cond b (.ofNat 1) (.negSucc 0)) (match c with
 | .ofNat 1=>some ⟨true,rfl⟩
 | .negSucc 0=>some ⟨false,rfl⟩
 | _=>none)
noncomputable def HM(a b c:Int):Option (List AV):=gd (fK a&&fK b) (bo (HL c) λu=>cond u (gd (YG (b-a).toNat aD) (some (mw a (b-a).toNat))) (gd (YG (a-b).toNat aD) (some (lH a (a-b).toNat))))
noncomputable def jn:List AV->Option Int
 | []=>some 0
 | a::l=>bo (eF a) λi=>bo (jn l) λr=>some (i+r)
noncomputable def jo:List AV->Option (List (List Nat))
 | []=>some []
 | a::l=>bo (dJ a) λx=>bo (jo l) λr=>some (x::r)
noncomputable def bF(sep:List Nat):List (List Nat)->List Nat
 | []=>[]
 | [x]=>x
 | x::y::r=>x++(sep++bF sep (y::r))
noncomputable def sM(a:AV):Option (List Nat×List Nat):=bo (lB a) λl=>bo (jN l) λq=>bo (dJ q.1) λx=>bo (dJ q.2) λy=>some (x,y)
noncomputable def iN:List AV->Option Nat
 | []=>some 0
 | a::l=>bp (sM a) λx y=>bo (iN l) λr=>some (x.length+y.length+r)
noncomputable def jp:List AV->Option (List Nat)
 | []=>some []
 | a::l=>bp (sM a) λx y=>bo (jp l) λr=>some (x++y++r)
noncomputable def eR(c:Nat)(y:List Nat):List Nat->List Nat
 | []=>[]
 | a::l=>cond (XI a c) (y++eR c y l) (a::eR c y l)
noncomputable def jq(c:Nat)(a b:Nat):Nat->List Nat->Option Nat
 | _,[]=>none
 | i,d::l=>gd (YU i b) (cond (YG a i&&XI c d) (some i) (jq c a b (i+1) l))
structure bh where
 fn:List Nat->List AV->Option AV
 cf:List Nat->bE->List AV->Option (AV×bE)
 gc:List Nat->Option AV
structure aH where
 tab:bh
 sc:YM
 own:List (List Nat)
 gen:Nat:=1
noncomputable def gm(sc:YM)(x:List Nat):Option Yl:=(sc.names.find? λp=>ax (nm p.1) x).map (·.2)
noncomputable def inL(x:List Nat):List (List Nat)->Bool
 | []=>false
 | y::l=>ax y x||inL x l
noncomputable def kA:List Nat:=[108,101,110]
noncomputable def mx:List Nat:=[114,97,110,103,101]
noncomputable def iO:List Nat:=[115,117,109]
noncomputable def kB:List Nat:=[115,116,114]
noncomputable def xj:List Nat:=[106,111,105,110]
noncomputable def kC:List Nat:=[114,101,112,108,97,99,101]
noncomputable def xk:List Nat:=[102,105,110,100]
noncomputable def jP:List Nat:=[97,112,112,101,110,100]
noncomputable def pL:List Nat:=[112,117,115,104]
noncomputable def xl:List Nat:=[112,111,112]
noncomputable def HN:List Nat:=[112,97,114,116,95,99,111,117,110,116]
noncomputable def pM:List Nat:=[112,111,112,95,102,114,111,109]
noncomputable def pN:List Nat:=[115,117,98]
noncomputable def eM:List Nat:=[95,95,100,101,98,117,103,95,95]
noncomputable def kE:List Nat:=[95,116,119,105,110,95,114,101,95,49]
noncomputable def HO:AV->Option PV
 | .str x=>some (.val (.int (.ofNat x.length)))
 | .lst x=>some (.val (.int (.ofNat x.length)))
 | .pat x=>some (.val (.idx x.length))
 | .lpat x=>some (.val (.idx x.length))
 | _=>none
noncomputable def HP(cl:bE):Option PV:=match cl.acc with
 | none=>some (.val (.int (.ofNat cl.items.length)))
 | some z=>gd (mv 0 z&&mv z 4) (bo (iN cl.items) λk=>some (.val (.int (z + .ofNat k))))
noncomputable def xm(σ:S):PV->Option PV
 | .val a=>HO a
 | .cell q=>bo (bP σ q) HP
 | _=>none
noncomputable def HQ(p:PV):Option PV:=bo (ir p) λa=>bo (kr a) λx=>bo (jn x) λi=>some (.val (.int i))
noncomputable def xn(σ:S)(p:PV):Option PV:=bo (kx p) λq=>bo (bP σ q) λcl=>gd cl.acc.isSome (bo (jp cl.items) λx=>bo (jl x) λv=>some (.val v))
noncomputable def sN{α:Type}(l:List α):Option (α×α×α):=un (P:=λp=>l=[p.1,p.2.1,p.2.2]) (match l with
 | [a,b,c]=>some ⟨(a,b,c),rfl⟩
 | _=>none)
noncomputable def xo:Int->Bool
 | .negSucc 0=>true
 | _=>false
noncomputable def xq(vs:List PV):Option PV:=oc (cu vs) (λp=>bo (ky p) λb=>some (.rng 0 b 1))
 (oc (jN vs) (λq=>bo (ky q.1) λa=>bo (ky q.2) λb=>some (.rng a b 1))
  (bo (sN vs) λq=>bo (ky q.1) λa=>bo (ky q.2.1) λb=>bo (ky q.2.2) λd=>gd (xo d) (some (.rng a b (.negSucc 0)))))
noncomputable def js(f:List Nat)(σ:S)(vs:List PV):Option PV:=
 cond (ax f kA) (bo (cu vs) (xm σ)) (cond (ax f iO) (bo (cu vs) HQ) (cond (ax f kB) (bo (cu vs) (xn σ)) (gd (ax f mx) (xq vs))))
noncomputable def kG(f x:List Nat)(l:List AV):Option AV:=gd (ax f xj) (bo (jo l) λys=>jl (bF x ys))
noncomputable def jQ(f x a y:List Nat):Option AV:=bo (cu a) λc=>gd (ax f kC&&(!ax [c] y&&YG y.length 14)) (jl (eR c y x))
noncomputable def my(cl:bE):Option (List AV):=match cl.acc with
 | none=>some cl.items
 | some _=>none
noncomputable def pO(σ:S)(p:PV):Option (List AV):=bo (kx p) λq=>bo (bP σ q) my
noncomputable def mz(σ:S)(p:PV):Option (List AV):=oc (ir p) kr (pO σ p)
noncomputable def sO(f x:List Nat)(vs:List AV):Option AV:=gd (ax f xk) (bo (sN vs) λq=>bo (dJ q.1) λc=>bo (cu c) λc=>bo (jk q.2.1) λa=>bo (jk q.2.2) λb=>
 some (match jq c a b 0 x with | some k=>.idx k | none=>.int (-1)))
noncomputable def nO{α:Type}(l:List α):Option (α×List α):=un (P:=λp=>l=p.1::p.2) (match l with
 | a::r=>some ⟨(a,r),rfl⟩
 | []=>none)
noncomputable def xt(f:List Nat)(z:Int)(l vs:List AV):Option (AV×bE):=
 cond (ax f pL) (bo (jN vs) λq=>bo (dJ q.1) λa=>bo (dJ q.2) λb=>gd (YG l.length aD) (some (.none,⟨some z,l++[.tup [.str a,.str b]]⟩)))
  (cond (ax f HN) (gd vs.isEmpty (some (.int (.ofNat l.length),⟨some z,l⟩)))
   (cond (ax f xl) (gd vs.isEmpty (bp (nO l.reverse) λv r=>some (v,⟨some z,r.reverse⟩)))
    (gd (ax f pM) (bo (cu vs) λv=>bo (lC v) λk=>gd (YG l.length aD) (some (.lst (l.drop k),⟨some z,l.take k⟩))))))
noncomputable def xu(f:List Nat)(l vs:List AV):Option (AV×bE):=gd (ax f jP) (bo (cu vs) λv=>gd (YG l.length aD) (some (.none,⟨none,l++[v]⟩)))
noncomputable def iu(f:List Nat)(cl:bE)(vs:List AV):Option (AV×bE):=match cl.acc with
 | none=>xu f cl.items vs
 | some z=>xt f z cl.items vs
noncomputable def pP(a b:Option Int):Bool:=a.isSome==b.isSome
noncomputable def HR:AV->Option (List AV)
 | .lst l=>some l
 | .str x=>some (x.map λc=>.str [c])
 | _=>none
noncomputable def jt:PV->Option (List AV)
 | .val a=>HR a
 | .rng a b c=>HM a b c
 | _=>none
noncomputable def xv:Option Yl->Bool
 | some .local=>true
 | some .cell=>true
 | _=>false
noncomputable def eN(sc:YM)(ρ:ai)(x:Str)(v:PV):Option ai:=gd (xv (gm sc (nm x))) (some (mu ρ (nm x) v))
noncomputable def ju(sc:YM):ai->List Str->List AV->Option ai
 | ρ,[],vs=>gd vs.isEmpty (some ρ)
 | ρ,x::xs,vs=>bp (nO vs) λv vs=>bo (eN sc ρ x (.val v)) λρ1=>ju sc ρ1 xs vs
noncomputable def jR:List Expr->Option (List Str)
 | []=>some []
 | e::r=>bo (iL e) λx=>bo (jR r) λl=>some (x::l)
noncomputable def pQ:List Str->ai->Bool
 | [],_=>true
 | x::r,ρ=>(aB ρ (nm x)).isNone&&pQ r ρ
noncomputable def lI:Expr->Option (List Str)
 | .Name x _=>some [x]
 | .Tuple ts _ _=>jR ts
 | _=>none
noncomputable def iP(tg:Expr)(ρ:ai):Bool:=match lI tg with | some xs=>pQ xs ρ | none=>false
noncomputable def eG(sc:YM)(tg:Expr)(v:AV)(ρ:ai):Option ai:=match tg with
 | .Name x _=>eN sc ρ x (.val v)
 | .Tuple ts _ _=>bo (lB v) λvs=>bo (jR ts) λxs=>ju sc ρ xs vs
 | _=>none
noncomputable def kH(sc outer:YM):YM:=
 {sc with names:=sc.names.map λ(n,k)=>if (k == .free&&outer.kind == .function&&outer.names.lookup n==some .cell) then (n,.cell) else (n,k)}
noncomputable def HS:List Nat:=[95,95,99,108,97,115,115,100,105,99,116,95,95]
noncomputable def nP:Yl->Bool
 | .free=>true
 | _=>false
noncomputable def xw:Option Yl->Bool
 | some .cell=>true
 | some .free=>true
 | _=>false
noncomputable def fV(osc:YM):List (Str×Yl)->ai->Option ai
 | [],_=>some []
 | p::r,ρ=>cond (nP p.2) (gd (!ax (nm p.1) HS&&xw (gm osc (nm p.1))) (bo (aB ρ (nm p.1)) λv=>bo (fV osc r ρ) λl=>some ((nm p.1,v)::l))) (fV osc r ρ)
noncomputable def once:List (Str×Yl)->Bool
 | []=>true
 | (n,_)::r=>!(r.any λp=>ax (nm p.1) (nm n))&&once r
noncomputable def sP:ScopeKind->Bool
 | .function=>true
 | _=>false
noncomputable def kJ(sc:YM):Bool:=sP sc.kind&&once sc.names
noncomputable def gY(l:List (Str×Yl)):Bool:=l.all λp=>!nP p.2
noncomputable def mD(a:Arguments)(sc:YM):Bool:=a.kw_defaults.isEmpty&&a.defaults.isEmpty&&gY sc.names
noncomputable def jS:List (List Nat):=[[],[33],[33,92,45,45,97],[33,93],[33,97],[42,63],[91],[92,45,45,97],[92,92,97],[93,92,45],[94,98],[97,98]]
noncomputable def xx:Option AV->List AV->List AV
 | some a,r=>a::r
 | none,r=>r
noncomputable def pR(step:AV->S->Option (Option AV×S)):List AV->S->Option (List AV×S)
 | [],σ=>some ([],σ)
 | t::ts,σ=>bp (step t σ) λo σ1=>bp (pR step ts σ1) λr σ2=>some (xx o r,σ2)
noncomputable def pS(e:Expr):Bool:=(iL e).isSome
noncomputable def HT:Yl->Bool
 | .cell=>true
 | _=>false
noncomputable def nQ(l:List (Str×Yl)):Bool:=l.all λp=>!HT p.2
noncomputable def sQ(e:Expr):Option (Expr×List Expr×Pos):=un (P:=λq=>e=.Call q.1 q.2.1 [] q.2.2) (match e with
 | .Call f a [] p=>some ⟨(f,a,p),rfl⟩
 | _=>none)
noncomputable def nR(l:List Expr):Option (List Nat×List Nat):=bo (jN l) λq=>bo (pK q.1) λa=>bo (pK q.2) λb=>some (a,b)
noncomputable def sS(e:Expr):Option (Expr×List Nat×List Nat):=bo (sQ e) λq=>bo (pJ q.1) λr=>bp (nR q.2.1) λa b=>gd (ax (nm r.2.1) kC&&XI r.2.2.endLine q.2.2.line) (some (r.1,a,b))
noncomputable def sT:Option Yl->Bool
 | some .local=>true
 | _=>false
noncomputable def jT:Option Yl->Bool
 | some .globalImplicit=>true
 | _=>false
noncomputable def nS(sc:YM)(tg:Expr)(ifs:List Expr)(e:Expr):Option ((List Nat×List Nat)×(List Nat×List Nat)):=
 gd ifs.isEmpty (bo (iL tg) λx=>bo (sS e) λq=>bo (sS q.1) λr=>bo (iL r.1) λy=>
  gd (ax (nm y) (nm x)&&gY sc.names&&nQ sc.names&&!sc.isCoroutine&&!ax (nm x) eM&&sT (gm sc (nm x))&&sT (gm sc [46,48])) (some (r.2,q.2)))
noncomputable def lJ(q:(List Nat×List Nat)×(List Nat×List Nat)):List AV->Option (List AV)
 | []=>some []
 | a::l=>bo (dJ a) λy=>bo (jQ kC y q.1.1 q.1.2) λb=>bo (dJ b) λy2=>bo (jQ kC y2 q.2.1 q.2.2) λv=>bo (lJ q l) λr=>some (v::r)
noncomputable def vals:List PV->Option (List AV)
 | []=>some []
 | p::l=>bo (ir p) λa=>bo (vals l) λr=>some (a::r)
noncomputable def xy(σ:S):Const->Option (PV×S)
 | .none=>some (.val .none,σ)
 | .bool b=>some (.val (.bool b),σ)
 | .int i=>some (.val (.int i),σ)
 | .str s=>vo σ (jl s.cps.toList)
 | _=>none
noncomputable def sU(c:aH)(ρ:ai)(σ:S)(x:Str):Option (PV×S):=gd (!ax (nm x) eM) (oc (aB ρ (nm x)) (λv=>some (v,σ)) (gd (jT (gm c.sc (nm x))) (vo σ (c.tab.gc (nm x)))))
noncomputable def HU(o:UnaryOp)(a:AV):Option AV:=match o with
 | .USub=>bo (eF a) λi=>some (.int (-i))
 | .Not=>bo (iM a) λb=>some (.bool (!b))
 | _=>none
noncomputable def HV:BoolOp->Bool->Bool
 | .And,b=>!b
 | .Or,b=>b
noncomputable def sV(σ:S)(x:AV):PV->Option AV
 | .val a=>lG a x
 | .cell q=>bo (bP σ q) λcl=>lG (.lst cl.items) x
 | _=>none
noncomputable def pT(l:List Zy)(sc:YM):Option Zy:=bo (cu l) λg=>gd (g.is_async==0&&kJ sc) (some g)
noncomputable def lK{α:Type}:List α->Bool
 | _::_::_=>true
 | _=>false
noncomputable def sW:List PV->Option (Nat×List PV)
 | .cell q::ws=>some (q,ws)
 | _=>none
noncomputable def mE(σ:S)(q:Nat)(x:Option (AV×bE)):Option (PV×S):=bp x λr cl=>some (.val r,dg σ q cl)
noncomputable def sX(T:bh)(σ:S)(f:List Nat)(vs:List PV):Option (PV×S):=
 oc (js f σ vs) (λv=>some (v,σ)) (oc (sW vs) (λh=>bo (bP σ h.1) λcl=>bo (vals h.2) λus=>mE σ h.1 (T.cf f cl us)) (bo (vals vs) λus=>vo σ (T.fn f us)))
noncomputable def xz(e:Expr):Option (Arguments×YM):=un (P:=λq=>∃b p,e=.Lambda q.1 b q.2 p) (match e with
 | .Lambda a b s p=>some ⟨(a,s),b,p,rfl⟩
 | _=>none)
noncomputable def sY(c:aH)(ρ:ai)(t:Str)(args:List Expr):Option Expr:=bo (jN args) λq=>bo (xz q.1) λl=>gd (mD l.1 l.2&&(aB ρ (nm t)).isNone&&jT (gm c.sc (nm t))&&YU 0 c.gen) (some q.2)
noncomputable def iQ:Expr->Bool
 | .Call f _ _ _=>!pS f
 | _=>true
noncomputable def nT(o:Expr)(m:Str):Option Str:=bo (iL o) λt=>gd (ax (nm t) kE&&ax (nm m) pN) (some t)
noncomputable def xA(e:Expr):Option (Expr×List Zy×YM):=un (P:=λq=>∃p,e=.GeneratorExp q.1 q.2.1 q.2.2 p) (match e with
 | .GeneratorExp e gs sc p=>some ⟨(e,gs,sc),p,rfl⟩
 | _=>none)
noncomputable def nU(args:List Expr):Option (Expr×Zy×YM):=bo (cu args) λa=>bo (xA a) λq=>bo (pT q.2.1 q.2.2) λg=>some (q.1,g,q.2.2)
noncomputable def xB(e:Expr):Option Expr:=un (P:=λq=>∃p,e=.FormattedValue q (-1) none p) (match e with
 | .FormattedValue e (.negSucc 0) none p=>some ⟨e,p,rfl⟩
 | _=>none)
noncomputable def xD(σ:S):PV->Option Bool
 | .val a=>iM a
 | .cell q=>bo (bP σ q) λcl=>bo (my cl) λl=>some (full l)
 | _=>none
mutual
noncomputable def pe:Nat->aH->ai->S->Expr->Option (PV×S)
 | 0,_,_,_,_=>none
 | n+1,c,ρ,σ,e=>match e with
  | .Constant k _ _=>xy σ k
  | .Name x _=>sU c ρ σ x
  | .BinOp l o r _=>bv (pe n c ρ σ l) λa σ1=>bv (pe n c ρ σ1 r) λb σ2=>vo σ2 (lF o a b)
  | .UnaryOp o x _=>bv (pe n c ρ σ x) λa σ1=>vo σ1 (HU o a)
  | .BoolOp o vs _=>bo (jN vs) λq=>bv (pe n c ρ σ q.1) λa σ1=>bo (iM a) λt=>cond (HV o t) (some (.val a,σ1)) (pe n c ρ σ1 q.2)
  | .IfExp t b o _=>bp (pt n c ρ σ t) λr σ1=>cond r (pe n c ρ σ1 b) (pe n c ρ σ1 o)
  | .Compare l os rs _=>bo (cu os) λo=>bo (cu rs) λr=>bv (pe n c ρ σ l) λa σ1=>bv (pe n c ρ σ1 r) λb σ2=>bo (fe o a b) λv=>some (.val (.bool v),σ2)
  | .Tuple es _ _=>bp (pes n c ρ σ es) λvs σ1=>gd (YG vs.length aD) (some (.val (.tup vs),σ1))
  | .List es _=>bp (pes n c ρ σ es) λvs σ1=>vo σ1 (nL vs)
  | .Subscript v i _=>oc (sE i) (λq=>gd q.2.2.isNone (bv (pe n c ρ σ v) λa σ1=>bv (peo n c ρ σ1 q.1) λx σ2=>bv (peo n c ρ σ2 q.2.1) λy σ3=>vo σ3 (xi a x y)))
    (bp (pe n c ρ σ v) λp σ1=>bv (pe n c ρ σ1 i) λx σ2=>vo σ2 (sV σ2 x p))
  | .ListComp elt gs sc _=>bo (pT gs sc) λg=>bp (pe n c ρ σ g.iter) λit σ1=>bo (jt it) λts=>bo (fV c.sc sc.names ρ) λρ0=>bp (pcomp n {c with sc:=kH sc c.sc} ρ0 σ1 g.target g.ifs elt ts) λvs σ2=>some (.val (.lst vs),σ2)
  | .JoinedStr vs _=>gd (lK vs) (pjoin n c ρ σ [] vs)
  | .Call f args kws p=>gd kws.isEmpty (oc (iL f)
    (λf=>gd (!ax (nm f) eM) (oc (aB ρ (nm f))
     (λh=>bo (nK h) λq=>bo (cu args) λx=>bv (pe n c ρ σ x) λv σ1=>bo (bP σ1 q) λcl=>mE σ1 q (iu jP cl [v]))
     (gd (jT (gm c.sc (nm f))) (bp (pargs n c ρ σ args) λvs σ1=>sX c.tab σ1 (nm f) vs))))
    (bo (pJ f) λq=>gd (XI q.2.2.endLine p.line&&YU args.length 30) (oc (nT q.1 q.2.1)
     (λt=>bo (sY c ρ t args) λx=>bv (pe n c ρ σ x) λa σ1=>bo (dJ a) λy=>gd (inL y jS) (some (.val (.str y),σ1)))
     (gd (iQ q.1) (pmeth n c ρ σ q.1 q.2.1 args)))))
  | _=>none
noncomputable def pmeth:Nat->aH->ai->S->Expr->Str->List Expr->Option (PV×S)
 | 0,_,_,_,_,_,_=>none
 | n+1,c,ρ,σ,o,m,args=>oc (nU args)
  (λq=>bv (pe n c ρ σ o) λa σ0=>bo (dJ a) λx=>bp (pe n c ρ σ0 q.2.1.iter) λit σ1=>gd (YU 0 c.gen&&pS q.2.1.iter) (bo (pO σ1 it) λts=>bo (nS q.2.2 q.2.1.target q.2.1.ifs q.1) λg=>bo (lJ g ts) λvs=>vo σ1 (kG (nm m) x vs)))
  (bp (pe n c ρ σ o) λp σ1=>oc (ir p)
   (λa=>oc (dJ a)
    (λx=>oc (nR args) (λq=>vo σ1 (jQ (nm m) x q.1 q.2)) (bo (cu args) λe=>bp (pe n c ρ σ1 e) λp σ2=>bo (mz σ2 p) λl=>vo σ2 (kG (nm m) x l)))
    (bo (w8 a) λx=>bp (pes n c ρ σ1 args) λvs σ2=>vo σ2 (sO (nm m) x vs)))
   (bo (kx p) λq=>bo (bP σ1 q) λc0=>bp (pes n c ρ σ1 args) λvs σ2=>bo (bP σ2 q) λc1=>gd (pP c0.acc c1.acc) (mE σ2 q (iu (nm m) c1 vs))))
noncomputable def peo:Nat->aH->ai->S->Option Expr->Option (PV×S)
 | 0,_,_,_,_=>none
 | n+1,c,ρ,σ,o=>oc o (λe=>pe n c ρ σ e) (some (.val .none,σ))
noncomputable def pes:Nat->aH->ai->S->List Expr->Option (List AV×S)
 | 0,_,_,_,_=>none
 | n+1,c,ρ,σ,es=>match es with
  | []=>some ([],σ)
  | e::r=>bv (pe n c ρ σ e) λv σ1=>bp (pes n c ρ σ1 r) λvs σ2=>some (v::vs,σ2)
noncomputable def pargs:Nat->aH->ai->S->List Expr->Option (List PV×S)
 | 0,_,_,_,_=>none
 | n+1,c,ρ,σ,es=>match es with
  | []=>some ([],σ)
  | e::r=>bp (pe n c ρ σ e) λv σ1=>bp (pargs n c ρ σ1 r) λvs σ2=>some (v::vs,σ2)
noncomputable def pjoin:Nat->aH->ai->S->List Nat->List Expr->Option (PV×S)
 | 0,_,_,_,_,_=>none
 | n+1,c,ρ,σ,acc,es=>match es with
  | []=>vo σ (jl acc)
  | e::r=>oc (pK e) (λs=>pjoin n c ρ σ (acc++s) r) (bo (xB e) λq=>bv (pe n c ρ σ q) λa σ1=>bo (dJ a) λx=>pjoin n c ρ σ1 (acc++x) r)
noncomputable def pcomp:Nat->aH->ai->S->Expr->List Expr->Expr->List AV->Option (List AV×S)
 | 0,_,_,_,_,_,_,_=>none
 | n+1,c,ρ,σ,tg,ifs,elt,ts=>gd (iP tg ρ) (pR (λt σ=>bo (eG c.sc tg t ρ) λρ1=>match ifs with
    | []=>bv (pe n c ρ1 σ elt) λv σ1=>some (some v,σ1)
    | q::r=>gd r.isEmpty (bp (pt n c ρ1 σ q) λb σ1=>cond b (bv (pe n c ρ1 σ1 elt) λv σ2=>some (some v,σ2)) (some (none,σ1)))) ts σ)
noncomputable def pt:Nat->aH->ai->S->Expr->Option (Bool×S)
 | 0,_,_,_,_=>none
 | n+1,c,ρ,σ,e=>match e with
  | .UnaryOp o x _=>match o with
   | .Not=>bp (pt n c ρ σ x) λb σ1=>some (!b,σ1)
   | _=>none
  | .IfExp ..=>none
  | .BoolOp o vs _=>match o with
   | .And=>pall n c ρ σ vs
   | .Or=>pany n c ρ σ vs
  | .Compare l os rs _=>oc (cu os)
    (λo=>bo (cu rs) λr=>bv (pe n c ρ σ l) λa σ1=>bv (pe n c ρ σ1 r) λb σ2=>bo (fe o a b) λv=>some (v,σ2))
    (bo (jN os) λo=>bo (jN rs) λr=>gd (!behindInMarks o.2 r.2) (bv (pe n c ρ σ l) λa σ1=>bv (pe n c ρ σ1 r.1) λb σ2=>bo (fe o.1 a b) λv=>cond v (bv (pe n c ρ σ2 r.2) λd σ3=>bo (fe o.2 b d) λv=>some (v,σ3)) (some (false,σ2))))
  | e=>bp (pe n c ρ σ e) λp σ1=>bo (xD σ1 p) λb=>some (b,σ1)
noncomputable def pall:Nat->aH->ai->S->List Expr->Option (Bool×S)
 | 0,_,_,_,_=>none
 | n+1,c,ρ,σ,es=>match es with
  | []=>some (true,σ)
  | e::r=>bp (pt n c ρ σ e) λb σ1=>cond b (pall n c ρ σ1 r) (some (false,σ1))
noncomputable def pany:Nat->aH->ai->S->List Expr->Option (Bool×S)
 | 0,_,_,_,_=>none
 | n+1,c,ρ,σ,es=>match es with
  | []=>some (false,σ)
  | e::r=>bp (pt n c ρ σ e) λb σ1=>cond b (some (true,σ1)) (pany n c ρ σ1 r)
end
section
variable{α β γ:Type}{C:Prop}{r:γ}
theorem ab{x:Option α}{f:α->Option γ}(h:bo x f=some r)(k:∀a,x=some a->f a=some r->C):C:=match x,h,k with
 | some a,h,k=>k a rfl h
theorem bT{x:Option (α×β)}{f:α->β->Option γ}(h:bp x f=some r)(k:∀a b,x=some (a,b)->f a b=some r->C):C:=match x,h,k with
 | some (a,b),h,k=>k a b rfl h
theorem aK{b:Bool}{x:Option γ}(h:gd b x=some r)(k:b=true->x=some r->C):C:=match b,h,k with
 | true,h,k=>k rfl h
theorem dn{x:Option α}{f:α->Option γ}{y:Option γ}(h:oc x f y=some r)(k:∀a,x=some a->f a=some r->C)(k0:x=none->y=some r->C):C:=match x,h,k,k0 with
 | some a,h,k,_=>k a rfl h
 | none,h,_,k0=>k0 rfl h
theorem cQ{b:Bool}{x y:Option γ}(h:cond b x y=some r)(k:b=true->x=some r->C)(k0:b=false->y=some r->C):C:=match b,h,k,k0 with
 | true,h,k,_=>k rfl h
 | false,h,_,k0=>k0 rfl h
theorem fA{p:List Nat×PV}{l:ai}{x:List Nat}{t:PV}(h:aB (p::l) x=some t)(k:ax p.1 x=true->some p.2=some t->C)(k0:aB l x=some t->C):C:=cQ h k λ_=>k0
theorem jU{p:PV}{a:AV}(h:ir p=some a):p=.val a:=bS (P:=λa=>p=.val a) h
theorem cG{x:Option (PV×S)}{f:AV->S->Option γ}(h:bv x f=some r)(k:∀a σ,x=some (.val a,σ)->f a σ=some r->C):C:=
 bT h λp σ e h=>ab h λa ea h=>k a σ (jU ea▸e) h
@[elab_as_elim] theorem gZ{x:Option AV}{σ σ':S}{t:PV}{C:PV->S->Prop}(h:vo σ x=some (t,σ'))(k:∀a,x=some a->C (.val a) σ):C t σ':=
 ab h λa ea h=>by (injection h with zi;injection zi with zj zk;subst zj zk);exact k a ea
@[elab_as_elim] theorem aA{a b:α}{C:α->Prop}(e:a=b)(k:C b):C a:=e▸k
@[elab_as_elim] theorem aL{a b:α}{C:α->Prop}(h:some a=some b)(k:C a):C b:=W9 h▸k
@[elab_as_elim] theorem ck{a a':α}{b b':β}{C:α->β->Prop}(h:some (a,b)=some (a',b'))(k:C a b):C a' b':=by (injection h with zi;injection zi with zj zk;subst zj zk);exact k
theorem ba{x:Option α}{f:α->Option γ}{a:α}{z:Option γ}(h:x=some a)(k:f a=z):bo x f=z:=h▸k
theorem bs{x:Option (α×β)}{f:α->β->Option γ}{a:α}{b:β}{z:Option γ}(h:x=some (a,b))(k:f a b=z):bp x f=z:=h▸k
theorem cV{b:Bool}{x z:Option γ}(h:b=true)(k:x=z):gd b x=z:=h▸k
theorem lL{x:Option α}{f:α->Option γ}{y z:Option γ}{a:α}(h:x=some a)(k:f a=z):oc x f y=z:=h▸k
theorem fB{x:Option α}{f:α->Option γ}{y z:Option γ}(h:x=none)(k:y=z):oc x f y=z:=h▸k
theorem dz{x:Option (PV×S)}{f:AV->S->Option γ}{a:AV}{σ:S}{z:Option γ}(h:x=some (.val a,σ))(k:f a σ=z):bv x f=z:=(congrArg (bv · f) h).trans k
theorem lM{x:Option AV}{σ:S}{a:AV}(h:x=some a):vo σ x=some (.val a,σ):=h▸rfl
theorem kK{b:Bool}{x y z:Option γ}(h:b=true)(k:x=z):cond b x y=z:=h▸k
theorem gE{b:Bool}{x y z:Option γ}(h:b=false)(k:y=z):cond b x y=z:=h▸k
end
theorem iR{a:AV}{x:List Nat}(h:dJ a=some x):a=.str x:=bS (P:=λx=>a=.str x) h
theorem pU{a:AV}{x:Int}(h:eF a=some x):a=.int x:=bS (P:=λi=>a=.int i) h
theorem HW{a:AV}{x:List AV}(h:kr a=some x):a=.lst x:=bS (P:=λl=>a=.lst l) h
theorem xE{a:AV}{x:List AV}(h:lB a=some x):a=.tup x:=bS (P:=λl=>a=.tup l) h
theorem HX{a:AV}{x:List Nat}(h:w8 a=some x):a=.pat x:=bS (P:=λx=>a=.pat x) h
theorem HY{a:AV}{x:Nat}(h:jk a=some x):a=.idx x:=bS (P:=λk=>a=.idx k) h
theorem HZ{a:AV}{x:Bool}(h:pI a=some x):a=.bool x:=bS (P:=λb=>a=.bool b) h
theorem H0{a:AV}{x:Nat}(h:xc a=some x):a=.op x:=bS (P:=λk=>a=.op k) h
theorem lN{i:Int}{x:Nat}(h:ks i=some x):i=.ofNat x:=bS (P:=λn=>i=.ofNat n) h
theorem xF{a:AV}{x:Nat}(h:lC a=some x):a=.int (.ofNat x):=ab h λ_ e h=>lN h▸pU e
theorem xG{n x:Nat}(h:sJ n=some x):n=x+1:=bS (P:=λb=>n=b+1) h
theorem nV{p:PV}{q:Nat}(h:kx p=some q):p=.cell q:=bS (P:=λq=>p=.cell q) h
theorem H5{p:PV}{q:Nat}(h:nK p=some q):p=.app q:=bS (P:=λq=>p=.app q) h
theorem H6{p:PV}{i:Int}(h:ky p=some i):p=.val (.int i):=ab h λ_ e h=>pU h▸jU e
theorem dT{α:Type}{l:List α}{a:α}(h:cu l=some a):l=[a]:=bS (P:=λa=>l=[a]) h
theorem jV{α:Type}{l:List α}{p:α×α}(h:jN l=some p):l=[p.1,p.2]:=bS (P:=λ(p:α×α)=>l=[p.1,p.2]) h
theorem xH{α:Type}{l:List α}{p:α×α×α}(h:sN l=some p):l=[p.1,p.2.1,p.2.2]:=bS (P:=λ(p:α×α×α)=>l=[p.1,p.2.1,p.2.2]) h
theorem nW{α:Type}{l:List α}{p:α×List α}(h:nO l=some p):l=p.1::p.2:=bS (P:=λ(p:α×List α)=>l=p.1::p.2) h
theorem jv{α:Type}:∀{l:List α},l.isEmpty=true->l=[]
 | [],_=>rfl
theorem iS{e:Expr}{x:Str}(h:iL e=some x):∃p,e=.Name x p:=bS (P:=λx=>∃p,e=.Name x p) h
theorem sZ{e:Expr}{q:Expr×Str×Pos}(h:pJ e=some q):e=.Attribute q.1 q.2.1 q.2.2:=bS (P:=λ(q:Expr×Str×Pos)=>e=.Attribute q.1 q.2.1 q.2.2) h
theorem nX{e:Expr}{x:List Nat}(h:pK e=some x):∃s k p,e=.Constant (.str s) k p/\nm s=x:=bS (P:=λx=>∃s k p,e=.Constant (.str s) k p/\nm s=x) h
theorem H7{e:Expr}{q:Option Expr×Option Expr×Option Expr}(h:sE e=some q):∃p,e=.Slice q.1 q.2.1 q.2.2 p:=bS (P:=λ(q:Option Expr×Option Expr×Option Expr)=>∃p,e=.Slice q.1 q.2.1 q.2.2 p) h
theorem xI{e:Expr}{q:Expr×List Expr×Pos}(h:sQ e=some q):e=.Call q.1 q.2.1 [] q.2.2:=bS (P:=λ(q:Expr×List Expr×Pos)=>e=.Call q.1 q.2.1 [] q.2.2) h
theorem H8{e:Expr}{q:Arguments×YM}(h:xz e=some q):∃b p,e=.Lambda q.1 b q.2 p:=bS (P:=λ(q:Arguments×YM)=>∃b p,e=.Lambda q.1 b q.2 p) h
theorem H9{e:Expr}{q:Expr×List Zy×YM}(h:xA e=some q):∃p,e=.GeneratorExp q.1 q.2.1 q.2.2 p:=bS (P:=λ(q:Expr×List Zy×YM)=>∃p,e=.GeneratorExp q.1 q.2.1 q.2.2 p) h
theorem Ia{e q:Expr}(h:xB e=some q):∃p,e=.FormattedValue q (-1) none p:=bS (P:=λq=>∃p,e=.FormattedValue q (-1) none p) h
noncomputable def Ib:Expr->Option (List Expr)
 | .Tuple ts _ _=>some ts
 | .List ts _=>some ts
 | _=>none
noncomputable def Ic:Expr->Option (List Expr)
 | .Tuple ts _ _=>some ts
 | _=>none
noncomputable def xJ(l:List Expr)(v:Expr):Option (List Expr×List Expr):=bo (cu l) λt=>bo (Ib t) λts=>bo (Ic v) λvs=>some (ts,vs)
set_option backward.match.sparseCases true in
noncomputable def xK:Expr->Bool
 | .Starred ..=>true
 | _=>false
set_option backward.match.sparseCases true in
noncomputable def mF(sc:YM)(line:Nat):Expr->Option Str
 | .Name id pos=>if sc.names.lookup id==some .local&&pos.line==line then some id else none
 | _=>none
noncomputable def pV(sc:YM)(ts:List Expr):List Str:=ts.filterMap (mF sc ((ts.head?.map (·.pos.line)).getD 0))
noncomputable def Id(sc:YM)(ts vs:List Expr):Option (Option (List Str)):=
 cond (!(ts.length==2||ts.length==3)||vs.length != ts.length) (some none) (cond (vs.any xK) (some none)
  (cond ((pV sc ts).length != ts.length||(pV sc ts).eraseDups.length != (pV sc ts).length) (some none)
   (cond (vs.all (foldedForSure 8)) (some none) (cond (vs.all (constantsAlone 8)) none (some (some (pV sc ts)))))))
noncomputable def pW(sc:YM)(targets:List Expr)(value:Expr):Option (Option (List Str)):=oc (xJ targets value) (λq=>Id sc q.1 q.2) (some none)
noncomputable def Ie:Z8->Bool
 | .Add=>true
 | _=>false
noncomputable def pX(o:Z8)(a b:AV):Option AV:=gd (Ie o&&(kr a).isNone) (sI b a)
noncomputable def Ig(ρ:ai)(x:Str):Option PV:=gd (!ax (nm x) eM) (aB ρ (nm x))
noncomputable abbrev R3:=Option (bG×ai×S)
noncomputable def b3(x:R3)(f:bG->ai->S->R3):R3:=match x with | some (o,ρ,σ)=>f o ρ σ | none=>none
noncomputable def xL:bG->Option bG
 | .next=>none
 | .cont=>none
 | .brk=>some .next
 | .ret v=>some (.ret v)
noncomputable def tc:bG->Bool
 | .next=>true
 | _=>false
noncomputable def gn(step:AV->ai->S->R3):List AV->ai->S->R3
 | [],ρ,σ=>some (.next,ρ,σ)
 | t::ts,ρ,σ=>b3 (step t ρ σ) λo ρ1 σ1=>oc (xL o) (λo=>some (o,ρ1,σ1)) (gn step ts ρ1 σ1)
noncomputable def kL:List Nat:=[95,65,99,99,117,109,117,108,97,116,111,114]
noncomputable def nY(c:aH)(ρ:ai)(x:Str)(v:PV)(σ:S):R3:=bo (eN c.sc ρ x v) λρ1=>some (.next,ρ1,σ)
noncomputable def td(n:Nat)(c:aH)(ρ:ai)(σ:S)(x:Str)(e:Expr):R3:=bv (pe n c ρ σ e) λv σ1=>nY c ρ x (.val v) σ1
noncomputable def xM(e:Expr):Option (List Expr×Pos):=un (P:=λq=>e=.List q.1 q.2) (match e with
 | .List ts p=>some ⟨(ts,p),rfl⟩
 | _=>none)
noncomputable def th(e:Expr):Bool:=match xM e with
 | some q=>q.1.isEmpty
 | none=>false
theorem Ih{e:Expr}(h:th e=true):∃lp,e=.List [] lp:=by
 unfold th at h;cases q:xM e with
 | none=>rw[q]at h;exact eE h
 | some z=>rw[q]at h;exact⟨z.2,jv h▸bS (P:=λ(q:List Expr×Pos)=>e=.List q.1 q.2) q⟩
noncomputable def tm(ρ:ai)(c:aH)(e:Expr):Option (Option Expr):=oc (sQ e) (λq=>oc (iL q.1) (λf=>bo (cu q.2.1) λz=>gd (ax (nm f) kL&&(aB ρ (nm f)).isNone&&jT (gm c.sc (nm f))) (some (some z))) (some none)) (some none)
noncomputable def to(e:Expr):Option (Str×Str):=bo (pJ e) λq=>bo (iL q.1) λr=>some (r,q.2.1)
noncomputable def mG(ρ:ai)(x:Str):Option Nat:=bo (Ig ρ x) kx
noncomputable def lO(σ:S)(q:Nat):Option (List AV):=bo (bP σ q) my
noncomputable def xN(n:Nat)(c:aH)(ρ:ai)(σ:S)(x:Str)(e:Expr):R3:=cond (inL (nm x) c.own)
 (cond (th e) (nY c ρ x (.cell σ.length) (σ++[⟨none,[]⟩])) (bo (tm ρ c e) λz=>oc z (λz=>bv (pe n c ρ σ z) λa σ1=>bo (eF a) λi=>nY c ρ x (.cell σ1.length) (σ1++[⟨some i,[]⟩])) (td n c ρ σ x e)))
 (oc (to e) (λq=>bo (mG ρ q.1) λk=>gd (ax (nm q.2) jP) (bo (lO σ k) λ_=>nY c ρ x (.app k) σ)) (td n c ρ σ x e))
noncomputable def xO(x:Option ai)(σ:S):R3:=bo x λρ=>some (.next,ρ,σ)
noncomputable def xQ(n:Nat)(c:aH)(ρ:ai)(σ:S)(t:Expr)(ts:List Expr)(e:Expr):R3:=bo (jR ts) λxs=>bv (pe n c ρ σ e) λa σ1=>bo (lB a) λvs=>bo (pW c.sc [t] e) λw=>
 oc w (λnames=>xO (ju c.sc ρ names.reverse vs.reverse) σ1) (xO (ju c.sc ρ xs vs) σ1)
noncomputable def tt(ρ:ai)(σ:S)(q:Nat)(l:List AV):R3:=some (.next,ρ,dg σ q ⟨none,l⟩)
noncomputable def tu(n:Nat)(c:aH)(ρ:ai)(σ:S)(x:Str)(i e:Expr):R3:=bo (mG ρ x) λq=>bv (pe n c ρ σ e) λv σ1=>bv (pe n c ρ σ1 i) λk σ2=>bo (lC k) λk=>bo (lO σ2 q) λl=>gd (YU k l.length) (tt ρ σ2 q (dg l k v))
noncomputable def Ii(n:Nat)(c:aH)(ρ:ai)(σ:S)(x:Str)(o:Z8)(e:Expr):R3:=bo (aB ρ (nm x)) λp=>bo (ir p) λa=>bv (pe n c ρ σ e) λb σ1=>bo (pX o a b) λv=>nY c ρ x (.val v) σ1
noncomputable def xS(n:Nat):Int->Option Nat
 | .ofNat j=>some j
 | .negSucc m=>gd (YU m n) (some (n-(m+1)))
noncomputable def xT(n:Nat)(c:aH)(ρ:ai)(σ:S)(x:Str)(i:Expr)(o:Z8)(e:Expr):R3:=bo (mG ρ x) λq=>bv (pe n c ρ σ i) λk σ1=>bo (eF k) λk=>bo (lO σ1 q) λl=>bo (xS l.length k) λj=>bo (bP l j) λa=>
 bv (pe n c ρ σ1 e) λb σ2=>bo (pX o a b) λv=>bo (lO σ2 q) λl2=>gd (XI l2.length l.length) (tt ρ σ2 q (dg l2 j v))
noncomputable def xU(n:Nat)(c:aH)(ρ:ai)(σ:S)(x:Str)(i:Expr):R3:=bo (mG ρ x) λq=>bv (pe n c ρ σ i) λk σ1=>bo (lC k) λk=>bo (lO σ1 q) λl=>gd (YU k l.length) (tt ρ σ1 q (l.take k++l.drop (k+1)))
noncomputable def Ij(e:Expr):Option (Expr×Expr×Pos):=un (P:=λq=>e=.Subscript q.1 q.2.1 q.2.2) (match e with
 | .Subscript v i p=>some ⟨(v,i,p),rfl⟩
 | _=>none)
noncomputable def nZ(e:Expr):Option (Str×Expr):=bo (Ij e) λz=>bo (iL z.1) λx=>some (x,z.2.1)
theorem ty{e:Expr}{q:Str×Expr}(h:nZ e=some q):∃xp sp,e=.Subscript (.Name q.1 xp) q.2 sp:=
 ab h λz hz h=>ab h λx hx h=>aL h (al (iS hx) λxp e1=>(dZ xp z.2.2 (e1▸bS (P:=λ(q:Expr×Expr×Pos)=>e=.Subscript q.1 q.2.1 q.2.2) hz)))
noncomputable def xV:AV->Bool
 | .none=>true
 | _=>false
noncomputable def pY:Expr->Bool
 | .ListComp ..=>false
 | .SetComp ..=>false
 | .DictComp ..=>false
 | _=>true
mutual
noncomputable def pex:Nat->aH->ai->S->Stmt->R3
 | 0,_,_,_,_=>none
 | n+1,c,ρ,σ,st=>match st with
  | .Assign ts e _=>bo (cu ts) λt=>match t with
   | .Name x _=>xN n c ρ σ x e
   | .Tuple es _ _=>xQ n c ρ σ t es e
   | _=>bo (nZ t) λq=>tu n c ρ σ q.1 q.2 e
  | .AugAssign t o e _=>oc (iL t) (λx=>Ii n c ρ σ x o e) (bo (nZ t) λq=>xT n c ρ σ q.1 q.2 o e)
  | .Delete ts _=>bo (cu ts) λt=>bo (nZ t) λq=>xU n c ρ σ q.1 q.2
  | .If t b o _=>bp (pt n c ρ σ t) λr σ1=>pst n c ρ σ1 (cond r b o)
  | .While t b els p=>gd els.isEmpty (bp (pt n c ρ σ t) λr σ1=>cond r (b3 (pst n c ρ σ1 b) λo ρ1 σ2=>oc (xL o) (λo=>some (o,ρ1,σ2)) (pex n c ρ1 σ2 (.While t b els p))) (some (.next,ρ,σ1)))
  | .For tg iter b els _=>gd els.isEmpty (bp (pe n c ρ σ iter) λit σ1=>bo (jt it) λts=>gn (λt ρ σ=>bo (eG c.sc tg t ρ) λρ1=>pst n c ρ1 σ b) ts ρ σ1)
  | .Return v _=>bo v λe=>bp (pe n c ρ σ e) λv σ1=>some (.ret v,ρ,σ1)
  | .Assert t msg _=>gd msg.isNone (bp (pt n c ρ σ t) λr σ1=>gd r (some (.next,ρ,σ1)))
  | .Break _=>some (.brk,ρ,σ)
  | .Continue _=>some (.cont,ρ,σ)
  | .Pass _=>some (.next,ρ,σ)
  | .Expr e _=>bv (pe n c ρ σ e) λv σ1=>gd (xV v&&pY e) (some (.next,ρ,σ1))
  | _=>none
noncomputable def pst:Nat->aH->ai->S->List Stmt->R3
 | 0,_,_,_,_=>none
 | n+1,c,ρ,σ,sts=>match sts with
  | []=>some (.next,ρ,σ)
  | st::r=>b3 (pex n c ρ σ st) λo ρ1 σ1=>cond (tc o) (pst n c ρ1 σ1 r) (some (o,ρ1,σ1))
end
noncomputable def am(i:Nat):Stmt:=PySem.Challenge.pw_in0055_01.main.body.getD i (.Pass default)
noncomputable def bt:Stmt->List Stmt
 | .FunctionDef _ _ b _ _ _ _ _ _ _=>b
 | _=>[]
noncomputable def aF:Stmt->YM
 | .FunctionDef _ _ _ _ _ _ s _ _ _=>s
 | _=>default
noncomputable def aN:Addr:=118
noncomputable def d8:Str:=YA "_initial_size"
noncomputable def Kn(K:Frag):Frag:=K.filter λp=>!(XI p.1 80||XI p.1 87||XI p.1 148||XI p.1 193)
noncomputable def Ik(d:Data):Option ClassData:=un (P:=λx=>d=.cls x) (match d with
 | .cls x=>some ⟨x,rfl⟩
 | _=>none)
noncomputable def tz(K:Frag)(C:Addr):Bool:=(bo (K.lookup C) λo=>bo (Ik o.data) λcd=>gd (!cd.abstract&&!cd.hasDel&&(o.slots.toList[4]?).join==some (.builtin "list.__new__")&&!cd.mro.isEmpty&&cd.mro.contains (.ref C)&&cd.mro.contains (.type "list")&&
   specialIn K (.ref C) "__call__" == some (some (.builtin "type.__call__"))&&instIn K (.ref C) (.type "type")==some true) (some ())).isSome
noncomputable def Il:Stmt->List Stmt
 | .ClassDef _ _ _ b _ _ _ _ _ _ _=>b
 | _=>[]
noncomputable def bc(i:Nat):Stmt:=(Il (am 4)).getD i (.Pass default)
noncomputable def aU:Stmt->Arguments
 | .FunctionDef _ a _ _ _ _ _ _ _ _=>a
 | _=>⟨[],[],none,[],[],none,[]⟩
noncomputable def mH:Array Nat:=#[14,14,4,1,1,9,0,64,0,1342177280,0,0,0,0,0,17,0,13,11,9,0,64,0,1342177280,0,0,0,0,0,17,1,1]
noncomputable def pZ:List Nat:=[101,115,99,97,112,101]
noncomputable def qa:List Nat:=[95,108,97,119,95,107,105,110,100,115]
noncomputable def jW:List Nat:=[95,108,97,119,95,100,114,97,119]
noncomputable def kM:List Nat:=[95,108,97,119,95,109,101,97,110,116]
noncomputable def jX:List Nat:=[95,108,97,119,95,102,105,114,115,116]
noncomputable def n3:List Nat:=[95,108,97,119,95,99,117,116]
noncomputable def n4:List Nat:=[95,108,97,119,95,116,97,107,101,115]
noncomputable def kN:List Nat:=[95,108,97,119,95,116,104,114,111,117,103,104]
noncomputable def mI:List Nat:=[95,108,97,119,95,112,108,97,99,101,115]
noncomputable def iT:List Nat:=[95,116,114,97,110,115,108,97,116,101]
noncomputable def kO:List Nat:=[116,114,97,110,115,108,97,116,101]
noncomputable def mJ:List Nat:=[95,106,111,105,110,95,116,114,97,110,115,108,97,116,101,100,95,112,97,114,116,115]
noncomputable def jw:List Nat:=[97,98,46,92,10]
noncomputable def em(h:Heap):Frag:=(Xr 221).filterMap λa=>(h.get? a).map λo=>(a,o)
noncomputable abbrev tD:=W2×FuncBody×Arguments×YM×List (Str×Addr)×Addr×Addr×W2×W2×Bool
noncomputable def Im(d:Data):Option Yz:=un (P:=λx=>d=.func x) (match d with
 | .func x=>some ⟨x,rfl⟩
 | _=>none)
noncomputable def xW(d:Data):Option (Array W2):=un (P:=λx=>∃n,d=.seq x n) (match d with
 | .seq x n=>some ⟨x,n,rfl⟩
 | _=>none)
noncomputable def xX(d:Data):Option (Array W2):=un (P:=λx=>d=.fields x) (match d with
 | .fields x=>some ⟨x,rfl⟩
 | _=>none)
noncomputable def Io(d:Data):Option (Option W2):=un (P:=λx=>d=.cell x) (match d with
 | .cell x=>some ⟨x,rfl⟩
 | _=>none)
noncomputable def xY(d:Data):Option (Array ZS):=un (P:=λx=>∃p,d=.dict x p) (match d with
 | .dict x p=>some ⟨x,p,rfl⟩
 | _=>none)
noncomputable def Ip(d:Data):Option Unit:=un (P:=λ_=>d=.plain) (match d with
 | .plain=>some ⟨(),rfl⟩
 | _=>none)
noncomputable def xZ(v:W2):Option Addr:=un (P:=λa=>v=.ref a) (match v with
 | .ref a=>some ⟨a,rfl⟩
 | _=>none)
noncomputable def mK(v:W2):Option (Str×Tok):=un (P:=λz=>v=.str z.1 z.2) (match v with
 | .str s t=>some ⟨(s,t),rfl⟩
 | _=>none)
noncomputable def x8(v:W2):Option Int:=un (P:=λk=>∃t,v=.int k t) (match v with
 | .int k t=>some ⟨k,t,rfl⟩
 | _=>none)
noncomputable def bZ(prog:Y3)(N:Frag)(a:Addr):Option tD:=bo (N.lookup a) λo=>bo (Im o.data) λfd=>bo (xZ fd.code) λcd=>bo (N.lookup cd) λoc=>bo (xX oc.data) λvs=>bo (vs[1]?) λq=>bo (mK q) λq=>bo (vs[2]?) λf=>bo (mK f) λf=>
 some (o.cls,fd.body,fd.params,fd.scope,fd.closure,fd.globals,fd.builtins,fd.defaults,fd.code,ax (nm q.1) (nm fd.qualname)&&(prog.main.file==f.1))
noncomputable def b0(st:Stmt)(cl:List (Str×Addr))(dv:W2)(cd:Addr):Option tD:=some (.type "function",.stmts (bt st),aU st,aF st,cl,Xj,Yi,dv,.ref cd,true)
noncomputable def qc(N:Frag)(d:Addr):Option Nat:=bo (N.lookup d) λo=>bo (xW o.data) λxs=>some xs.size
noncomputable def x9:List Str:=["super","len","range","sum","str","iter","isinstance","object"]
noncomputable def ya:List (List Nat×Addr):=[(kL,aN),(kO,134),(pZ,146),(iT,153),(mJ,160),(qa,174),(jW,179),(kM,184),(jX,191),(mI,198),(n3,203),(n4,210),(kN,215),(kE,127),
 ((YA "_initial_missing").cps.toList,161),((YA "reduce").cps.toList,169),((YA "_special_chars_map").cps.toList,136),((YA "__builtins__").cps.toList,4)]
noncomputable def tF(v:Option (Option W2)):Option (List Nat):=bo v λu=>bo u λy=>bo (mK y) λz=>some (nm z.1)
noncomputable def yb(N:Frag)(a:Addr):Option (List Nat):=bo (N.lookup a) λo=>bo (xW o.data) λxs=>some ((xs.map Xp.Re.reRawOf).map (·.toNat)).toList
noncomputable def yc(N:Frag)(a:Addr):Option (W2×Option Addr×W2×Nat×Nat):=bo (N.lookup a) λo=>bo (xX o.data) λvs=>some (o.cls,o.dict,vs.getD 5 .none,Xp.Re.reRawNat (vs.getD 6 .none),Xp.Re.reRawNat (vs.getD 2 .none))
noncomputable def tG(N:Frag)(a:Addr):Option (W2×Option Addr):=bo (N.lookup a) λo=>bo (Ip o.data) λ_=>some (o.cls,o.dict)
noncomputable def tH(N:Frag)(a:Addr):Option W2:=bo (N.lookup a) λo=>bo (Io o.data) λv=>v
noncomputable def yd(N:Frag)(a:Addr):Option (List W2×Bool×Bool×Str):=bo (clsIn N a) λcd=>some (cd.mro,cd.hasDict,cd.hasDel,cd.qualname)
noncomputable def tI(e:ZS):Bool:=(x8 e.key).any λk=>decide (e.hash=hashInt k)
noncomputable def n5(es:Array ZS)(n:Nat):Option (List Nat):=bo (findBy ZB es (.ofNat n)) λv=>some ((mK v).elim [] λz=>nm z.1)
noncomputable def ye(N:Frag)(a:Addr):Option (W2×Option Addr×Nat×Bool×List (Option (List Nat))):=bo (N.lookup a) λo=>bo (xY o.data) λes=>some (o.cls,o.dict,o.slots.size,es.toList.all tI,jw.map (n5 es))
noncomputable def tJ(N:Frag):Bool:=(bo (N.lookup Xj) λo=>bo (xY o.data) λ_=>some ()).isSome
noncomputable abbrev be:=List (Option tD)×List (Option (Option W2))×List Bool×List (Option Nat)×(Option (List Nat)×Option (List W2×Bool×Bool×Str)×List (Option W2))×(Option (List Nat)×Option (W2×Option Addr×W2×Nat×Nat)×Option (W2×Option Addr)×Option (W2×Option Addr×Nat×Bool×List (Option (List Nat))))×List (Option Obj)
noncomputable def aX(prog:Y3)(K:Frag)(N:Frag):be:=
 ([bZ prog N 55,bZ prog N 62,bZ prog N 70,bZ prog N 78,bZ prog N 85,bZ prog N 92,bZ prog N 115,bZ prog N 134,bZ prog N 146,bZ prog N 153,bZ prog N 160,bZ prog N 169,bZ prog N 174,bZ prog N 179,bZ prog N 184,bZ prog N 191,bZ prog N 198,bZ prog N 203,bZ prog N 210,bZ prog N 215,bZ prog N 220],
  [YS N (.ref aN) "__getattribute__",YS N (.ref aN) "__getattr__",YS N (.ref aN) "__getitem__",YS N (.ref aN) "__setitem__",YS N (.ref aN) "append",YS N (.ref aN) "__setattr__",YS N (.ref aN) "__init__",YS N (.ref aN) "push",YS N (.ref aN) "pop_from",YS N (.ref aN) "pop",YS N (.ref aN) "__len__",YS N (.ref aN) "__str__",YS N (.ref aN) "part_count",YS N (.ref aN) "__iter__",YS N (.ref aN) d8,
  nsIn N cStatics "thirdparty.any",alongIn N "pop" [.type "list",.type "object"],alongIn N "__len__" [.type "list",.type "object"],alongIn N "__init__" [.type "list",.type "object"]]++(ya.map λp=>nsIn N Xj ⟨⟨p.1⟩⟩)++(x9.map λx=>nsIn N Xj x),
  [tz N aN,noSeq N aN,mroIn N aN (.type "list")==some true,mroIn N aN (.type "object")==some true,codeHdIn N 84 80,codeHdIn N 91 87,codeHdIn N 152 148,codeHdIn N 197 193,tJ N],
  [qc N 47,qc N 63,qc N 162],
  (tF (nsIn N Xj "EMPTYSTRING"),yd N aN,[tH N 42,typeIn N (.ref aN)]++[55,62,70,78,85,92,115].map λf=>typeIn N (.ref f)),
  (yb N 126,yc N 127,tG N 4,ye N 136),
  [K.lookup 80,K.lookup 87,K.lookup 148,K.lookup 193])
noncomputable def aY:be:=
 ([b0 (bc 0) [("__class__",42)] (.ref 47) 54,b0 (bc 1) [] .none 61,b0 (bc 2) [] (.ref 63) 69,b0 (bc 3) [("__class__",42)] .none 77,b0 (bc 4) [] .none 84,b0 (bc 5) [] .none 91,b0 (bc 8) [("__class__",42)] .none 114,b0 (am 7) [] .none 133,b0 (am 10) [] .none 145,b0 (am 12) [] .none 152,b0 (am 13) [] .none 159,b0 (am 16) [] (.ref 162) 168,
  b0 (am 18) [] .none 173,b0 (am 19) [] .none 178,b0 (am 20) [] .none 183,b0 (am 21) [] .none 190,b0 (am 22) [] .none 197,b0 (am 23) [] .none 202,b0 (am 24) [] .none 209,b0 (am 25) [] .none 214,b0 (am 26) [] .none 219],
  [some (some (.builtin "list.__getattribute__")),some none,some (some (.builtin "list.__getitem__")),some (some (.builtin "list.__setitem__")),some (some (.builtin "list.append")),some (some (.builtin "object.__setattr__")),some (some (.ref 55)),some (some (.ref 62)),some (some (.ref 70)),some (some (.ref 78)),some (some (.ref 85)),some (some (.ref 92)),some (some (.ref 115)),some (some (.builtin "list.__iter__")),some none,
  some none,some (some (.builtin "list.pop")),some (some (.builtin "list.__len__")),some (some (.builtin "list.__init__"))]++(ya.map λp=>some (some (.ref p.2)))++(x9.map λ_=>some none),
  [true,true,true,true,true,true,true,true,true],
  [some 1,some 1,some 1],
  (some [],some ([.ref aN,.type "list",.type "object"],true,false,YA "_Accumulator"),[some (.ref aN),some (.type "type"),some (.type "function"),some (.type "function"),some (.type "function"),some (.type "function"),some (.type "function"),some (.type "function"),some (.type "function")]),
  (some mH.toList,some (.type "re.Pattern",none,.ref 126,0,1),some (.type "module",some Yi),some (.type "dict",none,0,true,[none,none,some [92,46],some [92,92],some [92,10]])),
  [some (tabObj #[]),some (tabObj #[]),some (tabObj #[]),some (tabObj #[])])
section
open PySem.W.X
noncomputable def tK{α:Type}:List α->Nat->List α
 | [],_=>[]
 | a::_,0=>[a]
 | _::l,n+1=>tK l n
noncomputable abbrev pw:=PySem.Challenge.pw_in0055_01
noncomputable def vw:Y3:={pw with main:={pw.main with body:=tK pw.main.body 0++tK pw.main.body 26}}
noncomputable def loose:List Str:=["__name__","_wall","EMPTYSTRING","_Accumulator","_twin_re_1","translate","_special_chars_map","escape","_translate","_join_translated_parts","_initial_missing","reduce","_law_kinds","_law_draw","_law_meant","_law_first","_law_places","_law_cut","_law_takes","_law_through"]
noncomputable abbrev YT:=be×Option (Option W2)×Bool
noncomputable def tL(s:Xd):YT:=(aX pw (em s.heap) (Kn (em s.heap)),nsIn (Kn (em s.heap)) Xj "law",YG 1 s.toks)
noncomputable def tM:YT:=(aY,some (some (.ref 220)),true)
theorem Iq:PySem.Challenge.rw_in0055_01.wellSaid=true:=by rfl'
noncomputable def tN(tb:String->Option Xp)(p:Y3)(w:aal):Nat->SharedT->Thread->Option SharedT
 | 0,_,_=>none
 | n+1,s,t=>oc t.atExitBegin (λl=>gd l.isEmpty (some s)) (bo (stepT (denote tb) p w s t) λr=>tN tb p w n r.1 r.2)
noncomputable def tO(tb:String->Option Xp)(p:Y3)(w:aal)(m:Nat)(ann:Option W2):Nat->SharedT->Thread->Option SharedT
 | 0,_,_=>none
 | n+1,s,t=>cond (through t) (some s) (gd (stepOk m ann t) (bo (stepT (denote tb) p w s t) λr=>tO tb p w m ann n r.1 r.2))
section
variable{tb:String->Option Xp}{p:Y3}
theorem yf:∀{n:Nat}{s r:SharedT}{t:Thread},tN tb p w n s t=some r->importEnds tb p w n s.abs t=some r.abs
 | 0,_,_,_,h=>nomatch h
 | n+1,s,r,t,h=>by
  unfold importEnds;refine dn (h:oc t.atExitBegin (λl=>gd l.isEmpty (some s)) _=some r) (λl ht h=>aK h λhl h=>?_) λht h=>ab h λq hq h=>?_
  ·rw[ht,List.isEmpty_iff.mp hl];exact congrArg (Option.map SharedT.abs) h
  ·rw[ht];dsimp only;rw[stepT_spec hq];exact yf h
theorem yg{m:Nat}{ann:Option W2}:∀{n:Nat}{s r:SharedT}{t:Thread},tO tb p w m ann n s t=some r->topRun tb p w m ann n s.abs t=some r.abs
 | 0,_,_,_,h=>nomatch h
 | n+1,s,r,t,h=>by
  unfold topRun;refine cQ (show cond (through t) (some s) _=some r from h) (λht h=>?_) λht h=>?_
  ·rw[ht];exact congrArg (Option.map SharedT.abs) h
  ·rw[ht];refine aK h λhk h=>ab h λq hq h=>?_;dsimp only;rw[hk,stepT_spec hq];exact yg h
end
noncomputable def yh(m:Str)(s:Xd):Option (Addr×Obj):=bo (boundIn s.heap sysModules m) λv=>bo (xZ v) λa=>bo (tameNamesOf? m) λrow=>bo (s.heap.get? a) λo=>bo o.dict λD=>bo (s.heap.get? D) λod=>bo (fenceDict? m row od) λx=>some (D,x)
theorem Ir{m:Str}{s:Xd}{q:Addr×Obj}(h:yh m s=some q):fenceModule? m s=some {s with heap:=s.heap.update q.1 λ_=>q.2}:=
 ab h λv hv h=>ab h λa ha h=>ab h λrow hr h=>ab h λo ho h=>ab h λD hD h=>ab h λod hod h=>ab h λx hx h=>by
  cases W9 h;unfold fenceModule?;rw[hv,bS (P:=λa=>v=.ref a) ha,hr];dsimp only;rw[ho];dsimp only;rw[hD];dsimp only;rw[hod];dsimp only;rw[hx];rfl
noncomputable def S0:SharedT:=⟨.nil,0,(start (opening pw)).1.heap.life,#[],(start (opening pw)).1.drawn,(start (opening pw)).1.toks,(start (opening pw)).1.os⟩
noncomputable def gG(s:SharedT)(q:Addr×Obj):SharedT:={s with tree:=s.tree.set q.1 λ_=>q.2}
noncomputable abbrev yi(s:Xd):=xlAt vw [] s&&recOk [] s
noncomputable def It(w:aal):=bo (tN treeTable (opening pw) w 4904 S0 (start (opening pw)).2) λs=>bo (yh "_sre" s.abs) λq=>bo (s.tree.get q.1) λ_=>
 gd ((gG s q).abs.heap.isNs Xj&&(gG s q).gens.size==0) (bo (tO treeTable pw w s.n ((gG s q).abs.heap.nsMap Xj "__annotations__") 4904 (gG s q) (topStub pw)) λs1=>
  some (staticsOk (importedModules pw.main.body) (gG s q).abs.heap s1.abs.heap&&namesBound pw s1.abs.heap&&gensDone s1.abs&&laidKept (gG s q).abs.heap s1.abs.heap,openSeen vw loose (importedModules pw.main.body) yi true s1.abs,tL s1.abs))
noncomputable abbrev lP(w:aal):Prop:=It w=some (true,openGood vw loose,tM)
theorem Iu(w:aal):lP ((w.withFollow "comprehension-iter-twice" false).withFollow "special-get-raises" false):=by rfl'
theorem Iw(w:aal):lP ((w.withFollow "comprehension-iter-twice" true).withFollow "special-get-raises" false):=by rfl'
theorem Ix(w:aal):lP ((w.withFollow "comprehension-iter-twice" false).withFollow "special-get-raises" true):=by rfl'
theorem Iy(w:aal):lP ((w.withFollow "comprehension-iter-twice" true).withFollow "special-get-raises" true):=by rfl'
theorem Iz:∀w,lP w:=
 byRow2 "special-get-raises" (byRow2 (P:=λw=>lP (w.withFollow "special-get-raises" false)) "comprehension-iter-twice" Iu Iw) (byRow2 (P:=λw=>lP (w.withFollow "special-get-raises" true)) "comprehension-iter-twice" Ix Iy)
theorem IA:importedModules pw.main.body=[YA "_sre"]:=by decide +kernel
theorem IB:pw.main.body.any namesNumpy=false:=by decide +kernel
theorem IE(s:Xd):fenceModules? pw s=(fenceModule? "_sre" s).bind some:=by
 unfold fenceModules?;rw[IA,IB];show((fenceModule? "_sre" s).bind some).bind some=_;cases fenceModule? "_sre" s<;>rfl
theorem tQ:LeftO pw vw loose yi tL (λ_=>tM) 4904:=λw=>
 ab (Iz w) λs hs h=>ab h λq hq h=>ab h λo ho h=>aK h λhg h=>ab h λs1 h1 h=>by
  have e:=Xv (W9 h);have e2:=Xv e.2;have hf:s.abs.heap.update q.1 (λ_=>q.2)=(gG s q).abs.heap:=(absHeap_set ho).symm;have A:fencedOpening treeTable pw w 4904=some (gG s q).abs:=by
   refine(congrArg (Option.bind · (fenceModules? pw)) (yf hs)).trans ((IE _).trans ((congrArg (Option.bind · some) (Ir hq)).trans ?_));rw[hf];rfl
  have B:=yg h1;unfold openEnds;rw[A];show(topFrom treeTable pw w 4904 (gG s q).abs).map _=_;unfold topFrom;rw[show((gG s q).abs.heap.isNs Xj&&(gG s q).abs.gens.size==0)=true from hg];dsimp only;rw[show(gG s q).abs.heap.objs.size=s.n from absHeap_size ..,B];show Option.map _ (match (staticsOk (importedModules pw.main.body) (gG s q).abs.heap s1.abs.heap&&namesBound pw s1.abs.heap&&gensDone s1.abs&&laidKept (gG s q).abs.heap s1.abs.heap) with | true=>some s1.abs | false=>none)=_;rw[e.1];exact congrArg some (Prod.ext e2.1 e2.2)
end
theorem aW:∀{a b:List Nat},ax a b=true↔a=b
 | [],[]=>iff_of_true rfl rfl
 | a::l,b::m=>by
  show cond (XI a b) (ax l m) false=true↔_;cases h:XI a b with
  | true=>exact XF h▸aW.trans ⟨congrArg _,λe=>(List.cons.inj e).2⟩
  | false=>exact iff_of_false YQ λe=>Nat.ne_of_beq_eq_false h (List.cons.inj e).1
 | [],_::_=>iff_of_false YQ nofun
 | _::_,[]=>iff_of_false YQ nofun
theorem yj(a b:List Nat):ax a b=(a==b):=by
 rw[ZI,aW,beq_iff_eq]
theorem cF{x y:Str}(h:nm x=nm y):x=y:=by
 obtain⟨⟨x⟩⟩:=x;obtain⟨⟨y⟩⟩:=y;have:x=y:=h;refine aa this ?_;rfl
structure aj where
 θ:Nat->W2
 ex:Addr->Prop
 cells:List Addr
 P:Nat
 pre:List Nat
 fr:Addr->Prop
mutual
noncomputable def ao(c:aj)(h:Heap):AV->W2->Prop
 | .none,v=>v=.none
 | .bool b,v=>v=.bool b
 | .int i,v=>∃t,v=.int i t
 | .str x,v=>x.length<=aD/\∃t,v=.str ⟨⟨x⟩⟩ t
 | .tup l,v=>∃a vs n,v=.ref a/\¬c.ex a/\h.get? a=some {cls:=.type "tuple",data:=.seq ⟨vs⟩ n}/\l.length<=aD/\aq c h l vs
 | .lst l,v=>∃a vs n,v=.ref a/\¬c.ex a/\h.get? a=some {cls:=.type "list",data:=.seq ⟨vs⟩ n}/\l.length<=aD/\aq c h l vs
 | .op k,v=>v=c.θ k
 | .idx k,v=>∃t,v=.int (.ofNat (c.P+k)) t
 | .pat r,v=>c.pre.length=c.P/\(c.pre++r).length<=aD/\∃t,v=.str ⟨⟨c.pre++r⟩⟩ t
 | .lpat r,v=>∃a us vs n,v=.ref a/\¬c.ex a/\h.get? a=some {cls:=.type "list",data:=.seq ⟨us++vs⟩ n}/\us.length=c.P/\(us++vs).length<=aD/\aq c h r vs
noncomputable def aq(c:aj)(h:Heap):List AV->List W2->Prop
 | [],vs=>vs=[]
 | t::ts,vs=>∃v r,vs=v::r/\ao c h t v/\aq c h ts r
end
noncomputable def dK(o:Obj):Prop:=match o.data with
 | .dict _ _=>False
 | .cell _=>False
 | _=>o.cls≠.none
noncomputable def b6(c:aj)(h h':Heap):Prop:=∀b o,h.get? b=some o->¬c.ex b->dK o->h'.get? b=some o
theorem b6.refl(c:aj)(h:Heap):b6 c h h:=λ_ _ e _ _=>e
theorem mM{T:String}{xs:Array W2}{n:Nat}:dK {cls:=.type T,data:=.seq xs n}:=by nofun
mutual
theorem ao.keep{c:aj}{h h':Heap}(k:b6 c h h'):∀{t:AV}{v:W2},ao c h t v->ao c h' t v
 | .none,_,r=>r
 | .bool _,_,r=>r
 | .int _,_,r=>r
 | .str _,_,r=>r
 | .tup _,_,zp1=>by
  exact b5 zp1 λa vs n e x g z r=>(dS a vs n e x (k _ _ g x mM) z (aq.keep k r))
 | .lst _,_,zp2=>by
  exact b5 zp2 λa vs n e x g z r=>(dS a vs n e x (k _ _ g x mM) z (aq.keep k r))
 | .op _,_,r=>r
 | .idx _,_,r=>r
 | .pat _,_,r=>r
 | .lpat _,_,zp3=>by
  exact jh zp3 λa us vs n zc0=>jM zc0 λe x g y z r=>⟨a,us,vs,n,e,x,k _ _ g x mM,y,z,aq.keep k r⟩
theorem aq.keep{c:aj}{h h':Heap}(k:b6 c h h'):∀{ts:List AV}{vs:List W2},aq c h ts vs->aq c h' ts vs
 | [],_,r=>r
 | _::_,_,zp4=>by
  exact bb zp4 λv r e p q=>(bM v r e (ao.keep k p) (aq.keep k q))
end
structure aj.Le(h:Heap)(c c':aj):Prop where
 θ:c'.θ=c.θ
 P:c'.P=c.P
 pre:c'.pre=c.pre
 ex:∀b o,h.get? b=some o->¬c.ex b->¬c'.ex b
mutual
theorem ao.le{c c':aj}{h:Heap}(l:aj.Le h c c'):∀{t:AV}{v:W2},ao c h t v->ao c' h t v
 | .none,_,r=>r
 | .bool _,_,r=>r
 | .int _,_,r=>r
 | .str _,_,r=>r
 | .tup _,_,zp5=>by
  exact b5 zp5 λa vs n e x g z r=>(dS a vs n e (l.ex _ _ g x) g z (aq.le l r))
 | .lst _,_,zp6=>by
  exact b5 zp6 λa vs n e x g z r=>(dS a vs n e (l.ex _ _ g x) g z (aq.le l r))
 | .op k,_,r=>ZY r (congrFun l.θ k).symm
 | .idx k,v,r=>by show ∃t,v=.int (.ofNat (c'.P+k)) t;exact l.P▸r
 | .pat r',v,r=>by show c'.pre.length=c'.P/\(c'.pre++r').length<=aD/\∃t,v=.str ⟨⟨c'.pre++r'⟩⟩ t;exact l.P▸l.pre▸r
 | .lpat _,_,zp7=>by
  exact jh zp7 λa us vs n zc0=>jM zc0 λe x g y z r=>⟨a,us,vs,n,e,l.ex _ _ g x,g,by (refine aa l.P ?_);exact y,z,aq.le l r⟩
theorem aq.le{c c':aj}{h:Heap}(l:aj.Le h c c'):∀{ts:List AV}{vs:List W2},aq c h ts vs->aq c' h ts vs
 | [],_,r=>r
 | _::_,_,zp8=>by
  exact bb zp8 λv r e p q=>(bM v r e (ao.le l p) (aq.le l q))
end
theorem aq.length{c:aj}{h:Heap}:∀{ts:List AV}{vs:List W2},aq c h ts vs->vs.length=ts.length
 | [],_,r=>(r:_=[])▸rfl
 | _::_,_,zp9=>by
  refine bb zp9 λzz zz e zz q=>?_;subst e;rw[W5,W5,q.length]
theorem aq.append{c:aj}{h:Heap}:∀{ts us:List AV}{vs ws:List W2},aq c h ts vs->aq c h us ws->aq c h (ts++us) (vs++ws)
 | [],_,_,_,r,q=>(r:_=[])▸q
 | _::_,_,_,_,zp10,s=>by
  refine bb zp10 λv r e p q=>?_;subst e;exact(bM v (r++_) rfl p (q.append s))
theorem aq.nil{c:aj}{h:Heap}:aq c h [] []:=by rfl
theorem aq.cons{c:aj}{h:Heap}{t:AV}{ts:List AV}{v:W2}{vs:List W2}(p:ao c h t v)(q:aq c h ts vs):aq c h (t::ts) (v::vs):=(bM v vs rfl p q)
theorem aq.drop{c:aj}{h:Heap}:∀(k:Nat){ts:List AV}{vs:List W2},aq c h ts vs->aq c h (ts.drop k) (vs.drop k)
 | 0,_,_,r=>r
 | _+1,[],_,r=>(r:_=[])▸aq.nil
 | k+1,_::_,_,zp11=>by
  refine bb zp11 λzz zz e zz q=>?_;subst e;exact q.drop k
theorem aq.take{c:aj}{h:Heap}:∀(k:Nat){ts:List AV}{vs:List W2},aq c h ts vs->aq c h (ts.take k) (vs.take k)
 | 0,_,_,_=>by rw[List.take_zero,List.take_zero];exact aq.nil
 | _+1,[],_,r=>(r:_=[])▸aq.nil
 | k+1,_::_,_,zp12=>by
  refine bb zp12 λzz zz e p q=>?_;subst e;exact aq.cons p (q.take k)
theorem aq.nth{c:aj}{h:Heap}:∀{k:Nat}{ts:List AV}{vs:List W2}{t:AV},aq c h ts vs->bP ts k=some t->∃v,vs[k]?=some v/\ao c h t v
 | _,[],_,_,_,e=>aT e
 | 0,_::_,_,_,zp13,f=>by
  refine bb zp13 λv zz e p zz=>?_;subst e;exact ah v rfl (W9 f▸p)
 | k+1,_::_,_,_,zp14,f=>by
  refine bb zp14 λzz zz e zz q=>?_;subst e;exact q.nth f
theorem kP{α:Type}:∀(l:List α)(k:Nat),bP l k=l[k]?
 | [],_=>rfl
 | _::_,0=>rfl
 | _::l,k+1=>kP l k
theorem aq.setAt{c:aj}{h:Heap}:∀{k:Nat}{ts:List AV}{vs:List W2}{t:AV}{v:W2},aq c h ts vs->ao c h t v->aq c h (dg ts k t) (vs.set k v)
 | _,[],_,_,_,r,_=>(r:_=[])▸aq.nil
 | 0,_::_,_,_,_,zp15,p=>by
  refine bb zp15 λzz zz e zz q=>?_;subst e;exact aq.cons p q
 | k+1,_::_,_,_,_,zp16,p=>by
  refine bb zp16 λzz zz e p' q=>?_;subst e;exact aq.cons p' (q.setAt p)
theorem aq.reverse{c:aj}{h:Heap}:∀{ts:List AV}{vs:List W2},aq c h ts vs->aq c h ts.reverse vs.reverse
 | [],_,r=>(r:_=[])▸aq.nil
 | _::_,_,zp17=>by
  refine bb zp17 λzz zz e p q=>?_;subst e;exact aa (List.reverse_cons) (aa (List.reverse_cons) (q.reverse.append (aq.cons p aq.nil)))
theorem tR{α:Type}:∀(l:List α)(k:Nat)(a:α),(dg l k a).length=l.length
 | [],_,_=>rfl
 | _::_,0,_=>rfl
 | _::l,k+1,a=>congrArg Nat.succ (tR l k a)
noncomputable def cz:List (Addr×Addr):=[(84,80),(91,87),(152,148),(197,193)]
noncomputable abbrev GT(q:Addr×Addr):Prop:=q∈cz/\q.2≠193
noncomputable def aG(b:Addr):Prop:=b=80\/b=87\/b=148\/b=193
noncomputable def n₀:Nat:=221
structure aC(K:Frag)(h:Heap):Prop where
 stat:∀a o,K.lookup a=some o->¬aG a->h.get? a=some o
 bns:∃mb,h.Ns Yi mb/\∀x:Str,x≠"__name__"->mb x=Zx x
 tab:∀q∈cz,∃ps,h.get? q.2=some (tabObj ps)/\TriplesOk ps.toList/\(∀pos cv,codeAmong pos ps.toList=some cv->∃a,cv=.ref a)/\(q.2=193->K.lookup 193≠none->ps=#[])
 top:∃o,h.get? (n₀-1)=some o
 old:∀a o,K.lookup a=some o->a<n₀
 lim:h.NoLimit
theorem kQ:cStatics<n₀:=by decide
theorem aC.size{K:Frag}{h:Heap}(B:aC K h):n₀<=h.objs.size:=by
 refine al B.top λo e=>?_;have:n₀-1<h.objs.size:=Xm e;have:n₀=221:=rfl;assumption
noncomputable def eS(h:Heap)(dx:Addr)(z:Int):Prop:=∃e t ep,h.get? dx=some {cls:=.type "dict",data:=.dict #[e] ep}/\(∃u,e.key=.str d8 u)/\e.val=.int z t
noncomputable def bD(c:aj)(h:Heap)(a:Addr)(cl:bE):Prop:=
 cl.items.length<=aD+1/\match cl.acc with
 | none=>∃vs n,h.get? a=some {cls:=.type "list",data:=.seq ⟨vs⟩ n}/\aq c h cl.items vs
 | some z=>∃vs n dx,h.get? a=some {cls:=.ref aN,dict:=some dx,data:=.seq ⟨vs⟩ n}/\aq c h cl.items vs/\eS h dx z/\(n₀<=dx/\dx+1=a)/\¬c.fr dx
noncomputable def b8(c:aj)(h:Heap):List Addr->List bE->Prop
 | [],[]=>True
 | a::as,cl::cls=>bD c h a cl/\b8 c h as cls
 | [],_::_=>False
 | _::_,[]=>False
structure bW(c:aj)(h:Heap):Prop where
 sub:∀a∈c.cells,c.ex a
 nodup:c.cells.Nodup
 low:∀a∈c.cells,n₀<=a
 live:∀a,c.ex a->∃o,h.get? a=some o
 theta:∀k,∃a,c.θ k=.ref a
theorem bW.fresh{c:aj}{h:Heap}(C:bW c h)(a:Addr)(x:c.ex a):a<h.objs.size:=al (C.live a x) λzz e=>Xm e
noncomputable abbrev jx(a:Addr):Obj:={cls:=.type "builtin_function_or_method",data:=.fields #[.builtin "list.append",.ref a]}
noncomputable def bN(c:aj)(h:Heap):PV->W2->Prop
 | .val a,v=>ao c h a v
 | .cell i,v=>∃a,c.cells[i]?=some a/\v=.ref a
 | .app i,v=>∃a m,c.cells[i]?=some a/\v=.ref m/\¬c.ex m/\h.get? m=some (jx a)
 | .rng x y z,v=>∃m t u w,v=.ref m/\¬c.ex m/\IsRange h m x y z t u w
theorem bN.keep{c:aj}{h h':Heap}(k:b6 c h h'):∀{t:PV}{v:W2},bN c h t v->bN c h' t v
 | .val _,_,r=>ao.keep k r
 | .cell _,_,r=>r
 | .app _,_,zp18=>by
  exact io zp18 λa m e f x g=>⟨a,m,e,f,x,k _ _ g x (by nofun)⟩
 | .rng _ _ _,_,zp19=>by
  exact lu zp19 λm t u w e x g=>⟨m,t,u,w,e,x,k _ _ g x (by nofun)⟩
noncomputable def n6(env:Env)(h:Heap)(X:Str)(v:W2):Prop:=
 (env.kindOf X=some .local/\∃m,h.Ns env.locals m/\m X=some v)\/
 ((env.kindOf X=some .cell\/(env.kindOf X=some .free/\(X==("__classdict__":Str))=false))/\∃a,env.cells.lookup X=some a/\h.IsCell a (some v))
noncomputable def cy(env:Env)(b:Addr):Prop:=b=env.locals\/∃X,env.kindOf X=some .cell/\env.cells.lookup X=some b
structure fW(c:aj)(env:Env)(ρ:ai)(h:Heap):Prop where
 kind:env.scope.kind=.function
 globals:env.globals=Xj
 builtins:env.builtins=Yi
 vars:∀X t,aB ρ (nm X)=some t->∃v,n6 env h X v/\bN c h t v
 ns:∃m,h.Ns env.locals m
 cell:∀X,env.kindOf X=some .cell->∃a v,env.cells.lookup X=some a/\h.IsCell a v
 apart:∀X Y a,env.cells.lookup X=some a->env.cells.lookup Y=some a->X=Y
 low:n₀<=env.locals/\∀X a,env.cells.lookup X=some a->n₀<=a
 fr:∀b,cy env b->c.fr b
structure ae(X:Addr->Prop)(s s':Xd):Prop where
 keep:∀b o,s.heap.get? b=some o->¬X b->s'.heap.get? b=some o
 live:∀b o,s.heap.get? b=some o->∃o',s'.heap.get? b=some o'
 os:s'.os=s.os
 gens:AllBare s.gens->AllBare s'.gens
noncomputable def XE(c:aj)(b:Addr):Prop:=b∈c.cells\/aG b
noncomputable def XS(c:aj)(env:Env)(b:Addr):Prop:=XE c b\/cy env b
noncomputable def X0(_:Addr):Prop:=False
theorem ae.refl(X:Addr->Prop)(s:Xd):ae X s s:=⟨λ_ _ e _=>e,λ_ o e=>⟨o,e⟩,rfl,id⟩
theorem ae.trans{X:Addr->Prop}{s s' s'':Xd}(a:ae X s s')(b:ae X s' s''):ae X s s'':=
 ⟨λx o e n=>b.keep x o (a.keep x o e n) n,λx o e=>al (a.live x o e) λo' e'=>b.live x o' e',b.os.trans a.os,b.gens∘a.gens⟩
theorem ae.weaken{X Y:Addr->Prop}{s s':Xd}(a:ae X s s')(h:∀b,X b->Y b):ae Y s s':=
 ⟨λx o e n=>a.keep x o e λq=>n (h x q),a.live,a.os,a.gens⟩
theorem ae.x0{X:Addr->Prop}{s s':Xd}(a:ae X0 s s'):ae X s s':=a.weaken λ_ x=>x.elim
theorem ae.all{s s':Xd}(a:ae X0 s s'):∀b o,s.heap.get? b=some o->s'.heap.get? b=some o:=λb o e=>a.keep b o e id
theorem ae.toks{X:Addr->Prop}{s s':Xd}{t:Nat}(a:ae X s s'):ae X s {s' with toks:=t}:=⟨a.keep,a.live,a.os,a.gens⟩
theorem ae.tk(X:Addr->Prop)(s:Xd)(t:Nat):ae X s {s with toks:=t}:=(ae.refl X s).toks
theorem ae.push(X:Addr->Prop)(s:Xd)(o:Obj):ae X s {s with heap:=s.heap.push o}:=
 ⟨λ_ _ e _=>Xg _ e,λ_ o e=>⟨o,Xg _ e⟩,rfl,id⟩
theorem ae.pushT(X:Addr->Prop)(s:Xd)(o:Obj)(t:Nat):ae X s {s with heap:=s.heap.push o,toks:=t}:=(ae.push X s o).toks
theorem ae.kept{X:Addr->Prop}{s s':Xd}(k:∀b o,s.heap.get? b=some o->s'.heap.get? b=some o)(o:s'.os=s.os)(g:AllBare s.gens->AllBare s'.gens):ae X s s':=
 ⟨λb o e _=>k b o e,λb o e=>⟨o,k b o e⟩,o,g⟩
structure ak(K:Frag)(c:aj)(env:Env)(ρ:ai)(σ:S)(s:Xd):Prop where
 base:aC K s.heap
 cfg:bW c s.heap
 env:fW c env ρ s.heap
 cells:b8 c s.heap c.cells σ
 tk:1<=s.toks
theorem aC.keep0{K:Frag}{h h':Heap}(B:aC K h)(k:∀b o,h.get? b=some o->h'.get? b=some o):aC K h':=
 ⟨λa o e t=>k _ _ (B.stat a o e t),af B.bns λmb a b=>⟨mb,a.keeps k,b⟩,
  λq hq=>dY (B.tab q hq) λps a b d=>⟨ps,k _ _ a,b,d⟩,(al B.top λo e=>⟨o,k _ _ e⟩),B.old,B.lim.keeps k⟩
theorem bW.keep{c:aj}{h h':Heap}(B:bW c h)(z:∀b o,h.get? b=some o->∃o',h'.get? b=some o'):bW c h':=⟨B.sub,B.nodup,B.low,(λa x=>al (B.live a x) λo e=>z a o e),B.theta⟩
theorem b6.of0{c:aj}{h h':Heap}(k:∀b o,h.get? b=some o->h'.get? b=some o):b6 c h h':=λb o e _ _=>k b o e
theorem n6.keep0{env:Env}{h h':Heap}{X:Str}{v:W2}(x:n6 env h X v)(k:∀b o,h.get? b=some o->h'.get? b=some o):n6 env h' X v:=
 x.imp (λ⟨a,m,b,d⟩=>⟨a,m,b.keeps k,d⟩) λ⟨a,c,b,d⟩=>(fw a c b (d.keeps k))
theorem fW.keep0{c:aj}{env:Env}{ρ:ai}{h h':Heap}(B:fW c env ρ h)(k:∀b o,h.get? b=some o->h'.get? b=some o):fW c env ρ h' where
 kind:=B.kind
 globals:=B.globals
 builtins:=B.builtins
 vars:=λX t e=>af (B.vars X t e) λv a b=>(ah v (a.keep0 k) (b.keep (.of0 k)))
 ns:=al B.ns λm a=>⟨m,a.keeps k⟩
 cell:=λX e=>cw (B.cell X e) λa v b d=>(cx a v b (d.keeps k))
 apart:=B.apart
 low:=B.low
 fr:=B.fr
theorem eS.keep{h h':Heap}{dx:Addr}{z:Int}(x:eS h dx z)(k:∀o,h.get? dx=some o->h'.get? dx=some o):eS h' dx z:=
 dd x λe t ep a b=>(lA e t ep (k _ a) b)
theorem bD.keep0{c:aj}{h h':Heap}{a:Addr}{cl:bE}(B:bD c h a cl)(k:∀b o,h.get? b=some o->h'.get? b=some o):bD c h' a cl:=by
 refine aw B λz B=>⟨z,?_⟩;cases q:cl.acc with
 | none=>rw[q]at B;exact cw B λvs n e r=>(cx vs n (k _ _ e) (r.keep (.of0 k)))
 | some z=>rw[q]at B;exact fc B λvs n dx e r i f=>⟨vs,n,dx,k _ _ e,r.keep (.of0 k),i.keep (k _),f⟩
theorem b8.keep0{c:aj}{h h':Heap}(k:∀b o,h.get? b=some o->h'.get? b=some o):∀{as:List Addr}{σ:S},b8 c h as σ->b8 c h' as σ
 | [],[],_=>trivial
 | _::_,_::_,zp20=>by
  exact aw zp20 λa b=>⟨a.keep0 k,b.keep0 k⟩
theorem ak.keep0{K:Frag}{c:aj}{env:Env}{ρ:ai}{σ:S}{s s':Xd}(I:ak K c env ρ σ s)(e:ae X0 s s')(tk:1<=s'.toks):ak K c env ρ σ s':=
 ⟨I.base.keep0 e.all,I.cfg.keep e.live,I.env.keep0 e.all,I.cells.keep0 e.all,tk⟩
noncomputable def az(n:Nat)(A:Zp):Prop:=A.handled=none/\A.depth+n+64<=900/\A.units+8 * n+200<=9800
theorem az.mono{n m:Nat}{A:Zp}(r:az n A)(h:m<=n):az m A:=(bR r.1 (by have:=r.2.1;exact Ek h this) (by have:=r.2.2;exact GS h this))
theorem az.deeper{n:Nat}{A:Zp}{env:Env}(r:az (n+1) A):az n (A.deeper env):=(bR r.1 (by have:=r.2.1;show A.depth+1+n+64<=900;omega) (by have:=r.2.2;show A.units+3+8 * n+200<=9800;exact Em this))
theorem az.depth{n:Nat}{A:Zp}(r:az n A):A.depth<YH:=by have:=r.2.1;show A.depth<1000;omega
theorem az.units{n:Nat}{A:Zp}(r:az n A):A.units+64<cLine:=by have:=r.2.2;show A.units+64<9900;omega
noncomputable abbrev nr:W2->Xd->Prop:=λ_ _=>False
theorem b8.get{c:aj}{h:Heap}:∀{as:List Addr}{σ:S}{i:Nat}{cl:bE},b8 c h as σ->bP σ i=some cl->∃a,as[i]?=some a/\bD c h a cl
 | [],[],_,_,_,e=>aT e
 | _::_,_::_,0,_,zp21,e=>by
  exact aw zp21 λa zz=>ah _ rfl (W9 e▸a)
 | _::_,_::_,i+1,_,zp22,e=>by
  exact aw zp22 λzz b=>b.get e
theorem b8.length{c:aj}{h:Heap}:∀{as:List Addr}{σ:S},b8 c h as σ->as.length=σ.length
 | [],[],_=>rfl
 | _::_,_::_,zp23=>by
  refine aw zp23 λzz b=>?_;rw[W5,W5,b.length]
theorem dp{b:Nat}(h:aG b):b<n₀:=by rcases h with rfl | rfl | rfl | rfl<;>decide
theorem tS:Yi<n₀:=by decide
theorem IF{q:Addr×Addr}(h:q∈cz):aG q.2:=by
 simp only[cz,Xk,Xw,or_false]at h;rcases h with rfl | rfl | rfl | rfl<;>simp[aG]
theorem aC.but{K:Frag}{h h':Heap}{b:Addr}(B:aC K h)(lo:n₀<=b)(k:∀y o,h.get? y=some o->y≠b->h'.get? y=some o):aC K h':=
 have ne:∀{a},a<n₀->a≠b:=λh e=>absurd h (XN.mpr (e▸lo))
 ⟨λa o e t=>k a o (B.stat a o e t) (ne (B.old a o e)),af B.bns λmb a1 a2=>(ah mb (a1.at' λo e=>k _ o e (ne tS)) a2),
  λq hq=>af (B.tab q hq) λps e1 e2=>(ah ps (k _ _ e1 (ne (dp (IF hq)))) e2),al B.top λo e=>⟨o,k _ o e (ne (by decide))⟩,B.old,B.lim.at λo e=>k _ o e (ne kQ)⟩
variable{prog:Program}{w:World}{K:Frag}{mg:Str → Option Value}{T:bh}{m n:Nat}{c c':aj}{env:Env}{ρ ρ' ρ0 ρ1 ρ2:ai}{σ σ' σ1 σ2 σ3:S}{s s1 s2:Shared}{A:Around}{x:aH}{E:Value → Shared → Prop}
noncomputable def ff(c:aj)(s:Xd)(r:AV)(v:W2)(s':Xd):Prop:=ae X0 s s'/\ao c s'.heap r v
theorem iU{x:List Nat}{v:AV}(h:jl x=some v):x.length<=aD/\v=.str x:=
 aK h λe h=>⟨Xn e,(W9 h).symm⟩
theorem tT{x:List AV}{v:AV}(h:nL x=some v):x.length<=aD/\v=.lst x:=
 aK h λe h=>⟨Xn e,(W9 h).symm⟩
theorem jy{x:List Nat}(h:x.length<=aD):jl x=some (.str x):=cV (XB h) rfl
theorem qd{x:List AV}(h:x.length<=aD):nL x=some (.lst x):=cV (XB h) rfl
section
variable{hp:Heap}{v u:W2}{a b:AV}
theorem fL{i:Int}(e:eF a=some i)(r:ao c hp a v):∃t,v=.int i t:=(pU e▸r:ao c hp (.int i) v)
theorem g8{x:List Nat}(e:dJ a=some x)(r:ao c hp a v):x.length<=aD/\∃t,v=.str ⟨⟨x⟩⟩ t:=(iR e▸r:ao c hp (.str x) v)
theorem kR{k:Nat}(e:jk a=some k)(r:ao c hp a v):∃t,v=.int (.ofNat (c.P+k)) t:=(HY e▸r:ao c hp (.idx k) v)
theorem n7{k:Nat}(e:lC a=some k)(r:ao c hp a v):∃t,v=.int (.ofNat k) t:=(xF e▸r:ao c hp (.int (.ofNat k)) v)
theorem lQ{l:List AV}(e:kr a=some l)(r:ao c hp a v):ao c hp (.lst l) v:=HW e▸r
theorem mN{l:List AV}(e:lB a=some l)(r:ao c hp a v):ao c hp (.tup l) v:=xE e▸r
theorem tW{b:Bool}(e:pI a=some b)(r:ao c hp a v):v=.bool b:=(HZ e▸r:ao c hp (.bool b) v)
@[elab_as_elim] theorem jA{i:Int}{C:W2->Prop}(r:∃t,v=.int i t)(k:∀t,C (.int i t)):C v:=al r λt e=>e▸k t
@[elab_as_elim] theorem lR{f:Int->Int->Option AV}{r:AV}{C:W2->W2->Prop}(h:kz a b f=some r)(ha:ao c hp a v)(hb:ao c hp b u)(k:∀i j t t',f i j=some r->C (.int i t) (.int j t')):C v u:=
 ab h λi ei h=>ab h λj ej h=>jA (fL ei ha) λt=>jA (fL ej hb) λt'=>k i j t t' h
end
theorem yk:aD+1<=sizeLine:=by decide
theorem tX(hc:bW c s.heap):¬c.ex s.heap.objs.size:=λx=>XR _ (hc.fresh _ x)
theorem tY{ts:List AV}{vs:List W2}{t:Tok}(hc:bW c s.heap)(hl:ts.length<=aD)(hr:aq c s.heap ts vs) :
  ff c s (.lst ts) (.ref s.heap.objs.size) {s with heap:=s.heap.push {cls:=.type "list",data:=.seq ⟨vs⟩},toks:=t}:=
 ⟨ae.pushT X0 s _ t,_,vs,0,rfl,tX hc,Xl _ rfl,hl,hr.keep (.of0 λ_ _ e=>Xg _ e)⟩
theorem IG{ts:List AV}{vs:List W2}{t:Tok}(hc:bW c s.heap)(hl:ts.length<=aD)(hr:aq c s.heap ts vs) :
  ff c s (.tup ts) (.ref s.heap.objs.size) {s with heap:=s.heap.push {cls:=.type "tuple",data:=.seq ⟨vs⟩},toks:=t}:=
 ⟨ae.pushT X0 s _ t,_,vs,0,rfl,tX hc,Xl _ rfl,hl,hr.keep (.of0 λ_ _ e=>Xg _ e)⟩
theorem iV{i:Int}{t t':Tok}:ff c s (.int i) (.int i t) {s with toks:=t'}:=(gB (ae.tk X0 s t') _ rfl)
theorem yl{x:List Nat}{t t':Tok}(h:x.length<=aD):ff c s (.str x) (.str ⟨⟨x⟩⟩ t) {s with toks:=t'}:=(fU (ae.tk X0 s t') h _ rfl)
theorem IH{a b r:AV}{v u:W2}(h:sI b a=some r)(ha:ao c s.heap a v)(hb:ao c s.heap b u)(hc:bW c s.heap) :
  Xf (Xe prog w) A (binaryOp .Add v u) (ff c s r) nr s:=by
 cases a with
 | int i=>exact ab h λj ej h=>aL h (jA (show ∃t,v=.int i t from ha) λt=>jA (fL ej hb) λt'=>add_int iV)
 | idx i=>
  exact ab h λj ej h=>aL h (jA (show ∃t,v=.int (.ofNat (c.P+i)) t from ha) λt=>jA (n7 ej hb) λt'=>add_int (gB (ae.tk X0 s _) s.toks (congrArg (Value.int · s.toks) (congrArg Int.ofNat (Nat.add_assoc ..)))))
 | str x=>
  refine ab h λy ey h=>aw (iU h) λh3 e=>cq ha λzz t e1=>?_;refine cq (g8 ey hb) λzz t' e2=>?_;refine aa e (aa e1 (aa e2 (PyProof.Rows.add_str (λt' tk=>(fU (ae.tk X0 s tk) h3 t' ?_)) (W6 (Om▸h3:x.length+y.length<=aD) (by decide)))));show Value.str (Str.append _ _) _=_;simp[Str.append]
 | lst x=>
  refine ab h λy ey h=>aw (tT h) λh3 e=>b5 ha λx xs n e1 hx hg hl hr=>?_;refine b5 (lQ ey hb) λy ys n' e2 hy hg' hl' hr'=>?_;refine aa e (aa e1 (aa e2 ?_));have hr2:=hr.append hr';refine P.add_list (items:=⟨xs⟩) (items2:=⟨ys⟩) hg hg' ?_ ?_
  ·have:=tY (t:=s.toks) hc h3 hr2;simpa using this
  ·exact W6 (hr2.length▸h3:(xs++ys).length<=aD) (by decide) |> (Om▸·)
 | _=>exact aT (h:none=some r)
theorem II{op:Z8}{a b r:AV}{v u:W2}(h:lF op a b=some r)(ha:ao c s.heap a v)(hb:ao c s.heap b u)(hc:bW c s.heap) :
  Xf (Xe prog w) A (binaryOp op v u) (ff c s r) nr s:=by
 cases op with
 | Add=>exact IH h ha hb hc
 | Sub=>exact lR h ha hb λi j t t' h=>aL h (sub_int iV)
 | Mult=>exact lR h ha hb λi j t t' h=>ab h λa ea h=>aK h λq h=>aL h (aA (lN ea) (PyProof.Rows.mul_int iV (IntMulOk.of_left (intBits_le (Xu (Xn q:a<=1000) (by decide))))))
 | FloorDiv=>exact lR h ha hb λi j t t' h=>ab h λn en h=>ab h λb eb h=>aK h λq h=>aL h (aA (lN en) (aA (xG eb) (floordiv_int (λe=>nomatch e) iV (.inl (PyProof.noPylong_small (Xu (Z9 (Xn q):b+1<=1001) (by decide)))))))
 | Mod=>exact lR h ha hb λi j t t' h=>ab h λn en h=>ab h λb eb h=>aL h (aA (lN en) (aA (xG eb) (PyProof.Rows.mod_int (λe=>nomatch e) iV)))
 | Pow=>
  exact lR h ha hb λi j t t' h=>ab h λa ea h=>ab h λb eb h=>aK h λq h=>aL h (aA (lN ea) (aA (lN eb)
   (pow_int_small (XM _) (ZU.mpr (W6 (Xn (W8.mp q).2) (by decide:100<=1000000))) (Xu (Xn (W8.mp q).1:a<=10) (by decide)) iV)))
 | BitAnd=>exact lR h ha hb λi j t t' h=>aL h (and_int iV)
 | RShift=>exact lR h ha hb λi j t t' h=>ab h λb eb h=>aL h (aA (lN eb) (rshift_int (XM _) iV))
 | _=>exact aT (h:none=some r)
theorem tZ{f:AV->AV->Option Bool}:∀{a b:List AV}{r:Bool},jm f a b=some r->a.length≠b.length->r=false
 | [],[],_,_,n=>(n rfl).elim
 | _::_,_::_,_,h,n=>ab h λx _ h=>ab h λy hy h=>aL h ((congrArg (x&&·) (tZ hy λe=>n (congrArg (· + 1) e))).trans (Bool.and_false x))
 | [],_::_,_,h,_=>(W9 h).symm
 | _::_,[],_,h,_=>(W9 h).symm
theorem t5{f:AV->AV->Option Bool}:∀{a b:List AV}{r:Bool},jm f a b=some r->
  ∃e:Nat->Bool,(a.length=b.length->r=(Xr a.length).all e)/\∀j x y,a[j]?=some x->b[j]?=some y->f x y=some (e j)
 | [],[],_,h=>(ah (λ_=>true) (λ_=>(W9 h).symm) (λ_ _ _ h=>nomatch h))
 | x::l,y::m,r,h=>ab h λp hp h=>ab h λq hq h=>aL h (
   af (t5 hq) λe he hj=>
   (ah (λj=>Nat.casesOn j p e) (λn=>by rw[W5,List.range_succ_eq_map,List.all_cons,he (Nat.succ.inj n),List.all_map];rfl)
    (λj=>Nat.casesOn j (λ_ _ hx hy=>W9 hx▸W9 hy▸hp) hj)))
 | [],_::_,_,_=>(ah (λ_=>true) (λn=>nomatch n) (λ_ _ _ h=>nomatch h))
 | _::_,[],_,_=>(ah (λ_=>true) (λn=>nomatch n) (λ_ _ _ _ h=>nomatch h))
theorem aq.at{h:Heap}:∀{ts:List AV}{vs:List W2}{j:Nat}{v:W2},aq c h ts vs->vs[j]?=some v->∃t,ts[j]?=some t/\ao c h t v
 | [],_,j,_,r,e=>by rw[(r:_=[])]at e;cases e
 | t::_,_,0,_,zp1,f=>by
  refine bb zp1 λzz zz e p zz=>?_;rw[e]at f;exact(ah t rfl (W9 f▸p))
 | _::_,_,j+1,_,zp2,f=>by
  refine bb zp2 λzz zz e zz q=>?_;rw[e]at f;exact q.at (j:=j) f
theorem n8{h:Heap}{f:AV->AV->Option Bool}(F:∀{a b:AV}{r:Bool}{v:W2},f a b=some r->ao c h a v->ao c h b v->r=true):∀{a b:List AV}{r:Bool}{vs:List W2},jm f a b=some r->aq c h a vs->aq c h b vs->r=true
 | [],[],_,_,e,_,_=>(W9 e).symm
 | _::_,_::_,_,_,e,zp3,zp4=>by
  exact bb zp3 λzz zz e1 p1 q1=>bb zp4 λzz zz e2 p2 q2=>(ab e λz hz e=>ab e λz' hz' e=>aL e (
   have q:=List.cons.inj (e1.symm.trans e2)
   W8.mpr ⟨F hz p1 (q.1▸p2),n8 F hz' q1 (q.2▸q2)⟩))
 | [],_::_,_,_,_,h,zp5=>by
  refine bb zp5 λzz zz e zz zz=>?_;rw[(h:_=[])]at e;cases e
 | _::_,[],_,_,_,zp6,h=>by
  refine bb zp6 λzz zz e zz zz=>?_;rw[(h:_=[])]at e;cases e
theorem ym{h:Heap}{l m:List AV}{v:W2}(a:ao c h (.lst l) v)(b:ao c h (.lst m) v):∃vs,aq c h l vs/\aq c h m vs:=
 b5 a λzz vs zz e1 zz g1 zz r1=>b5 b λzz zz zz e2 zz g2 zz r2=>
 (ah vs r1 (by cases e1.symm.trans e2;cases g1.symm.trans g2;exact r2))
theorem yn{h:Heap}{l m:List AV}{v:W2}(a:ao c h (.tup l) v)(b:ao c h (.tup m) v):∃vs,aq c h l vs/\aq c h m vs:=
 b5 a λzz vs zz e1 zz g1 zz r1=>b5 b λzz zz zz e2 zz g2 zz r2=>
 (ah vs r1 (by cases e1.symm.trans e2;cases g1.symm.trans g2;exact r2))
theorem qe{h:Heap}:∀{n:Nat}{a b:AV}{r:Bool}{v:W2},jO n a b=some r->ao c h a v->ao c h b v->r=true
 | 0,_,_,_,_,e,_,_=>nomatch e
 | n+1,a,b,r,v,e,ha,hb=>by
  cases a with
  | bool x=>exact ab e λ_ ey e=>aL e (beq_iff_eq.mpr (Value.bool.inj ((show v=_ from ha).symm.trans (tW ey hb))))
  | int x=>exact ab e λ_ ey e=>aL e (al ((ha:∃t,v=.int x t)) λzz ha=>al (fL ey hb) λzz hb=>beq_iff_eq.mpr (Value.int.inj (ha.symm.trans hb)).1)
  | str x=>exact ab e λ_ ey e=>aL e (cq ((ha:_/\∃t,v=.str ⟨⟨x⟩⟩ t)) λzz zz ha=>cq (g8 ey hb) λzz zz hb=>aW.mpr (congrArg nm (Value.str.inj (ha.symm.trans hb)).1))
  | lst x=>exact ab e λ_ ey e=>af (ym ha (lQ ey hb)) λzz r1 r2=>n8 qe e r1 r2
  | tup x=>exact ab e λ_ ey e=>af (yn ha (mN ey hb)) λzz r1 r2=>n8 qe e r1 r2
  | _=>exact aT (e:none=some r)
theorem t6{v u:W2}{b:Bool}(h:∀(prog:Y3)(w:aal)(Q:W2->Xd->Prop) E,Q (.bool b) s->Xf (Xe prog w) A (Zv .Eq v u) Q E s):RcAt A s v u b:=λprog w E Q q=>h prog w Q E q
theorem t7(x y:List Nat):(x==y)=((⟨⟨x⟩⟩:Str) == ⟨⟨y⟩⟩):=by rw[ZI,beq_iff_eq,beq_iff_eq];simp
noncomputable def yo(A:Zp)(s:Xd)(v u:W2)(r:Bool):Prop:=EqAt A s v u r/\RcAt A s v u r/\RcNeAt A s v u (!r)
theorem yq{v u:W2}{r:Bool}(h:v=u->r=true)(k:RcAt A s v u r/\RcNeAt A s v u (!r))(hr:(∃a,v=.ref a)/\∃a,u=.ref a):yo A s v u r:=by
 refine⟨?_,k⟩;refine cq hr λzn0 b zr2=>al zn0 λa zr1=>?_;subst zr1;clear hr;subst zr2;by_cases e:a=b
 ·exact aa (h (congrArg _ e)) (aa (e) (EqAt.same _))
 ·exact EqAt.of_refs e k.1
theorem qf{A:Zp}{f:AV->AV->Option Bool}{la lb:List AV}{vs us:List W2}{e:Nat->Bool}(F:∀{a b:AV}{r:Bool}{v u:W2},f a b=some r->ao c s.heap a v->ao c s.heap b u->EqAt A s v u r)(he:∀j x y,la[j]?=some x->lb[j]?=some y->f x y=some (e j))(r1:aq c s.heap la vs)(r2:aq c s.heap lb us)
  (j:Nat)(h1:j<(⟨vs⟩:Array W2).size)(h2:j<(⟨us⟩:Array W2).size):EqAt A s (⟨vs⟩:Array W2)[j] (⟨us⟩:Array W2)[j] (e j):=
 af (r1.at (Xo h1)) λzz ex rx=>af (r2.at (Xo h2)) λzz ey ry=>F (he j _ _ ex ey) rx ry
theorem IJ{f:AV->AV->Option Bool}{la lb:List AV}{v u:W2}{r:Bool}(e:jm f la lb=some r)(ha:ao c s.heap (.lst la) v)(hb:ao c s.heap (.lst lb) u)(hu:A.units<cLine)
  (F:∀{a b:AV}{r:Bool}{v u:W2},f a b=some r->ao c s.heap a v->ao c s.heap b u->EqAt A.in1 s v u r):(RcAt A s v u r/\RcNeAt A s v u (!r))/\(∃a,v=.ref a)/\∃a,u=.ref a:=by
 refine b5 ha λa1 vs k e1 zz g1 zz r1=>?_;refine b5 hb λa2 us k2 e2 zz g2 zz r2=>?_;refine(fU ?_ ⟨_,e1⟩ _ e2);rw[e1,e2];have l1:s.heap.IsList a1 ⟨vs⟩:=(dl _ g1 rfl _ rfl);have l2:s.heap.IsList a2 ⟨us⟩:=(dl _ g2 rfl _ rfl);refine af (t5 e) λf hr he=>?_;by_cases hl:la.length=lb.length
 ·exact aa (hr hl) (aS (r1.length) ⟨RcAt.lists l1 l2 (r1.length.trans (hl.trans r2.length.symm)) hu (qf F he r1 r2),RcNeAt.lists l1 l2 (r1.length.trans (hl.trans r2.length.symm)) hu (qf F he r1 r2)⟩)
 ·refine aa (tZ e hl) ?_;have ne:((⟨vs⟩:Array W2).size != (⟨us⟩:Array W2).size)=true:=bne_iff_ne.mpr λq=>hl (r1.length.symm.trans (q.trans r2.length));exact⟨RcAt.lists_lengths l1 l2 ne hu,RcNeAt.lists_lengths l1 l2 ne hu⟩
theorem IK{f:AV->AV->Option Bool}{la lb:List AV}{v u:W2}{r:Bool}(e:jm f la lb=some r)(ha:ao c s.heap (.tup la) v)(hb:ao c s.heap (.tup lb) u)(hu:A.units<cLine)
  (F:∀{a b:AV}{r:Bool}{v u:W2},f a b=some r->ao c s.heap a v->ao c s.heap b u->EqAt A.in1 s v u r):(RcAt A s v u r/\RcNeAt A s v u (!r))/\(∃a,v=.ref a)/\∃a,u=.ref a:=by
 refine b5 ha λa1 vs k e1 zz g1 zz r1=>?_;refine b5 hb λa2 us k2 e2 zz g2 zz r2=>?_;refine(fU ?_ ⟨_,e1⟩ _ e2);rw[e1,e2];have l1:s.heap.IsTuple a1 ⟨vs⟩:=(dl _ g1 rfl _ rfl);have l2:s.heap.IsTuple a2 ⟨us⟩:=(dl _ g2 rfl _ rfl);refine af (t5 e) λf hr he=>?_;have q:r=((Xr (min (⟨vs⟩:Array W2).size (⟨us⟩:Array W2).size)).all f&&(⟨vs⟩:Array W2).size==(⟨us⟩:Array W2).size):=by
  show r=((Xr (min vs.length us.length)).all f&&vs.length==us.length);refine aa (r1.length) (aa (r2.length) ?_);by_cases hl:la.length=lb.length
  ·rw[hr hl,<-hl,Nat.min_self,beq_self_eq_true,Bool.and_true]
  ·rw[tZ e hl,beq_eq_false_iff_ne.mpr hl,Bool.and_false]
 exact aa (q) ⟨RcAt.tuples l1 l2 hu (qf F he r1 r2),RcNeAt.tuples l1 l2 hu (qf F he r1 r2)⟩
theorem yr:∀{n:Nat}{A:Zp}{a b:AV}{r:Bool}{v u:W2},jO n a b=some r->ao c s.heap a v->ao c s.heap b u->A.units+n<cLine->yo A s v u r
 | 0,_,_,_,_,_,_,e,_,_,_=>nomatch e
 | n+1,A,a,b,r,v,u,e,ha,hb,hu=>by
  have F:∀{a b:AV}{r:Bool}{v u:W2},jO n a b=some r->ao c s.heap a v->ao c s.heap b u->EqAt A.in1 s v u r:=λh p q=>(yr h p q (show A.units+1+n<cLine from (Nat.add_right_comm ..)▸hu)).1;have hu:=Xu (XX ..) hu;cases a with
  | bool x=>exact ab e λy ey e=>aL e (aA (show v=_ from ha) (aA (tW ey hb) (bR (EqAt.bool_bool _ _) (t6 λ_ _ _ _ q=>PyProof.Rows.eq_bool q) (RcNeAt.bool_bool _ _))))
  | int x=>exact ab e λy ey e=>aL e (al ((ha:∃t,v=.int x t)) λzz ha=>al (fL ey hb) λzz hb=>aA ha (aA hb (bR (EqAt.int_int _ _ _ _) (t6 λ_ _ _ _ q=>PyProof.Rows.eq_int q) (RcNeAt.int_int _ _ _ _))))
  | str x=>exact ab e λy ey e=>aL e (cq ((ha:_/\∃t,v=.str ⟨⟨x⟩⟩ t)) λzz zz ha=>cq (g8 ey hb) λzz zz hb=>aA ha (aA hb (aA (yj x y)
    (bR ((t7 x y).symm▸EqAt.str_str _ _ _ _) (t6 λ_ _ _ _ q=>P.eq_str q) ((t7 x y).symm▸RcNeAt.str_str _ _ _ _)))))
  | lst x=>exact ab e λy ey e=>have k:=IJ e ha (lQ ey hb) hu F;yq (λq=>af (ym ha (q▸lQ ey hb)) λzz r1 r2=>n8 qe e r1 r2) k.1 k.2
  | tup x=>exact ab e λy ey e=>have k:=IK e ha (mN ey hb) hu F;yq (λq=>af (yn ha (q▸mN ey hb)) λzz r1 r2=>n8 qe e r1 r2) k.1 k.2
  | _=>exact aT (e:none=some r)
theorem t8:∀a b:List Nat,gk a b=!decide (b<a)
 | [],b=>(congrArg not (decide_eq_false (List.not_lt_nil b))).symm
 | a::l,[]=>(congrArg not (decide_eq_true (List.nil_lt_cons a l))).symm
 | a::l,b::m=>by
  have ih:=t8 l m;show cond (XI a b) (gk l m) (YG a b)=_;cases q:XI a b with
  | true=>
   rw[XF q,cond_true,ih];simp
  | false=>
   have hn:=Nat.ne_of_beq_eq_false q;simp only[List.cons_lt_cons_iff,cond_false];rw[ZI,ZK,decide_eq_false_iff_not,Nat.ble_eq];exact⟨λx=>λy=>y.elim (λz=>XN.mpr x z) λz=>hn z.1.symm,λx=>XN.mp λz=>x (.inl z)⟩
theorem yt{a b:AV}{r:Bool}{v u:W2}{n:Nat}(h:lE a b=some r)(ha:ao c s.heap a v)(hb:ao c s.heap b u)(hR:az n A) :
  (∀(Q:W2->Xd->Prop) E,Q (.bool r) s->Xf (Xe prog w) A (Zv .Eq v u) Q E s)/\∀(Q:W2->Xd->Prop) E,Q (.bool (!r)) s->Xf (Xe prog w) A (Zv .NotEq v u) Q E s:=by
 refine dn h (λp ep h=>ab h λq eq h=>aL h ?_) (λ_ h=>have k:=yr (A:=A) h ha hb (Xu (Nat.add_le_add_left (by decide) _) hR.units);⟨λQ E q=>k.2.1 prog w E Q q,λQ E q=>k.2.2 prog w E Q q⟩);refine al (kR ep ha) λt e1=>?_;refine al (kR eq hb) λu e2=>?_;have e3:XI p q=(Int.ofNat (c.P+p)==Int.ofNat (c.P+q)):=by
  rw[ZI,Nat.beq_eq,beq_iff_eq];exact⟨λe=>e▸rfl,λe=>Nat.add_left_cancel (Int.ofNat.inj e)⟩
 exact aa (e1) (aa (e2) (aa (e3) ⟨λQ E q=>PyProof.Rows.eq_int q,λQ E q=>PyProof.Rows.ne_int q⟩))
theorem yu{b:Bool}{h:Heap}:∀{l:List AV}{vs:List W2}{r:Bool},nM b l=some r->aq c h l vs->
  r=vs.any (λv=>match v with | .bool a=>a==b | _=>false)/\∀v∈vs,∃a,v=.bool a
 | [],_,r,e,h=>(h:_=[])▸W9 e▸⟨rfl,λ_ h=>(nomatch h)⟩
 | x::l,_,r,e,zp1=>by
  exact bb zp1 λv ws e1 p q=>(ab e λa ea e=>ab e λz hz e=>aL e (aA e1 (aA (tW ea p) (
   have ih:=yu hz q
   ⟨congrArg (a==b||·) ih.1,λv hv=>(Xk.mp hv).elim (λe=>⟨_,e⟩) (ih.2 v)⟩))))
theorem yv{d:Nat}{h:Heap}:∀{l:List AV}{vs:List W2}{r:Bool},sG d l=some r->aq c h l vs->
  r=vs.any (λv=>match v with | .str x _=>x==(⟨⟨[d]⟩⟩:Str) | _=>false)/\∀v∈vs,∃x t,v=.str x t
 | [],_,r,e,h=>(h:_=[])▸W9 e▸⟨rfl,λ_ h=>(nomatch h)⟩
 | x::l,_,r,e,zp2=>by
  exact bb zp2 λv ws e1 p q=>(ab e λy ey e=>ab e λz hz e=>aL e (aA e1 (cq (g8 ey p) λzz t ev=>aA ev (
   have ih:=yv hz q
   ⟨(congrArg (ax y [d]||·) ih.1).trans (congrArg (·||_) ((yj y [d]).trans (t7 y [d]))),λv hv=>(Xk.mp hv).elim (λe=>(dZ _ _ e)) (ih.2 v)⟩))))
theorem IL{x:Str}{t:Tok}{a:Addr}{Q:W2->Xd->Prop}{E:W2->Xd->Prop}(q:Q (.bool false) s):Xf (Xe prog w) A (Zv .Is (.str x t) (.ref a)) Q E s:=by
 show Xf _ A (do return .bool (<-isSame (.str x t) (.ref a))) Q E s;exact El (m:=isSame (.str x t) (.ref a)) (Ev (Ev q))
theorem IM{x:Str}{t:Tok}{a:Addr}{Q:W2->Xd->Prop}{E:W2->Xd->Prop}(q:Q (.bool true) s):Xf (Xe prog w) A (Zv .IsNot (.str x t) (.ref a)) Q E s:=by
 show Xf _ A (do return .bool (!(<-isSame (.str x t) (.ref a)))) Q E s;exact El (m:=isSame (.str x t) (.ref a)) (Ev (Ev q))
theorem IN{x:Int}{t:Tok}{a:Addr}{Q:W2->Xd->Prop}{E:W2->Xd->Prop}(q:Q (.bool false) s):Xf (Xe prog w) A (Zv .Is (.int x t) (.ref a)) Q E s:=by
 show Xf _ A (do return .bool (<-isSame (.int x t) (.ref a))) Q E s;exact El (m:=isSame (.int x t) (.ref a)) (Ev (Ev q))
theorem IP{x:Int}{t:Tok}{a:Addr}{Q:W2->Xd->Prop}{E:W2->Xd->Prop}(q:Q (.bool true) s):Xf (Xe prog w) A (Zv .IsNot (.int x t) (.ref a)) Q E s:=by
 show Xf _ A (do return .bool (!(<-isSame (.int x t) (.ref a)))) Q E s;exact El (m:=isSame (.int x t) (.ref a)) (Ev (Ev q))
theorem yw{a b:AV}{r:Bool}{v u:W2}(h:sH a b=some r)(ha:ao c s.heap a v)(hb:ao c s.heap b u)(hc:bW c s.heap) :
  (∀(Q:W2->Xd->Prop) E,Q (.bool r) s->Xf (Xe prog w) A (Zv .Is v u) Q E s)/\∀(Q:W2->Xd->Prop) E,Q (.bool (!r)) s->Xf (Xe prog w) A (Zv .IsNot v u) Q E s:=by
 refine ab h λk ek h=>?_;have hb:u=c.θ k:=(H0 ek▸hb:ao c s.heap (.op k) u);refine al (hc.theta k) λx e=>aa hb (aa e ?_);cases a with
 | op j=>exact aK h λq h=>aL h (aA (show v=.ref x from (show v=c.θ j from ha).trans (XF q▸e)) ⟨λQ E q=>wpAny_is_ref_self q,λQ E q=>wpAny_isNot_ref_self q⟩)
 | str y=>exact aL h (cq ((ha:_/\∃t,v=.str ⟨⟨y⟩⟩ t)) λzz t ev=>aA ev ⟨λQ E q=>IL q,λQ E q=>IM q⟩)
 | int y=>exact aL h (al ((ha:∃t,v=.int y t)) λt ev=>aA ev ⟨λQ E q=>IN q,λQ E q=>IP q⟩)
 | _=>exact aT (h:none=some r)
theorem qb{Q:W2->Xd->Prop}{b r:Bool}(h:some b=some r)(q:Q (.bool r) s):Q (.bool b) s:=(W9 h).symm▸q
theorem IQ{P a b:Nat}:YU a b=decide (Int.ofNat (P+a)<Int.ofNat (P+b)):=by
 rw[ZI,decide_eq_true_eq,Za];exact⟨λx=>Y7.mpr (Nat.add_lt_add_left x P),λx=>Nat.lt_of_add_lt_add_left (Y7.mp x)⟩
theorem IR{P a b:Nat}:YG b a=decide (Int.ofNat (P+b)<=Int.ofNat (P+a)):=by
 rw[ZI,decide_eq_true_eq,Nat.ble_eq];exact⟨λx=>ZU.mpr (Nat.add_le_add_left x P),λx=>Nat.le_of_add_le_add_left (ZU.mp x)⟩
theorem IS{a b:AV}{r:Bool}{v u:W2}(h:xd b a=some r)(ha:ao c s.heap a v)(hb:ao c s.heap b u)(Q:W2->Xd->Prop)(E:W2->Xd->Prop)(q:Q (.bool r) s):Xf (Xe prog w) A (Zv .Lt v u) Q E s:=by
 cases a with
 | int i=>exact ab h λj ej h=>al ((ha:∃t,v=.int i t)) λzz ha=>al (fL ej hb) λzz hb=>aA ha (aA hb (lt_int (qb h q)))
 | idx p=>
  refine al ((ha:∃t,v=.int (.ofNat (c.P+p)) t)) λzz ha=>aa ha (dn h (λk ek h=>?_) λ_ h=>ab h λk ek h=>aK h λz h=>?_)
  ·exact al (kR ek hb) λzz hb=>aA hb (lt_int (qb (IQ (P:=c.P)▸h) q))
  ·refine al (n7 ek hb) λzz hb=>aA hb (lt_int (qb ((congrArg some (decide_eq_false λx=>?_)).trans h) q));exact ZX _ (XF z▸Y7.mp x)
 | _=>exact aT (h:none=some r)
theorem IU{a b:AV}{r:Bool}{v u:W2}(h:xe b a=some r)(ha:ao c s.heap a v)(hb:ao c s.heap b u)(Q:W2->Xd->Prop)(E:W2->Xd->Prop)(q:Q (.bool r) s):Xf (Xe prog w) A (Zv .LtE v u) Q E s:=by
 cases a with
 | int i=>exact ab h λj ej h=>al ((ha:∃t,v=.int i t)) λzz ha=>al (fL ej hb) λzz hb=>aA ha (aA hb (le_int (qb h q)))
 | str x=>exact ab h λy ey h=>cq ((ha:_/\∃t,v=.str ⟨⟨x⟩⟩ t)) λzz zz ha=>cq (g8 ey hb) λzz zz hb=>aA ha (aA hb (P.le_str (by
   rw[<-W9 h,t8]at q;simpa using q)))
 | _=>exact aT (h:none=some r)
theorem IV{a b:AV}{r:Bool}{v u:W2}(h:xf b a=some r)(ha:ao c s.heap a v)(hb:ao c s.heap b u)(Q:W2->Xd->Prop)(E:W2->Xd->Prop)(q:Q (.bool r) s):Xf (Xe prog w) A (Zv .Gt v u) Q E s:=by
 cases a with
 | int i=>exact ab h λj ej h=>al ((ha:∃t,v=.int i t)) λzz ha=>al (fL ej hb) λzz hb=>aA ha (aA hb (gt_int (qb h q)))
 | str x=>exact ab h λy ey h=>cq ((ha:_/\∃t,v=.str ⟨⟨x⟩⟩ t)) λzz zz ha=>cq (g8 ey hb) λzz zz hb=>aA ha (aA hb (P.gt_str (by
   rw[<-W9 h,w9,t8,Bool.not_not]at q;simpa using q)))
 | _=>exact aT (h:none=some r)
theorem IW{a b:AV}{r:Bool}{v u:W2}(h:xg b a=some r)(ha:ao c s.heap a v)(hb:ao c s.heap b u)(Q:W2->Xd->Prop)(E:W2->Xd->Prop)(q:Q (.bool r) s):Xf (Xe prog w) A (Zv .GtE v u) Q E s:=by
 cases a with
 | int i=>exact ab h λj ej h=>al ((ha:∃t,v=.int i t)) λzz ha=>al (fL ej hb) λzz hb=>aA ha (aA hb (ge_int (qb h q)))
 | idx p=>exact ab h λk ek h=>al ((ha:∃t,v=.int (.ofNat (c.P+p)) t)) λzz ha=>al (kR ek hb) λzz hb=>aA ha (aA hb (ge_int (qb (IR (P:=c.P)▸h) q)))
 | _=>exact aT (h:none=some r)
theorem IX{a b:AV}{r:Bool}{v u:W2}(h:xh b a=some r)(ha:ao c s.heap a v)(hb:ao c s.heap b u)(Q:W2->Xd->Prop)(E:W2->Xd->Prop)(q:Q (.bool r) s):Xf (Xe prog w) A (Zv .In v u) Q E s:=by
 cases a with
 | bool x=>
  refine ab h λl el h=>aA (show v=_ from ha) (b5 (lQ el hb) λa1 vs k e zz g1 zz r1=>aw (yu h r1) λe1 e2=>?_);rw[e1]at q;exact aA e (in_listAt _ (dl _ g1 rfl _ rfl) (λy hy=>al (e2 y hy.val) λzz e=>aA e (EqAt.bool_bool _ _)) (List.any_toArray.symm▸q))
 | str x=>
  refine ab h λd ed h=>ab h λl el h=>cq ((ha:_/\∃t,v=.str ⟨⟨x⟩⟩ t)) λzz t ev=>b5 (mN el hb) λa1 vs k e zz g1 zz r1=>aw (yv h r1) λe1 e2=>?_;rw[e1]at q;exact aa (ev) (aa (dT ed) (aA e (in_tupleAt _ (dl _ g1 rfl _ rfl) (λy hy=>iH (e2 y hy.val) λzz zz e=>aA e (EqAt.str_str _ _ _ _)) (List.any_toArray.symm▸q))))
 | _=>cases (h:none=some r)
theorem IY{a b:AV}{r:Bool}{v u:W2}(h:fe .NotIn a b=some r)(ha:ao c s.heap a v)(hb:ao c s.heap b u)(Q:W2->Xd->Prop)(E:W2->Xd->Prop)(q:Q (.bool r) s):Xf (Xe prog w) A (Zv .NotIn v u) Q E s:=by
 refine ab h λx ex h=>ab h λd ed h=>ab h λy ey h=>cq (g8 ex ha) λzz t e1=>?_;refine cq (g8 ey hb) λzz t' e2=>?_;refine aa e1 (aa e2 (aa (dT ed) (P.notIn_str ?_)));have e2:y.any (XI d)=decide (d∈y):=by
  rw[ZI,List.any_eq_true,decide_eq_true_eq];exact⟨λzq19=>af zq19 λz hz e=>XF e▸hz,λhy=>(ah d hy (Nat.beq_refl d))⟩
 exact aa (StrLaws.found_one (⟨⟨y⟩⟩:Str) d) ((show(!decide (d∈y))=r from e2▸W9 h)▸q)
theorem mO{op:CmpOp}{a b:AV}{r:Bool}{v u:W2}{n:Nat}(h:fe op a b=some r)(ha:ao c s.heap a v)(hb:ao c s.heap b u)(hR:az n A)(hc:bW c s.heap)
  (Q:W2->Xd->Prop)(E:W2->Xd->Prop)(q:Q (.bool r) s):Xf (Xe prog w) A (Zv op v u) Q E s:=
 match op,h with
 | .Eq,h=>(yt h ha hb hR).1 Q E q
 | .NotEq,h=>ab h λx hx h=>(yt hx ha hb hR).2 Q E (W9 h▸q)
 | .Lt,h=>IS h ha hb Q E q
 | .LtE,h=>IU h ha hb Q E q
 | .Gt,h=>IV h ha hb Q E q
 | .GtE,h=>IW h ha hb Q E q
 | .Is,h=>(yw h ha hb hc).1 Q E q
 | .IsNot,h=>ab h λx hx h=>(yw hx ha hb hc).2 Q E (W9 h▸q)
 | .In,h=>IX h ha hb Q E q
 | .NotIn,h=>IY h ha hb Q E q
theorem n9(n:Nat)(i:Int):ZQ n i=min (fz n i) n:=by
 cases i with
 | ofNat k=>exact clipAt_nat n k
 | negSucc m=>
  have:=clipAt_neg n (m+1) (by exact wB);have e:(-((m+1:Nat):Int))=Int.negSucc m:=rfl;rw[e]at this;refine aa (this) ?_;show n-(m+1)=min (n-(m+1)) n;lia
theorem yx{α:Type}(l:List α)(lo hi:Option Int) :
  (l.drop (lo.elim 0 (ZQ l.length))).take (hi.elim l.length (ZQ l.length)-lo.elim 0 (ZQ l.length))=cut l (lo.map (fz l.length)) (hi.map (fz l.length)):=by
 unfold cut;refine aS List.drop_take ?_;cases hi with
 | none=>
  cases lo with
  | none=>simp
  | some i=>
   simp only[Option.elim,Option.map,n9,Option.getD];refine aa (Zo (by exact sD)) ?_;rcases Nat.le_total (fz l.length i) l.length with h | h
   ·rw[Nat.min_eq_left h]
   ·rw[Nat.min_eq_right h,List.drop_of_length_le (by exact sD),List.drop_of_length_le (by exact wV h)]
 | some j=>
  simp only[Option.elim,Option.map,n9,Option.getD];have e:l.take (min (fz l.length j) l.length)=l.take (fz l.length j):=by
   rcases Nat.le_total (fz l.length j) l.length with h | h
   ·rw[Nat.min_eq_left h]
   ·rw[Nat.min_eq_right h,Zo (by exact sD),Zo (by exact wV h)]
  refine aa (e) ?_;cases lo with
  | none=>rfl
  | some i=>
   simp only[n9];clear e;rcases Nat.le_total (fz l.length i) l.length with h | h
   ·rw[Nat.min_eq_left h]
   ·rw[Nat.min_eq_right h,List.drop_of_length_le (by simp;exact GH),List.drop_of_length_le (by simp;omega)]
theorem yy{α:Type}(l:List α)(p q:Option Nat):(cut l p q).length<=l.length:=by
 unfold cut;cases q<;>simp<;>exact GG
open Builtin Builtin.Str in
theorem IZ(x:List Nat)(lo hi:Option Int):(Txt.slice ⟨⟨x⟩⟩ lo hi)=⟨⟨cut x (lo.map (fz x.length)) (hi.map (fz x.length))⟩⟩:=by
 have e1:strSliceIndices lo hi 1 x.length=sliceRange (sliceBounds lo hi none x.length).1 (sliceBounds lo hi none x.length).2.1 1:=by
  rfl
 have e2:strSliceIndices lo hi 1 x.length=(Xr (hi.elim x.length (ZQ x.length)-lo.elim 0 (ZQ x.length))).map (lo.elim 0 (ZQ x.length) + ·):=by
  rw[e1,sliceBounds_plain];exact sliceRange_one _ _
 have hn:(⟨⟨x⟩⟩:Str).length=x.length:=rfl;have hlo:lo.elim 0 (ZQ x.length)<=x.length:=by
  clear e1 e2;cases lo with
  | none=>exact Y4 _
  | some i=>show ZQ _ _<=_;rw[n9];exact YJ _ _
 have hhi:hi.elim x.length (ZQ x.length)<=x.length:=by
  clear e1 e2;cases hi with
  | none=>exact Xs _
  | some i=>show ZQ _ _<=_;rw[n9];exact YJ _ _
 unfold Txt.slice;rw[hn,e2,<-yx];split
 ·rename_i h;have h2:hi.elim x.length (ZQ x.length)-lo.elim 0 (ZQ x.length)=x.length:=by simpa using h
  refine aa (h2) ?_;have h3:List.take x.length (List.drop (lo.elim 0 (ZQ x.length)) x)=x:=by
   rcases Nat.eq_zero_or_pos x.length with z | z
   ·have:=XY z;refine aa this ?_;simp
   ·have:lo.elim 0 (ZQ x.length)=0:=by exact HF hlo hhi h2
    rw[this,List.drop_zero,Zo (Xs _)]
  rw[h3]
 ·have:=pick_run (⟨x⟩:Array Nat) (lo.elim 0 (ZQ x.length)) (hi.elim x.length (ZQ x.length)-lo.elim 0 (ZQ x.length));have e3:((⟨⟨x⟩⟩:Str).cps)=(⟨x⟩:Array Nat):=rfl;simp only[e3,this]
theorem yz{value slice:Expr}{o i:W2}{Q:W2->Xd->Prop}{E:W2->Xd->Prop}(h:Xf (Xe prog w) A (getItem o i) Q E s) :
  Xf (Xe prog w) A (subscripted slice false o i) (λr s₃=>Xf (Xe prog w) A (letTemporaryGo value o r >>= λ_=>pure r) Q E s₃) E s:=by
 have go:∀l,Xf (Xe prog w) A (operate l (getItem o i)) (λr s₃=>Xf (Xe prog w) A (letTemporaryGo value o r >>= λ_=>pure r) Q E s₃) E s:=λl=>wpAny_operating (KE h (λr s₃ h₃=>El (wpAny_letTemporaryGo (Ev h₃))) λ_ _ x=>x);clear h;cases slice with
 | Slice a b c d=>cases c with
  | none=>exact go _
  | some c=>exact go _
 | _=>exact go _
theorem kS{value slice:Expr}{o i:W2}{T id:String}{Q:W2->Xd->Prop}{E:W2->Xd->Prop}(hT:s.TypeIs o T)
  (hl:aaf (.type T) "__getitem__"=pure (some (.builtin id)))(h:Xf (Xe prog w) A (getItem o i) Q E s) :
  Xf (Xe prog w) A (Z2 value slice o i) Q E s:=by
 refine El (aa (getitemInPython_of_ne hT.not_modules) (El (wpAny_specialOf hT hl ?_)));exact Ev (El (yz h))
theorem ua{k n:Nat}(h:k<n):ZR (Int.ofNat k) n=some k:=by
 unfold ZR;rw[if_neg (show ¬(Int.ofNat k<0) from Int.not_lt.mpr (XM k))];simp only[show(Int.ofNat k)<(n:Int) from Y7.mpr h,show 0<=Int.ofNat k from XM k,decide_true,Bool.and_self,if_true];rfl
theorem yA{α:Type}{l:List α}{i:Int}{d:α}(e:is l i=some d) :
  ∃k,l[k]?=some d/\k<l.length/\ZR i l.length=some k/\(0<=i->k=i.toNat)/\(i<0->k=(i+l.length).toNat/\-(l.length:Int)<=i):=by
 cases i with
 | ofNat n=>
  have e1:l[n]?=some d:=kP l n▸e;have hlt:=(Yh.mp e1).1;exact⟨n,e1,hlt,ua hlt,λ_=>rfl,λx=>absurd x (Int.not_lt.mpr (XM n))⟩
 | negSucc m=>
  have e1:l.reverse[m]?=some d:=kP l.reverse m▸e;have hlt:=(Yh.mp e1).1;rw[List.length_reverse]at hlt;rw[List.getElem?_reverse hlt]at e1;have hneg:Int.negSucc m<0:=Int.negSucc_lt_zero m;have eq:Int.negSucc m+(l.length:Int)=((l.length-1-m:Nat):Int):=by rw[Int.negSucc_eq];exact GI hlt
  have hle:-(l.length:Int)<=Int.negSucc m:=by rw[Int.negSucc_eq];exact GJ hlt
  have hk:=(Yh.mp e1).1;exact⟨l.length-1-m,e1,hk,(seqIndex_neg hneg hle).trans (congrArg (λz:Int=>some z.toNat) eq),λx=>absurd hneg (Int.not_lt.mpr x),λ_=>⟨eq▸rfl,hle⟩⟩
theorem Ja{l:List AV}{h:Heap}{vs:List W2}{i:Int}{r:AV}(e:is l i=some r)(hr:aq c h l vs):∃v,is vs i=some v/\ao c h r v:=by
 cases i with
 | ofNat n=>exact af (hr.nth e) λv e1 rv=>(ah v ((kP vs n).trans e1) rv)
 | negSucc m=>exact af (hr.reverse.nth e) λv e1 rv=>(ah v ((kP vs.reverse m).trans e1) rv)
theorem qg{l:List AV}{h:Heap}{vs:List W2}{i:Int}{r:AV}(e:is l i=some r)(hr:aq c h l vs) :
  ∃v k,ao c h r v/\vs[k]?=some v/\k<vs.length/\ZR i vs.length=some k/\(0<=i->k=i.toNat)/\(i<0->k=(i+vs.length).toNat/\-(vs.length:Int)<=i):=
 af (Ja e hr) λv e1 rv=>al (yA e1) λk q=>(cx v k rv q)
theorem yB{n k:Nat}{i:Int}(hk:k<n)(h0:0<=i->k=i.toNat)(h1:i<0->k=(i+n).toNat/\-(n:Int)<=i):-(n:Int)<=i/\i<n:=by omega
theorem jY{α:Type}(l:List α)(k:Nat):(⟨l⟩:Array α)[k]?=l[k]?:=by simp
theorem qh{a:Addr}{vs:List W2}{n:Nat}{i:Int}{t:Tok}{v:W2}{k:Nat}{Q:W2->Xd->Prop}{E:W2->Xd->Prop}(g:s.heap.get? a=some {cls:=.type "list",data:=.seq ⟨vs⟩ n})
  (hl:vs.length<=aD+1)(e:vs[k]?=some v)(hk:k<vs.length)(h0:0<=i->k=i.toNat)(h1:i<0->k=(i+vs.length).toNat/\-(vs.length:Int)<=i)(q:Q v s) :
  Xf (Xe prog w) A (getItem (.ref a) (.int i t)) Q E s:=by
 have l1:s.heap.IsList a ⟨vs⟩:=(dl _ g rfl _ rfl);have:aD=4096:=rfl;by_cases hi:i<0
 ·refine aw (h1 hi) λe1 e2=>wpAny_getItem_list_neg l1 hi e2 (by omega) (x:=v) ?_ q;rw[jY];show vs[(i+(vs.length:Int)).toNat]?=_;rw[<-e1];exact e
 ·have e1:=h0 (by exact nJ hi);refine wpAny_getItem_list l1 (by exact nJ hi) (by exact wU hl hk this e1) (x:=v) ?_ q;rw[jY,<-e1];exact e
theorem yC{x:List Nat}{i:Int}{t u:Tok}{d k:Nat}{Q:W2->Xd->Prop}{E:W2->Xd->Prop}(hx:x.length<=aD)(e:x[k]?=some d)(hs:ZR i x.length=some k)(h0:-(x.length:Int)<=i)(h1:i<x.length)
  (q:Q (.str ⟨⟨[d]⟩⟩ s.toks) {s with toks:=s.toks+1}):Xf (Xe prog w) A (getItem (.str ⟨⟨x⟩⟩ t) (.int i u)) Q E s:=by
 have:aD=4096:=rfl;refine PyProof.Rows.getItem_str (c:=d) ?_ ?_ q
 ·simp only[Bool.or_eq_false_iff,decide_eq_false_iff_not];exact GM hx h0 h1 this
 ·show(ZR i x.length).bind _=_;refine aa hs ?_;show(⟨x⟩:Array Nat)[k]?=some d;simpa using e
theorem yD{o:Option Nat}{r:AV}(h:sL o=some r):∃d,o=some d/\r=.str [d]:=ab h λd e h=>(ah d e ((W9 h).symm))
theorem yE{d:Nat}{t:Tok}{tk:Nat}:ff c s (.str [d]) (.str ⟨⟨[d]⟩⟩ t) {s with toks:=tk}:=(fU (ae.tk X0 s _) (Yk 1 4095) _ rfl)
theorem Jb{e1 e2:Expr}{a x r:AV}{v u:W2}(h:lG a x=some r)(ha:ao c s.heap a v)(hx:ao c s.heap x u)(hc:bW c s.heap) :
  Xf (Xe prog w) A (Z2 e1 e2 v u) (ff c s r) nr s:=by
 cases a with
 | lst l=>
  refine ab h λi ei h=>b5 ha λa1 vs n e hx1 g hl hr=>?_;refine al (fL ei hx) λt e'=>?_;exact iI (qg h hr) λv k rv ek hk zz h0 h1=>aa e (aa e' (kS (Heap.IsList.typeIs (dl _ g rfl _ rfl)) list_getitem_lookup (qh g (hr.length▸XU hl) ek hk h0 h1 ⟨ae.refl X0 s,rv⟩)))
 | tup l=>
  refine ab h λi ei h=>b5 ha λa1 vs n e hx1 g hl hr=>?_;refine al (fL ei hx) λt e'=>?_;refine iI (qg h hr) λv k rv ek hk hs h0 h1=>?_;have l1:IsTup s.heap a1 ⟨vs⟩:=(dl _ g rfl _ rfl);have hlen:vs.length<=4096:=hr.length▸hl;have hi:=yB hk h0 h1;exact aa (e) (aa (e') (kS l1.typeIs slot_tuple_getitem.lookup (getItem_tuple l1 (by exact GK hlen hi) (by exact GL hlen hi) hs (x:=v) ((jY vs k).trans ek) ⟨ae.refl X0 s,rv⟩)))
 | str l=>
  refine ab h λi ei h=>cq ((ha:_/\∃t,v=.str ⟨⟨l⟩⟩ t)) λhl t e=>?_;refine al (fL ei hx) λt' e'=>?_;refine af (yD h) λd hd er=>ko (yA hd) λk ek hk hs h0 h1=>?_;have hi:=yB hk h0 h1;exact aa e (aa e' (aa er (kS (Zh s _ _) F.slot_str_getitem.lookup (yC hl ek hs hi.1 hi.2 yE))))
 | pat l=>
  refine ab h λk ek h=>il ((ha:_/\_/\∃t,v=.str ⟨⟨c.pre++l⟩⟩ t)) λhp hl t e=>?_;refine al (kR ek hx) λt' e'=>?_;refine af (yD h) λd hd er=>?_;have eg:(c.pre++l)[c.P+k]?=some d:=by
   simp only[<-hp,List.getElem?_append_right (XX ..),Nat.add_sub_cancel_left,<-kP];exact hd
  have hlt:=(Yh.mp eg).1;exact aa e (aa e' (aa er (kS (Zh s _ _) F.slot_str_getitem.lookup (yC hl eg (ua hlt) (YW (Int.neg_nonpos_of_nonneg (XM _)) (XM _)) (Y7.mpr hlt) yE))))
 | lpat l=>
  refine ab h λk ek h=>jh ha λa1 us vs n zc0=>jM zc0 λe hx1 g hp hl hr=>?_;refine al (kR ek hx) λt' e'=>?_;refine af (hr.nth h) λv ev rv=>?_;have eg:(us++vs)[c.P+k]?=some v:=by
   rw[<-hp,List.getElem?_append_right (XX ..),Nat.add_sub_cancel_left];exact ev
  exact aa (e) (aa (e') (kS (Heap.IsList.typeIs (dl _ g rfl _ rfl)) list_getitem_lookup (qh g (XU hl) eg (Yh.mp eg).1 (λ_=>rfl) (λx=>absurd x (Int.not_lt.mpr (XM _))) ⟨ae.refl X0 s,rv⟩)))
 | _=>cases (h:none=some r)
theorem qi{n:Nat}{a:AV}{h:Heap}{v:W2}{p:Option Nat}(e:nN n a=some p)(ha:ao c h a v) :
  ∃q:Option (Int×Tok),v=partValue q/\p=(q.map (·.1)).map (fz n)/\IsPart v (q.map (·.1)):=by
 cases a with
 | none=>exact aA (show v=.none from ha) (de none rfl ((W9 e).symm) (.none))
 | int i=>exact al ((ha:∃t,v=.int i t)) λt ev=>aA ev (de (some (_,t)) rfl ((W9 e).symm) (.int _ _))
 | _=>exact aT (e:none=some p)
theorem yF{a:AV}{h:Heap}{v:W2}{p:Option Nat}(e:sK a=some p)(ha:ao c h a v) :
  ∃k t,p=some k/\v=.int (.ofNat (c.P+k)) t:=by
 cases a with
 | idx i=>exact al ((ha:∃t,v=.int (.ofNat (c.P+i)) t)) λt ev=>(cx i t ((W9 e).symm) ev)
 | _=>cases (e:none=some p)
theorem Jc(pre r:List Nat)(i j:Nat):cut (pre++r) (some (pre.length+i)) (some (pre.length+j))=cut r (some i) (some j):=by
 unfold cut;simp only[Option.getD];rw[List.take_length_add_append,List.drop_length_add_append]
theorem aq.cut{h:Heap}{l:List AV}{vs:List W2}(r:aq c h l vs)(p q:Option Nat):aq c h (cut l p q) (cut vs p q):=by
 cases q with
 | none=>exact r.drop _
 | some k=>exact(r.take k).drop _
theorem yG{e1 e2:Expr}{l y:List Nat}{t:Tok}{p q:Option (Int×Tok)}(hl:l.length<=aD)(e:cut l ((p.map (·.1)).map (fz l.length)) ((q.map (·.1)).map (fz l.length))=y) :
  Xf (Xe prog w) A (Z2 e1 e2 (.str ⟨⟨l⟩⟩ t) (.ref s.heap.objs.size)) (ff c s (.str y)) nr {s with heap:=s.heap.push {cls:=.type "slice",data:=.fields #[partValue p,partValue q,.none]}}:=by
 have X:=ae.push X0 s {cls:=.type "slice",data:=.fields #[partValue p,partValue q,.none]};refine kS (Zh _ _ _) F.slot_str_getitem.lookup (wpAny_getItem_str_slice (l:=p) (u:=q) (st:=none) (de _ (Xl _ rfl) rfl rfl) rfl (post_val_or_str ?_));have e':=IZ l (p.map (·.1)) (q.map (·.1));rw[e]at e';unfold Txt.slice at e';have hy:y.length<=aD:=W6 (e▸yy ..) hl;exact⟨W6 (Nat.le_of_eq (congrArg Str.length e')) (W6 hy (Nat.le_of_succ_le yk)),λt' k=>(fU X.toks hy t' (congrArg (Value.str · t') e'))⟩
theorem Jd{e1 e2:Expr}{a x y r:AV}{v u z:W2}(h:xi a x y=some r)(ha:ao c s.heap a v)(hx:ao c s.heap x u)(hy:ao c s.heap y z)(hc:bW c s.heap) :
  Xf (Xe prog w) A (Z2 e1 e2 v (.ref s.heap.objs.size)) (ff c s r) nr {s with heap:=s.heap.push {cls:=.type "slice",data:=.fields #[u,z,.none]}}:=by
 cases a with
 | str l=>
  refine ab h λp hp h=>ab h λq hq h=>aL h ?_;refine cq ((ha:_/\∃t,v=.str ⟨⟨l⟩⟩ t)) λhl t e=>dY (qi hp hx) λp e1 e2 zz=>?_;refine dY (qi hq hy) λq e3 e4 zz=>?_;exact aa (e) (aa (e1) (aa (e3) (aa (e2) (aa (e4) (yG hl rfl)))))
 | lst l=>
  refine ab h λp hp h=>ab h λq hq h=>aL h ?_;refine b5 ha λa1 vs n e hx1 g hl hr=>dY (qi hp hx) λp e1 e2 ip=>?_;refine dY (qi hq hy) λq e3 e4 iq=>?_;have X:=ae.push X0 s {cls:=.type "slice",data:=.fields #[u,z,.none]};have l1:(s.heap.push {cls:=.type "slice",data:=.fields #[u,z,.none]}).IsList a1 ⟨vs⟩:=(dl _ (X.all _ _ g) rfl _ rfl);have hlen:=hr.length;refine aa e (aa e2 (aa e4 (aS hlen (kS l1.typeIs list_getitem_lookup (wpAny_getItem_list_slice l1 (Heap.IsSliceOf.new ..) ip iq .none (by simp) ?_ (W6 (show vs.length<=aD from hlen▸hl) (Nat.le_of_succ_le yk)))))));have e:slicePick ⟨vs⟩ (p.map (·.1)) (q.map (·.1)) none=⟨cut vs ((p.map (·.1)).map (fz vs.length)) ((q.map (·.1)).map (fz vs.length))⟩:=by
   rw[slicePick_plain,<-yx];rfl
  refine aa (e) ?_;have N:=tY (s:={s with heap:=s.heap.push {cls:=.type "slice",data:=.fields #[u,z,.none]}}) (t:=s.toks) (hc.keep X.live) (W6 (yy ..) hl) ((hr.cut ((p.map (·.1)).map (fz vs.length)) ((q.map (·.1)).map (fz vs.length))).keep (.of0 X.all));exact⟨X.trans N.1,N.2⟩
 | pat l=>
  refine ab h λp hp h=>ab h λq hq h=>aL h ?_;refine il ((ha:_/\_/\∃t,v=.str ⟨⟨c.pre++l⟩⟩ t)) λhpre hl t e=>cw (yF hp hx) λi ti e1 e2=>?_;refine cw (yF hq hy) λj tj e3 e4=>?_;exact aa e (aa e1 (aa e2 (aa e3 (aa e4 (yG (p:=some (_,ti)) (q:=some (_,tj)) hl (hpre▸Jc ..))))))
 | _=>exact aT (h:none=some r)
theorem kT(sc:YM)(X:Str):gm sc (nm X)=sc.names.lookup X:=by
 obtain⟨_,names,_⟩:=sc;show(names.find? λp=>ax (nm p.1) (nm X)).map (·.2)=names.lookup X;induction names with
 | nil=>rfl
 | cons p r ih=>
  obtain⟨y,k⟩:=p;refine aa (List.find?_cons) ?_;dsimp only[Yy];cases h:X==y with
  | true=>
   have:=beq_iff_eq.mp h;clear ih;refine aS this ?_;have:ax (nm X) (nm X)=true:=aW.mpr rfl
   (refine aa this ?_);rfl
  | false=>
   have h':ax (nm y) (nm X)=false:=by
    rw[Bool.eq_false_iff];intro e;have:=cF (aW.mp e);clear ih;subst this;simp at h
   (refine aa h' ?_);exact ih
noncomputable def aQ(x:aH)(env:Env):Prop:=x.sc=env.scope/\(x.gen≠0->∃q,GT q/\env.code=.ref q.1)
noncomputable def oe(K:Frag)(mg:Str->Option W2)(X:Str)(a:Addr):Prop:=mg X=some (.ref a)/\∃o fd,K.lookup a=some o/\o.data=.func fd/\¬aG a
structure dh(prog:Y3)(w:aal)(K:Frag)(mg:Str->Option W2)(T:bh)(m:Nat):Prop where
 glob:∀h,aC K h->h.Ns Xj mg
 bi:∀X:Str,nm X=kA\/nm X=mx\/nm X=iO\/nm X=kB->mg X=none
 gc:∀X a,T.gc (nm X)=some a->∃v,mg X=some v/\∀c h,ao c h a v
 fn:∀X vs r,T.fn (nm X) vs=some r->∃a,oe K mg X a/\∀(c:aj)(s:Xd) us A,aC K s.heap->bW c s.heap->aq c s.heap vs us->1<=s.toks->az m A->
  Xf (Xe prog w) A (call (.ref a) us) (λv s'=>ae aG s s'/\aC K s'.heap/\ao c s'.heap r v) nr s
 cf:∀X cl vs r cl',T.cf (nm X) cl vs=some (r,cl')->∃a,oe K mg X a/\∀(c:aj)(s:Xd) us b A,aC K s.heap->bW c s.heap->aq c s.heap vs us->b∈c.cells->bD c s.heap b cl->1<=s.toks->az m A->
  Xf (Xe prog w) A (call (.ref a) (.ref b::us)) (λv s'=>ae (λx=>x=b\/aG x) s s'/\aC K s'.heap/\bD c s'.heap b cl'/\ao c s'.heap r v) nr s
theorem qj{ps:Array W2}:¬dK (tabObj ps):=by nofun
theorem aC.keepData{K:Frag}{h h':Heap}{c:aj}(B:aC K h)(C:bW c h)(k:∀b o,h.get? b=some o->¬XE c b->h'.get? b=some o):b6 c h h':=by
 intro b o e nx so;refine k b o e ?_;rintro(x | x)
 ·exact nx (C.sub b x)
 ·obtain⟨q,hq,rfl⟩:∃q∈cz,q.2=b:=by
   clear e nx;rcases x with rfl | rfl | rfl | rfl<;>simp[cz]
  refine af (B.tab q hq) λps e' zz=>?_;have zs:=fS e e';clear e zz;subst zs;exact qj so
section
variable(K:Frag)
noncomputable def bf(c:aj)(env:Env)(ρ:ai)(s:Xd)(t:PV)(σ:S)(v:W2)(s':Xd):Prop:=ae (XE c) s s'/\ak K c env ρ σ s'/\bN c s'.heap t v
noncomputable def og(c:aj)(env:Env)(ρ:ai)(s:Xd)(b:Bool)(σ:S)(v:Bool)(s':Xd):Prop:=v=b/\ae (XE c) s s'/\ak K c env ρ σ s'
noncomputable def Je(c:aj)(env:Env)(ρ:ai)(s:Xd)(ts:List AV)(σ:S)(vs:List W2)(s':Xd):Prop:=ae (XE c) s s'/\ak K c env ρ σ s'/\aq c s'.heap ts vs
noncomputable def dM(c:aj)(h:Heap):List PV->List W2->Prop
 | [],vs=>vs=[]
 | t::ts,vs=>∃v r,vs=v::r/\bN c h t v/\dM c h ts r
noncomputable def yH(c:aj)(env:Env)(ρ:ai)(s:Xd)(ts:List PV)(σ:S)(vs:List W2)(s':Xd):Prop:=ae (XE c) s s'/\ak K c env ρ σ s'/\dM c s'.heap ts vs
end
theorem dM.vals{c:aj}{h:Heap}:∀{ts:List PV}{vs:List W2}{us:List AV},dM c h ts vs->vals ts=some us->aq c h us vs
 | [],_,_,r,e=>W9 e▸r
 | _::_,_,_,zp2,e=>by
  exact bb zp2 λzz zz e1 p q=>ab e λ_ ea e=>ab e λ_ eu e=>aL e (aA e1 (aq.cons (jU ea▸p:bN c h (.val _) _) (q.vals eu)))
section
theorem ak.kd(I:ak K c env ρ σ s)(X:ae (XE c) s s1):b6 c s.heap s1.heap:=I.base.keepData I.cfg X.keep
theorem no{E:W2->Xd->Prop}:∀x s,nr x s->E x s:=λ_ _ f=>f.elim
theorem bf.of_val{t:AV}{v:W2}(X:ae (XE c) s s1)(I:ak K c env ρ σ s1)(r:ff c s1 t v s2)(tk:1<=s2.toks):bf K c env ρ s (.val t) σ v s2:=
 (bR (X.trans r.1.x0) (I.keep0 r.1 tk) r.2)
variable(prog w K T m)
noncomputable def ce(n:Nat):Prop:=∀{x:aH}{c env ρ σ e t σ' s A},x.tab=T->aQ x env->pe n x ρ σ e=some (t,σ')->ak K c env ρ σ s->az (m+x.gen) A->
 Xf (Xe prog w) A (eval e env) (bf K c env ρ s t σ') nr s
noncomputable def ub(n:Nat):Prop:=∀{x:aH}{c env ρ σ e t σ' s A},x.tab=T->aQ x env->peo n x ρ σ e=some (t,σ')->ak K c env ρ σ s->az (m+x.gen) A->
 Xf (Xe prog w) A (evalPart e env) (bf K c env ρ s t σ') nr s
noncomputable def kU(n:Nat):Prop:=∀{x:aH}{c env ρ σ es ts σ' s A pos},x.tab=T->aQ x env->pes n x ρ σ es=some (ts,σ')->ak K c env ρ σ s->az (m+x.gen) A->
 Xf (Xe prog w) A (spliced (aae pos (YD es env))) (Je K c env ρ s ts σ') nr s
noncomputable def mP(n:Nat):Prop:=∀{x:aH}{c env ρ σ es ts σ' s A pos},x.tab=T->aQ x env->pargs n x ρ σ es=some (ts,σ')->ak K c env ρ σ s->az (m+x.gen) A->
 Xf (Xe prog w) A (spliced (aae pos (YD es env))) (yH K c env ρ s ts σ') nr s
noncomputable def oh(n:Nat):Prop:=∀{x:aH}{c env ρ σ acc es t σ' s A},x.tab=T->aQ x env->pjoin n x ρ σ acc es=some (t,σ')->ak K c env ρ σ s->az (m+x.gen) A->
 Xf (Xe prog w) A (joinParts ⟨⟨acc⟩⟩ (evalEach es env)) (bf K c env ρ s t σ') nr s
noncomputable def gH(n:Nat):Prop:=∀{x:aH}{c env ρ σ e b σ' s A},x.tab=T->aQ x env->pt n x ρ σ e=some (b,σ')->ak K c env ρ σ s->az (m+x.gen) A->
 Xf (Xe prog w) A (isTrue e env (eval e env)) (og K c env ρ s b σ') nr s
noncomputable def qk(n:Nat):Prop:=∀{x:aH}{c env ρ σ es b σ' s A},x.tab=T->aQ x env->pall n x ρ σ es=some (b,σ')->ak K c env ρ σ s->az (m+x.gen) A->
 Xf (Xe prog w) A (allTrue .And es env) (og K c env ρ s b σ') nr s
noncomputable def ql(n:Nat):Prop:=∀{x:aH}{c env ρ σ es b σ' s A},x.tab=T->aQ x env->pany n x ρ σ es=some (b,σ')->ak K c env ρ σ s->az (m+x.gen) A->
 Xf (Xe prog w) A (allTrue .Or es env) (og K c env ρ s b σ') nr s
variable{prog w K T m}
theorem oj{X:Str}(hd:ax (nm X) eM=false):(X==("__debug__":Str))=false:=by
 rw[beq_eq_false_iff_ne];rintro rfl;exact absurd hd (by decide)
theorem jZ{b:Bool}(h:(!b)=true):b=false:=by cases b<;>first | rfl | exact eE h
theorem mQ{X:Str}{pos:Pos}{t:PV}(hd:ax (nm X) eM=false)(h:aB ρ (nm X)=some t)(I:ak K c env ρ σ s) :
  Xf (Xe prog w) A (eval (.Name X pos) env) (bf K c env ρ s t σ) nr s:=by
 have hd':=oj hd;refine af (I.env.vars X t h) λv hv hr=>?_;have fin:bf K c env ρ s t σ v s:=(bR (ae.refl _ s) I hr);refine wpAny_Name ?_ hd';rcases hv with ⟨k,mm,hn,hm⟩ | ⟨k | ⟨k,hc⟩,a,ha,hx⟩
 ·exact ZE I.env.kind k hn hm fin
 ·exact wpAny_loadName_cell I.env.kind k ha hx fin
 ·exact wpAny_loadName_free I.env.kind k ha hx fin hc
theorem iw(O:dh prog w K mg T m)(I:ak K c env ρ σ s):s.heap.Ns env.globals mg:=by rw[I.env.globals];exact O.glob _ I.base
theorem Jf{k:Const}{u:Nat}{p:Pos}{t:PV}(h:xy σ k=some (t,σ'))(I:ak K c env ρ σ s) :
  Xf (Xe prog w) A (eval (.Constant k u p) env) (bf K c env ρ s t σ') nr s:=by
 cases k with
 | none=>exact ck h (wpAny_Constant_none (bR (ae.refl _ s) I rfl))
 | bool b=>exact ck h (wpAny_Constant_bool (bR (ae.refl _ s) I rfl))
 | int i=>exact ck h (wpAny_Constant_int (bf.of_val (ae.refl _ s) I iV (Yk 1 s.toks)))
 | str x=>exact gZ h λv hv=>have g:=iU hv;aA g.2 (Zb (bf.of_val (ae.refl _ s) I (yl g.1) (Yk 1 s.toks)))
 | _=>exact aT (h:none=some (t,σ'))
theorem qm{k:Option Yl}(h:jT k=true):k=some .globalImplicit:=by
 cases k with
 | none=>cases h
 | some k=>cases k<;>first | rfl | cases h
theorem Jg(O:dh prog w K mg T m)(ht:x.tab=T)(hs:aQ x env){X:Str}{p:Pos}{t:PV}(h:sU x ρ σ X=some (t,σ'))(I:ak K c env ρ σ s) :
  Xf (Xe prog w) A (eval (.Name X p) env) (bf K c env ρ s t σ') nr s:=by
 refine aK h λhd h=>dn h (λv hv h=>ck h (mQ (jZ hd) hv I)) λ_ h=>aK h λhk h=>gZ h λa ha=>?_;rw[hs.1,kT]at hk;exact af (O.gc X a (ht▸ha)) λv hv hr=>Xx I.env.kind (qm hk) (YX (iw O I) hv (bR (ae.refl _ s) I (hr c _))) (oj (jZ hd))
theorem uc{n:Nat}(P:ce prog w K T m n)(ht:x.tab=T)(hs:aQ x env){l r:Expr}{a b:AV}{σ2:S}(h1:pe n x ρ σ l=some (.val a,σ1))(h2:pe n x ρ σ1 r=some (.val b,σ2))(I:ak K c env ρ σ s)(R:az (m+x.gen) A){Q:W2->W2->Xd->Prop}{E:W2->Xd->Prop}
  (k:∀v u s2,ae (XE c) s s2->ak K c env ρ σ2 s2->ao c s2.heap a v->ao c s2.heap b u->Q v u s2):Xf (Xe prog w) A (eval l env) (λv s1=>Xf (Xe prog w) A (eval r env) (λu s2=>Q v u s2) E s1) E s:=
 KE (P ht hs h1 I R) (λv s1 q1=>KE (P ht hs h2 q1.2.1 R) (λu s2 q2=>k v u s2 (q1.1.trans q2.1) q2.2.1 (ao.keep (q1.2.1.kd q2.1) q1.2.2) q2.2.2) no) no
theorem Jh{n:Nat}(P:ce prog w K T m n)(ht:x.tab=T)(hs:aQ x env){l r:Expr}{o:Z8}{p:Pos}{t:PV}(h:pe (n+1) x ρ σ (.BinOp l o r p)=some (t,σ'))(I:ak K c env ρ σ s)(R:az (m+x.gen) A) :
  Xf (Xe prog w) A (eval (.BinOp l o r p) env) (bf K c env ρ s t σ') nr s:=
 XJ I.tk (cG h λa σ1 h1 h=>cG h λb σ2 h2 h=>gZ h λz hz=>
  wpAny_BinOp (uc P ht hs h1 h2 I R λv u s2 X2 I2 r1 r2=>KE (II hz r1 r2 I2.cfg) (λz s3 r3=>bf.of_val X2 I2 r3) no))
theorem Ji{x:List Nat}:((x.length:Int) != 0)=full x:=by
 cases x with
 | nil=>rfl
 | cons a l=>exact bne_iff_ne.mpr (λe=>nomatch (Int.ofNat.inj e:l.length+1=0))
theorem yI{a:AV}{b:Bool}{v:W2}(h:iM a=some b)(ha:ao c s.heap a v):Xf (Xe prog w) A (truthy v) (λb' s'=>b'=b/\ae X0 s s') nr s:=by
 cases a with
 | none=>exact aL h (aA (show v=.none from ha) (PyProof.Rows.truthy_none ⟨rfl,ae.refl _ s⟩))
 | bool x=>exact aL h (aA (show v=.bool x from ha) (Zi ⟨rfl,ae.refl _ s⟩))
 | int i=>exact aL h (al ((ha:∃t,v=.int i t)) λt e=>aA e (PyProof.Rows.truthy_int ⟨rfl,ae.refl _ s⟩))
 | str x=>exact aL h (cq ((ha:_/\∃t,v=.str ⟨⟨x⟩⟩ t)) λhl t e=>aA e (P.truthy_str (Int.not_le.mpr (Y7.mpr (Xu hl (by decide)))) ⟨Ji,ae.tk X0 s _⟩))
 | lst x=>
  refine aL h (b5 ha λa1 vs n e hx g hl hr=>?_);have hlen:=hr.length;refine aa e (wpAny_truthy_list (dl _ g rfl _ rfl) (Y7.mpr (Xu (show vs.length<=aD from hlen▸hl) (by decide))) ⟨?_,ae.tk X0 s _⟩);cases x with
  | nil=>(refine aa (XY hlen) ?_);rfl
  | cons=>cases vs with
   | nil=>injection hlen
   | cons=>rfl
 | _=>exact aT (h:none=some b)
theorem Jj{n:Nat}(P:ce prog w K T m n)(ht:x.tab=T)(hs:aQ x env){l:Expr}{o:UnaryOp}{p:Pos}{t:PV}(h:pe (n+1) x ρ σ (.UnaryOp o l p)=some (t,σ'))(I:ak K c env ρ σ s)(R:az (m+x.gen) A) :
  Xf (Xe prog w) A (eval (.UnaryOp o l p) env) (bf K c env ρ s t σ') nr s:=by
 refine XJ I.tk (cG h λa σ1 h1 h=>gZ h λz hz=>PySem.wpAny_UnaryOp (KE (P ht hs h1 I R) (λv s1 q=>?_) no));cases o with
 | USub=>exact ab hz λi ei hz=>aL hz (al (fL ei q.2.2) λt e=>aA e (PyProof.Rows.neg_int (bf.of_val q.1 q.2.1 iV)))
 | Not=>exact ab hz λb hb hz=>aL hz (not_value (KE (yI hb q.2.2) (λb s2 q2=>aA q2.1 (bf.of_val q.1 q.2.1 ⟨q2.2,rfl⟩)) no))
 | _=>exact aT (hz:none=some z)
theorem ud{n:Nat}(P:ce prog w K T m n)(ht:x.tab=T)(hs:aQ x env){l:Expr}{a:AV}{b:Bool}(h1:pe n x ρ σ l=some (.val a,σ1))(hb:iM a=some b)(I:ak K c env ρ σ s)(R:az (m+x.gen) A){Q:W2->Bool->Xd->Prop}{E:W2->Xd->Prop}
  (k:∀v s2,bf K c env ρ s (.val a) σ1 v s2->Q v b s2):Xf (Xe prog w) A (eval l env) (λv s1=>Xf (Xe prog w) A (truthy v) (Q v) E s1) E s:=
 KE (P ht hs h1 I R) (λv s1 q1=>KE (Ys q1.2.1.tk (yI hb q1.2.2)) (λb' s2 q=>aA q.2.1 (k v s2 (bR (q1.1.trans q.2.2.x0) (q1.2.1.keep0 q.2.2 q.1) (ao.keep (.of0 q.2.2.all) q1.2.2)))) λ_ _ f=>f.2.elim) no
theorem Jk{n:Nat}(P:ce prog w K T m n)(ht:x.tab=T)(hs:aQ x env){es:List Expr}{o:BoolOp}{p:Pos}{t:PV}(h:pe (n+1) x ρ σ (.BoolOp o es p)=some (t,σ'))(I:ak K c env ρ σ s)(R:az (m+x.gen) A) :
  Xf (Xe prog w) A (eval (.BoolOp o es p) env) (bf K c env ρ s t σ') nr s:=by
 refine ab h λq hq h=>cG h λa σ1 h1 h=>ab h λb hb h=>aa (jV hq) ?_;have go:∀{s2},ae (XE c) s s2->ak K c env ρ σ1 s2->pe n x ρ σ1 q.2=some (t,σ')->Xf (Xe prog w) A (eval q.2 env) (bf K c env ρ s t σ') nr s2:=λX2 I2 h=>KE (P ht hs h I2 R) (λv s3 q=>⟨X2.trans q.1,q.2⟩) no;cases o with
 | And=>
  refine BoolOp_and (ud P ht hs h1 hb I R λv s2 q2=>?_);cases b with
  | false=>exact ck h q2
  | true=>exact BoolOp_one (go q2.1 q2.2.1 h)
 | Or=>
  refine BoolOp_or (ud P ht hs h1 hb I R λv s2 q2=>?_);cases b with
  | true=>exact ck h q2
  | false=>exact BoolOp_one (go q2.1 q2.2.1 h)
theorem Jl{n:Nat}(P:ce prog w K T m n)(Pt:gH prog w K T m n)(ht:x.tab=T)(hs:aQ x env){q l r:Expr}{p:Pos}{t:PV}(h:pe (n+1) x ρ σ (.IfExp q l r p)=some (t,σ'))(I:ak K c env ρ σ s)(R:az (m+x.gen) A) :
  Xf (Xe prog w) A (eval (.IfExp q l r p) env) (bf K c env ρ s t σ') nr s:=by
 refine bT h λb σ1 h1 h=>IfExp_ (KE (Pt ht hs h1 I R) (λb' s1 q=>aA q.1 ?_) no);cases b with
 | true=>exact KE (P ht hs h q.2.2 R) (λv s3 q3=>⟨q.2.1.trans q3.1,q3.2⟩) no
 | false=>exact KE (P ht hs h q.2.2 R) (λv s3 q3=>⟨q.2.1.trans q3.1,q3.2⟩) no
theorem yJ{n:Nat}{o:CmpOp}{e:Expr}{t:PV}(h:pe n x ρ σ e=some (t,σ')):behindInMarks o e=false:=by
 cases n with
 | zero=>exact aT (h:none=some (t,σ'))
 | succ n=>cases e<;>first | rfl | exact aT (h:none=some (t,σ'))
theorem Jm{n:Nat}(P:ce prog w K T m n)(ht:x.tab=T)(hs:aQ x env){l:Expr}{os:List CmpOp}{rs:List Expr}{p:Pos}{t:PV}(h:pe (n+1) x ρ σ (.Compare l os rs p)=some (t,σ'))(I:ak K c env ρ σ s)(R:az (m+x.gen) A) :
  Xf (Xe prog w) A (eval (.Compare l os rs p) env) (bf K c env ρ s t σ') nr s:=
 ab h λo ho h=>ab h λr hr h=>aA (dT ho) (aA (dT hr) (cG h λa σ1 h1 h=>cG h λb σ2 h2 h=>ab h λv hv h=>ck h (
  wpAny_Compare1 (uc P ht hs h1 h2 I R λz u s2 X2 I2 r1 r2=>mO hv r1 r2 R I2.cfg _ _ (bR X2 I2 rfl)) (yJ h2))))
theorem Jn{n:Nat}(P:kU prog w K T m n)(ht:x.tab=T)(hs:aQ x env){es:List Expr}{k:Nat}{p:Pos}{t:PV}(h:pe (n+1) x ρ σ (.Tuple es k p)=some (t,σ'))(I:ak K c env ρ σ s)(R:az (m+x.gen) A) :
  Xf (Xe prog w) A (eval (.Tuple es k p) env) (bf K c env ρ s t σ') nr s:=
 XJ I.tk (bT h λvs σ1 h1 h=>aK h λhg h=>ck h (have hl:=Xn hg
  PySem.wpAny_Tuple (KE (P ht hs h1 I R) (λa s1 q=>⟨W6 (q.2.2.length▸hl:a.length<=aD) (by decide),bf.of_val q.1 q.2.1 (IG q.2.1.cfg hl q.2.2)⟩) no)))
theorem Jo{n:Nat}(P:kU prog w K T m n)(ht:x.tab=T)(hs:aQ x env){es:List Expr}{p:Pos}{t:PV}(h:pe (n+1) x ρ σ (.List es p)=some (t,σ'))(I:ak K c env ρ σ s)(R:az (m+x.gen) A) :
  Xf (Xe prog w) A (eval (.List es p) env) (bf K c env ρ s t σ') nr s:=
 XJ I.tk (bT h λvs σ1 h1 h=>gZ h λz hz=>have g:=tT hz;aA g.2 (
  PySem.wpAny_List (KE (P ht hs h1 I R) (λa s1 q=>⟨W6 (q.2.2.length▸g.1:a.length<=aD) (by decide),bf.of_val q.1 q.2.1 (tY q.2.1.cfg g.1 q.2.2)⟩) no)))
end
noncomputable def Jp(prog:Y3)(w:aal)(K:Frag)(m:Nat)(X:Str)(z:Int)(l vs:List AV)(r:AV)(cl':bE):Prop:=∃f o fd,K.lookup f=some o/\o.data=.func fd/\¬aG f/\
  (∀{c:aj}{s:Xd}{b:Addr}{A:Zp}{e:Expr}{env:Env}{z':Int}{l':List AV},aC K s.heap->bW c s.heap->b∈c.cells->bD c s.heap b ⟨some z',l'⟩->az m A->
   ∀Q:W2×List W2->Xd->Prop,Q (.ref f,[.ref b]) s->Xf (Xe prog w) A (calleeOf true e env (.ref b) X) Q nr s)/\
  (∀{c:aj}{s:Xd}{b:Addr}{us:List W2}{A:Zp},aC K s.heap->bW c s.heap->b∈c.cells->bD c s.heap b ⟨some z,l⟩->aq c s.heap vs us->1<=s.toks->az m A->
   Xf (Xe prog w) A (call (.ref f) (.ref b::us)) (λv s'=>ae (λx=>x=b\/aG x) s s'/\aC K s'.heap/\bD c s'.heap b cl'/\ao c s'.heap r v) nr s)
structure ix(prog:Y3)(w:aal)(K:Frag)(mg:Str->Option W2)(m:Nat):Prop where
 item:∀{c:aj}{s:Xd}{b:Addr}{z:Int}{l:List AV}{i:Int}{t:Tok}{r:AV}{A:Zp}{e1 e2:Expr},aC K s.heap->bW c s.heap->b∈c.cells->bD c s.heap b ⟨some z,l⟩->is l i=some r->az m A->
  Xf (Xe prog w) A (Z2 e1 e2 (.ref b) (.int i t)) (ff c s r) nr s
 len:∀{c:aj}{s:Xd}{b:Addr}{z:Int}{l:List AV}{k:Nat}{A:Zp},aC K s.heap->bW c s.heap->b∈c.cells->bD c s.heap b ⟨some z,l⟩->iN l=some k->0<=z->z<=4->1<=s.toks->az m A->
  Xf (Xe prog w) A (call (.builtin "len") [.ref b]) (λv s'=>ae aG s s'/\aC K s'.heap/\ao c s'.heap (.int (z + .ofNat k)) v) nr s
 str:∀{c:aj}{s:Xd}{b:Addr}{z:Int}{l:List AV}{x:List Nat}{A:Zp},aC K s.heap->bW c s.heap->b∈c.cells->bD c s.heap b ⟨some z,l⟩->jp l=some x->x.length<=aD->1<=s.toks->az m A->
  Xf (Xe prog w) A (call (.type "str") [.ref b]) (λv s'=>ae aG s s'/\aC K s'.heap/\ao c s'.heap (.str x) v) nr s
 meth:∀{X:Str}{z:Int}{l:List AV}{vs:List AV}{r:AV}{cl':bE},iu (nm X) ⟨some z,l⟩ vs=some (r,cl')->Jp prog w K m X z l vs r cl'
theorem kW{n:Nat}{e:Expr}{t:PV}{rest:List Expr}(h:pe n x ρ σ e=some (t,σ')):YD (e::rest) env=(false,eval e env)::YD rest env:=by
 cases n with
 | zero=>exact aT (h:none=some (t,σ'))
 | succ n=>cases e<;>first | rfl | cases (h:none=some (t,σ'))
theorem Jq{n:Nat}(P:ce prog w K T m n)(Ps:kU prog w K T m n):kU prog w K T m (n+1):=by
 intro x c env ρ σ es ts σ' s A pos ht hs h I R;cases es with
 | nil=>exact ck h (wpAny_items_nil (bR (ae.refl _ s) I aq.nil))
 | cons e r=>exact cG h λv σ1 h1 h=>bT h λvs σ2 h2 h=>ck h (wpAny_items_cons (KE (P ht hs h1 I R) (λa s1 q1=>KE (Ps ht hs h2 q1.2.1 R) (λb s2 q2=>(bR (q1.1.trans q2.1) q2.2.1 (aq.cons (ao.keep (q1.2.1.kd q2.1) q1.2.2) q2.2.2))) no) no) (kW h1))
theorem Jr{n:Nat}(P:ce prog w K T m n)(Ps:mP prog w K T m n):mP prog w K T m (n+1):=by
 intro x c env ρ σ es ts σ' s A pos ht hs h I R;cases es with
 | nil=>exact ck h (wpAny_items_nil (bR (ae.refl _ s) I rfl))
 | cons e r=>exact bT h λv σ1 h1 h=>bT h λvs σ2 h2 h=>ck h (wpAny_items_cons (KE (P ht hs h1 I R) (λa s1 q1=>KE (Ps ht hs h2 q1.2.1 R) (λb s2 q2=>⟨q1.1.trans q2.1,q2.2.1,_,_,rfl,q1.2.2.keep (q1.2.1.kd q2.1),q2.2.2⟩) no) no) (kW h1))
theorem Js{n:Nat}(P:ce prog w K T m n):ub prog w K T m (n+1):=by
 intro x c env ρ σ e t σ' s A ht hs h I R;cases e with
 | none=>exact ck h (Ev (bR (ae.refl _ s) I rfl))
 | some e=>exact P ht hs h I R
theorem ue:∀{n:Nat}{σ:S}{acc:List Nat}{es:List Expr}{t:PV},pjoin n x ρ σ acc es=some (t,σ')->acc.length<=aD
 | n+1,σ,acc,[],t,h=>ab h λv hv _=>(iU hv).1
 | n+1,σ,acc,e::r,t,h=>dn h (λy _ h=>W6 (Om▸XX ..) (ue h)) λ_ h=>ab h λq _ h=>cG h λa _ _ h=>ab h λy _ h=>W6 (Om▸XX ..) (ue h)
theorem uf(a:List Nat)(b:Str):(⟨⟨a⟩⟩++b:Str)=⟨⟨a++b.cps.toList⟩⟩:=by
 obtain⟨⟨b⟩⟩:=b;show Str.append _ _=_;simp[Str.append]
theorem yK{n:Nat}(Pj:oh prog w K T m n)(ht:x.tab=T)(hs:aQ x env){acc:List Nat}{y:Str}{r:List Expr}{t:PV}{s0:Xd}(h:pjoin n x ρ σ (acc++y.cps.toList) r=some (t,σ'))(X:ae (XE c) s0 s)(I:ak K c env ρ σ s)(R:az (m+x.gen) A) :
  ((⟨⟨acc⟩⟩++y:Str).length<=sizeLine)/\Xf (Xe prog w) A (joinParts (⟨⟨acc⟩⟩++y) (evalEach r env)) (bf K c env ρ s0 t σ') nr s:=by
 rw[uf];exact⟨W6 (ue h) (by decide),KE (Pj ht hs h I R) (λv s3 q=>⟨X.trans q.1,q.2⟩) no⟩
theorem Jt{n:Nat}(P:ce prog w K T m n)(Pj:oh prog w K T m n):oh prog w K T m (n+1):=by
 intro x c env ρ σ acc es t σ' s A ht hs h I R;cases es with
 | nil=>exact gZ h λv hv=>have g:=iU hv;aA g.2 (joinParts_nil (bf.of_val (ae.refl _ s) I (yl g.1) (Yk 1 s.toks)) (W6 g.1 (by decide)))
 | cons e r=>
  refine dn h (λy hy h=>?_) λ_ h=>ab h λq hq h=>cG h λa σ1 h1 h=>ab h λy hy h=>?_
  ·exact dd (nX hy) λsx k p e1 e2=>aa e1 (joinParts_cons (Zb (yK (y:=sx) Pj ht hs (show pjoin n x ρ σ (acc++nm sx) r=_ from e2▸h) (ae.tk (XE c) s _) (I.keep0 (ae.tk X0 s _) (Yk 1 s.toks)) R)))
  ·refine al (Ia hq) λp e1=>aa e1 (joinParts_cons (FormattedValue_plain (KE (P ht hs h1 I R) (λa s1 q1=>?_) no)));refine cq (g8 hy q1.2.2) λhy u e2=>aa (e2) (KE (Ys q1.2.1.tk (formatField_str (Q:=λv s'=>∃t' tk,v=.str ⟨⟨y⟩⟩ t'/\s'={s1 with toks:=tk}) (E:=nr) (λt' tk=>(cx t' tk rfl rfl)) (W6 hy (by decide)))) (λv s' q=>?_) λ_ _ f=>f.2.elim);exact eQ q λhtk t' tk e3 e4=>aa (e3) (aa (e4) (yK (y:=⟨⟨y⟩⟩) Pj ht hs h (q1.1.trans (ae.tk (XE c) s1 _)) (q1.2.1.keep0 (ae.tk X0 s1 _) (e4▸htk)) R))
theorem Ju{α:Type}:∀{l:List α},lK l=true->∃a b r,l=a::b::r
 | a::b::r,_=>⟨a,b,r,rfl⟩
theorem Jv{n:Nat}(Pj:oh prog w K T m n)(ht:x.tab=T)(hs:aQ x env){es:List Expr}{p:Pos}{t:PV}(h:pe (n+1) x ρ σ (.JoinedStr es p)=some (t,σ'))(I:ak K c env ρ σ s)(R:az (m+x.gen) A) :
  Xf (Xe prog w) A (eval (.JoinedStr es p) env) (bf K c env ρ s t σ') nr s:=
 aK h λhl h=>let ⟨_,_,_,e⟩:=Ju hl;aA e (JoinedStr_many (Pj ht hs (e▸h) I R))
theorem b8.at{h:Heap}:∀{as:List Addr}{σ:S}{i:Nat}{a:Addr}{cl:bE},b8 c h as σ->bP σ i=some cl->as[i]?=some a->bD c h a cl
 | _,_,_,_,_,C,e,f=>af (C.get e) λzz e1 e2=>W9 (e1.symm.trans f)▸e2
theorem Jw(O:ix prog w K mg m){q:Nat}{cl:bE}{y r:AV}{e1 e2:Expr}{v u:W2}(hc:bP σ q=some cl)(h:lG (.lst cl.items) y=some r)(hp:bN c s.heap (.cell q) v)(hy:ao c s.heap y u)(I:ak K c env ρ σ s)(R:az (m+x.gen) A) :
  Xf (Xe prog w) A (Z2 e1 e2 v u) (ff c s r) nr s:=by
 refine ab h λi ei h=>af hp λad ha e=>al (fL ei hy) λt e'=>aa e (aa e' ?_);have C:=I.cells.at hc ha;obtain⟨ac,l⟩:=cl;cases ac with
 | none=>
  exact eQ C λhl vs nn g rr=>iI (qg h rr) λv k rv e hk zz h0 h1=>kS (Heap.IsList.typeIs (dl _ g rfl _ rfl)) list_getitem_lookup (qh g (rr.length▸hl:vs.length<=aD+1) e hk h0 h1 ⟨ae.refl X0 s,rv⟩)
 | some z=>exact O.item I.base I.cfg (YB ha) C h (R.mono (XX ..))
theorem Jx{n:Nat}(O:ix prog w K mg m)(P:ce prog w K T m n)(Po:ub prog w K T m n)(ht:x.tab=T)(hs:aQ x env){v i:Expr}{p:Pos}{t:PV}(h:pe (n+1) x ρ σ (.Subscript v i p)=some (t,σ'))(I:ak K c env ρ σ s)(R:az (m+x.gen) A) :
  Xf (Xe prog w) A (eval (.Subscript v i p) env) (bf K c env ρ s t σ') nr s:=by
 refine XJ I.tk (dn h (λq hq h=>aK h λhn h=>cG h λa σ1 h1 h=>cG h λy σ2 h2 h=>cG h λz σ3 h3 h=>gZ h λr hr=>?_) λ_ h=>bT h λpv σ1 h1 h=>cG h λy σ2 h2 h=>gZ h λr hr=>?_)
 ·refine al (H7 hq) λps e=>?_;obtain⟨lo,hi,st⟩:=q;cases st with
  | some _=>exact eE hn
  | none=>
   refine aa e (PyProof.Rows.Subscript_ (KE (P ht hs h1 I R) (λa s1 q1=>wpAny_Slice (KE (Po ht hs h2 q1.2.1 R) (λb s2 q2=>KE (Po ht hs h3 q2.2.1 R) (λd s3 q3=>?_) no) no)) no));rw[evalPart_none];exact Ev (KE (Jd hr (ao.keep (q1.2.1.kd (q2.1.trans q3.1)) q1.2.2) (ao.keep (q2.2.1.kd q3.1) q2.2.2) q3.2.2 q3.2.1.cfg) (λz s4 r4=>bf.of_val (q1.1.trans (q2.1.trans q3.1)) q3.2.1 r4) no)
 ·refine PyProof.Rows.Subscript_ (KE (P ht hs h1 I R) (λa s1 q1=>KE (P ht hs h2 q1.2.1 R) (λb s2 q2=>KE ?_ (λz s4 r4=>bf.of_val (q1.1.trans q2.1) q2.2.1 r4) no) no) no);have r1:=q1.2.2.keep (q1.2.1.kd q2.1);cases pv with
  | val a=>exact Jb hr r1 q2.2.2 q2.2.1.cfg
  | cell q=>exact ab hr λcl hc hr=>Jw O hc hr r1 q2.2.2 q2.2.1 R
  | _=>cases (hr:none=some r)
theorem Jy{n:Nat}(P:gH prog w K T m n)(Ps:qk prog w K T m n):qk prog w K T m (n+1):=by
 intro x c env ρ σ es b σ' s A ht hs h I R;cases es with
 | nil=>exact ck h (wpAny_allTrue_And_nil (bR rfl (ae.refl _ s) I))
 | cons e r=>
  refine bT h λv σ1 h1 h=>wpAny_allTrue_And_cons (KE (P ht hs h1 I R) (λa s1 q=>aA q.1 ?_) no);cases v with
  | true=>exact KE (Ps ht hs h q.2.2 R) (λv s3 q3=>(bR q3.1 (q.2.1.trans q3.2.1) q3.2.2)) no
  | false=>exact ck h ⟨rfl,q.2⟩
theorem Jz{n:Nat}(P:gH prog w K T m n)(Ps:ql prog w K T m n):ql prog w K T m (n+1):=by
 intro x c env ρ σ es b σ' s A ht hs h I R;cases es with
 | nil=>exact ck h (wpAny_allTrue_Or_nil (bR rfl (ae.refl _ s) I))
 | cons e r=>
  refine bT h λv σ1 h1 h=>wpAny_allTrue_Or_cons (KE (P ht hs h1 I R) (λa s1 q=>aA q.1 ?_) no);cases v with
  | true=>exact ck h ⟨rfl,q.2⟩
  | false=>exact KE (Ps ht hs h q.2.2 R) (λv s3 q3=>(bR q3.1 (q.2.1.trans q3.2.1) q3.2.2)) no
theorem JA{n:Nat}(P:ce prog w K T m n)(ht:x.tab=T)(hs:aQ x env){e:Expr}{b:Bool}(hp:∀whole,isTrue e env whole=(do let v<-whole;standAt e.pos;holding [v] (truthy v)))
  (h:(bp (pe n x ρ σ e) λp σ1=>bo (xD σ1 p) λb=>some (b,σ1))=some (b,σ'))(I:ak K c env ρ σ s)(R:az (m+x.gen) A) :
  Xf (Xe prog w) A (isTrue e env (eval e env)) (og K c env ρ s b σ') nr s:=by
 refine wpAny_isTrue_value ?_ (hp _);refine bT h λp σ1 h1 h=>ab h λb hb h=>ck h ?_;cases p with
 | val a=>exact ud P ht hs h1 hb I R λv s2 q=>(bR rfl q.1 q.2.1)
 | cell q=>
  refine ab hb λcl hc hb=>ab hb λl hl hb=>aL hb (KE (P ht hs h1 I R) (λa s1 q1=>?_) no);refine af q1.2.2 λad ha e=>?_;obtain⟨ac,l⟩:=cl;cases ac with
  | some _=>cases hl
  | none=>
   cases hl;refine eQ (q1.2.1.cells.at hc ha) λhl vs nn g rr=>?_;have hll:=rr.length;refine aa (e) (wpAny_truthy_list (dl _ g rfl _ rfl) (Y7.mpr (Xu (hll▸hl:vs.length<=aD+1) (by decide))) (bR ?_ (q1.1.trans (ae.tk _ s1 _)) (q1.2.1.keep0 (ae.tk X0 s1 _) (Yk 1 _))));clear hc hl;cases l with
   | nil=>(refine aa (XY hll) ?_);rfl
   | cons=>clear g rr;cases vs with
    | nil=>injection hll
    | cons=>rfl
 | _=>exact aT (hb:none=some b)
theorem JB{n:Nat}(P:ce prog w K T m n)(ht:x.tab=T)(hs:aQ x env){l:Expr}{os:List CmpOp}{rs:List Expr}{p:Pos}{t:Bool}(h:pt (n+1) x ρ σ (.Compare l os rs p)=some (t,σ'))(I:ak K c env ρ σ s)(R:az (m+x.gen) A) :
  Xf (Xe prog w) A (isTrue (.Compare l os rs p) env (eval (.Compare l os rs p) env)) (og K c env ρ s t σ') nr s:=by
 refine dn h (λo ho h=>ab h λr hr h=>aA (dT ho) (aA (dT hr) (cG h λa σ1 h1 h=>cG h λb σ2 h2 h=>ab h λv hv h=>ck h (
  wpAny_isTrue_Compare1 (uc P ht hs h1 h2 I R λz u s2 X2 I2 r1 r2=>mO hv r1 r2 R I2.cfg _ _ (Zi (bR rfl X2 I2))) (yJ h2)))))
  λ_ h=>ab h λo ho h=>ab h λr hr h=>aA (jV ho) (aA (jV hr) (aK h λhq h=>cG h λa σ1 h1 h=>cG h λb σ2 h2 h=>ab h λv hv h=>?_))
 refine isTrue_chain (KE (P ht hs h1 I R) (λz s1 q1=>test_link (KE (P ht hs h2 q1.2.1 R) (λu s2 q2=>?_) no)) no) (jZ hq);refine mO hv (ao.keep (q1.2.1.kd q2.1) q1.2.2) q2.2.2 R q2.2.1.cfg _ _ (Zi ?_);cases v with
 | true=>exact cG h λd σ3 h3 h=>ab h λz hz h=>ck h (test_last (KE (P ht hs h3 q2.2.1 R) (λy s3 q3=>mO hz (ao.keep (q2.2.1.kd q3.1) q2.2.2) q3.2.2 R q3.2.1.cfg _ _ (Zi (bR rfl (q1.1.trans (q2.1.trans q3.1)) q3.2.1))) no))
 | false=>exact ck h (bR rfl (q1.1.trans q2.1) q2.2.1)
theorem JC{n:Nat}(P:ce prog w K T m n)(Pt:gH prog w K T m n)(Pa:qk prog w K T m n)(Po:ql prog w K T m n):gH prog w K T m (n+1):=by
 intro x c env ρ σ e b σ' s A ht hs h I R;cases e with
 | UnaryOp o l p=>cases o with
  | Not=>exact bT h λr σ1 hr h=>ck h (isTrue_not (KE (Pt ht hs hr I R) (λb s1 q=>⟨congrArg (!·) q.1,q.2⟩) no))
  | _=>cases (h:none=some (b,σ'))
 | IfExp=>cases (h:none=some (b,σ'))
 | BoolOp o a p=>cases o with
  | And=>exact wpAny_isTrue_BoolOp (Pa ht hs h I R)
  | Or=>exact wpAny_isTrue_BoolOp (Po ht hs h I R)
 | Compare=>exact JB P ht hs h I R
 | _=>exact JA P ht hs (λ_=>rfl) h I R
section
variable{M:Model}
theorem iy{f:W2}{trees:List (Bool×Sem W2)}{Q:Args->Xd->Prop}
  (hp:trees.any (·.1)=false)(h:Xf M A (spliced trees) (λvs s'=>Q ⟨vs,[]⟩ s') E s):Xf M A (evalArgs f true trees []) Q E s:=by
 cases trees with
 | nil=>
  refine El (KE h (λvs s' h'=>?_) λ_ _ x=>x);refine El (Ev ?_);exact XQ (El (Ev (El (Ev (Ev h')))))
 | cons p r=>
  obtain⟨b,y⟩:=p;cases b with
  | false=>exact YI h
  | true=>simp at hp
end
theorem JD:Zx "range"=some (.type "range"):=by decide +kernel
theorem yL:Zx "sum"=some (.builtin "sum"):=by decide +kernel
theorem yM:Zx "str"=some (.type "str"):=by decide +kernel
theorem bD.seq{h:Heap}{a:Addr}{cl:bE}(C:bD c h a cl):∃o xs n,h.get? a=some o/\o.data=.seq xs n:=by
 refine aw C λzz C=>?_;split at C
 ·refine cw C λvs n g zz=>?_;exact(lA _ _ _ g rfl)
 ·refine dd C λvs n dx g zz=>?_;exact(lA _ _ _ g rfl)
theorem ug{h h':Heap}{a b:Addr}{mm:Str->Option W2}{o:Obj}{xs:Array W2}{n:Nat}(hn:h.Ns a mm)(hb:h.get? b=some o)(hd:o.data=.seq xs n):a≠b:=by
 rintro rfl;refine fJ hn λo' es ep g d zz=>?_;rw[hb]at g;clear hb;cases g;injection (hd.symm.trans d)
theorem yN{h:Heap}{a b:Addr}{v:Option W2}{o:Obj}{xs:Array W2}{n:Nat}(hn:h.IsCell a v)(hb:h.get? b=some o)(hd:o.data=.seq xs n):a≠b:=by
 rintro rfl;refine af hn λo' g d=>?_;have zs:=fS hb g;subst zs;injection (hd.symm.trans d)
theorem JE{h:Heap}{a b:Addr}{z:Int}{o:Obj}{xs:Array W2}{n:Nat}(hn:eS h a z)(hb:h.get? b=some o)(hd:o.data=.seq xs n):a≠b:=by
 rintro rfl;refine dd hn λe t ep g zz=>?_;have zs:=fS hb g;subst zs;cases hd
theorem fW.keepX{X:Addr->Prop}{h h':Heap}(B:fW c env ρ h)(k:∀b o,h.get? b=some o->¬X b->h'.get? b=some o)(kd:b6 c h h')
  (hn:∀m,h.Ns env.locals m->¬X env.locals)(hc:∀a v,n₀<=a->h.IsCell a v->¬X a):fW c env ρ h' where
 kind:=B.kind
 globals:=B.globals
 builtins:=B.builtins
 vars:=λY t e=>by
  refine af (B.vars Y t e) λv hv r=>(ah v ?_ (r.keep kd));rcases hv with ⟨q,mm,a,b⟩ | ⟨q,a,e1,e2⟩
  ·exact .inl (fw q mm (a.at' λo g=>k _ o g (hn _ a)) b)
  ·exact af e2 λo g d=>.inr ⟨q,a,e1,o,k _ o g (hc _ _ (B.low.2 _ _ e1) (ah o g d)),d⟩
 ns:=al B.ns λmm a=>⟨mm,a.at' λo g=>k _ o g (hn _ a)⟩
 cell:=λY e=>mq (B.cell Y e) λa v e1 o g d=>⟨a,v,e1,o,k _ o g (hc _ _ (B.low.2 _ _ e1) (ah o g d)),d⟩
 apart:=B.apart
 low:=B.low
 fr:=B.fr
theorem bD.keepX{X:Addr->Prop}{h h':Heap}{a:Addr}{cl:bE}(C:bD c h a cl)(k:∀b o,h.get? b=some o->¬X b->h'.get? b=some o)(kd:b6 c h h')
  (ha:¬X a)(hd:∀dx z,n₀<=dx->¬c.fr dx->eS h dx z->¬X dx):bD c h' a cl:=by
 refine aw C λhl C=>⟨hl,?_⟩;cases q:cl.acc with
 | none=>rw[q]at C;refine cw C λvs n g r=>?_;exact(cx vs n (k _ _ g ha) (r.keep kd))
 | some z=>
  rw[q]at C;exact b5 C λvs n dx g r i l f=>(dS vs n dx (k _ _ g ha) (r.keep kd) (i.keep λo e=>k _ o e (hd dx z l.1 f i)) l f)
theorem b8.keepX{X:Addr->Prop}{h h':Heap}(k:∀b o,h.get? b=some o->¬X b->h'.get? b=some o)(kd:b6 c h h')
  (hd:∀dx z,n₀<=dx->¬c.fr dx->eS h dx z->¬X dx):∀{as:List Addr}{σ:S},b8 c h as σ->(∀a∈as,¬X a)->b8 c h' as σ
 | [],[],_,_=>trivial
 | a::_,_::_,zp1,ha=>by
  exact aw zp1 λp q=>⟨p.keepX k kd (ha a Xh) hd,q.keepX k kd hd λb hb=>ha b (Xc _ hb)⟩
theorem ak.tab(I:ak K c env ρ σ s)(X:ae aG s s1)(B:aC K s1.heap)(tk:1<=s1.toks):ak K c env ρ σ s1:=by
 have kd:=I.kd (X.weaken (Y:=XE c) λb h=>.inr h);refine⟨B,I.cfg.keep X.live,I.env.keepX X.keep kd (λm _ h=>?_) (λa v l _ h=>?_),I.cells.keepX X.keep kd (λdx z l _ _ h=>?_) λa ha h=>?_,tk⟩
 ·have:=dp h;have:=I.env.low.1;omega
 ·have:=dp h;exact ms l this
 ·have:=dp h;exact ms l this
 ·have:=dp h;have:=I.cfg.low a ha;omega
theorem b8.set{h h':Heap}{b:Addr}{cl':bE}(k:∀a o,h.get? a=some o->¬(a=b\/aG a)->h'.get? a=some o)(kd:b6 c h h')
  (hd:∀dx z,n₀<=dx->¬c.fr dx->eS h dx z->¬(dx=b\/aG dx))(C':bD c h' b cl') :
  ∀{as:List Addr}{σ:S}{q:Nat},b8 c h as σ->as.Nodup->(∀a∈as,n₀<=a)->as[q]?=some b->b8 c h' as (dg σ q cl')
 | [],[],_,_,_,_,e=>by simp at e
 | a::as,x::σ,0,zp2,nd,lo,e=>by
  refine aw zp2 λp r=>?_;simp only[List.getElem?_cons_zero,Option.some.injEq]at e;subst e;refine⟨C',r.keepX k kd hd λy hy=>?_⟩;rintro(rfl | t)
  ·exact(List.nodup_cons.mp nd).1 hy
  ·have:=dp t;have:=lo y (Xc _ hy);omega
 | a::as,x::σ,q+1,zp3,nd,lo,e=>by
  refine aw zp3 λp r=>?_;simp only[List.getElem?_cons_succ]at e;refine⟨p.keepX k kd ?_ hd,b8.set k kd hd C' r (List.nodup_cons.mp nd).2 (λy hy=>lo y (Xc _ hy)) e⟩;rintro(rfl | t)
  ·exact(List.nodup_cons.mp nd).1 (YB e)
  ·have:=dp t;have:=lo a Xh;omega
theorem ak.set(I:ak K c env ρ σ s){q:Nat}{b:Addr}{cl cl':bE}(hq:c.cells[q]?=some b)(hc:bP σ q=some cl)(X:ae (λy=>y=b\/aG y) s s1)(B:aC K s1.heap)(C':bD c s1.heap b cl')(tk:1<=s1.toks) :
  ak K c env ρ (dg σ q cl') s1:=by
 have hb:b∈c.cells:=YB hq;have kd:=I.kd (X.weaken (Y:=XE c) λy h=>h.elim (λe=>.inl (e▸hb)) .inr);refine dd ((I.cells.at hc hq).seq) λo xs n g d=>⟨B,I.cfg.keep X.live,I.env.keepX X.keep kd (λm hm h=>?_) (λa v l hm h=>?_),b8.set X.keep kd (λdx z l _ i h=>?_) C' I.cells I.cfg.nodup I.cfg.low hq,tk⟩
 ·clear C';rcases h with h | h
  ·exact ug (h':=s.heap) hm g d h
  ·have:=dp h;have:=I.env.low.1;omega
 ·rcases h with h | h
  ·exact yN hm g d h
  ·have:=dp h;exact ms l this
 ·rcases h with h | h
  ·exact JE i g d h
  ·have:=dp h;exact ms l this
theorem yO{h:Heap}:∀{l:List AV}{vs:List W2}{r:Int},jn l=some r->aq c h l vs->∃ns:List Int,vs.length=ns.length/\(∀(i:Nat)(v:W2),vs[i]?=some v->∃(n:Int)(t:Tok),ns[i]?=some n/\v=Value.int n t)/\ns.sum=r
 | [],_,_,e,h=>by refine aa (h:_=[]) ?_;exact(de ([]) rfl (λ_ _ h=>(nomatch h)) (W9 e))
 | a::l,_,r,e,zp4=>by
  exact bb zp4 λv ws e1 p q=>(ab e λi ei e=>ab e λz hz e=>aL e (aA e1 (
   dY (yO hz q) λns l1 l2 l3=>
   al (fL ei p) λt ev=>
   (de (i::ns) (congrArg (· + 1) l1) (λk=>Nat.casesOn k (λ_ hk=>(cx i t rfl ((W9 hk).symm.trans ev))) λk v hk=>l2 k v hk) (congrArg (i + ·) l3)))))
theorem yP(ns:List Int):∀k,k<=ns.length->preSum (λi=>(ns[i]?).getD 0) k=(ns.take k).sum
 | 0,_=>rfl
 | k+1,h=>by
  rw[preSum,yP ns k (by omega),List.take_add_one,List.sum_append];congr 1;refine aa (Xo (by exact wW h)) ?_;simp
theorem JF{l:List AV}{v:W2}{r:Int}(h:jn l=some r)(hr:ao c s.heap (AV.lst l) v)(hh:A.handled=none) :
  Xf (Xe prog w) A (call (.builtin "sum") [v]) (ff c s (AV.int r)) nr s:=by
 refine b5 hr λa vs n zr3 hx g hl rr=>aa zr3 (dY (yO h rr) λns e1 e2 e3=>?_);have l1:s.heap.IsList a ⟨vs⟩:=(dl _ g rfl _ rfl);have hlt:a<s.heap.objs.size:=Xm g;refine call_sum_walkG (wpAny_pyIter_list l1 ⟨_,_,_,_,_,_,λi=>(ns[i]?).getD 0,rfl,Walks.list (A:=A.in1) hh s.heap.objs.size a (XZ hlt) ⟨vs⟩,⟨(de _ (Xl _ rfl) rfl rfl),l1.push _⟩,λb hb=>?_,λi v hi=>?_,λh' tk t' hk=>(gB (ae.kept (λb o e=>?_) rfl id) t' ?_)⟩)
 ·show b<(s.heap.push _).objs.size;rw[XV];simp only[Xk,Xw,or_false]at hb;clear hx rr hr l1;rcases hb with rfl | rfl
  ·exact Yx _
  ·exact Ym hlt
 ·rw[jY]at hi;exact cw (e2 i v hi) λk t f1 f2=>⟨t,by rw[f2];show Value.int k t=Value.int ((ns[i]?).getD 0) t;rw[f1];rfl⟩
 ·refine hk b o ?_ (Xg _ e);simp only[Xk,Xw,or_false];exact XZ (Xm e)
 ·congr 1;have:=yP ns ns.length (Xs _);rw[Zo (Xs _),e3]at this;show preSum _ vs.length=_
  (refine aa e1 ?_);exact this
theorem qn:∀{n:Nat}{es:List Expr}{σ:S}{r:List PV×S},pargs n x ρ σ es=some r->∀pos,(aae pos (YD es env)).any (·.1)=false
 | _+1,[],_,_,_,_=>rfl
 | n+1,e::es,σ,r,h,pos=>bT h λ_ _ h1 h=>bT h λ_ _ h2 _=>by
  exact aa (kW h1) ((congrArg (false||·) (qn h2 pos)).trans rfl)
theorem qo:∀{n:Nat}{es:List Expr}{σ:S}{r:List AV×S},pes n x ρ σ es=some r->∀pos,(aae pos (YD es env)).any (·.1)=false
 | _+1,[],_,_,_,_=>rfl
 | n+1,e::es,σ,r,h,pos=>cG h λ_ _ h1 h=>bT h λ_ _ h2 _=>by
  exact aa (kW h1) ((congrArg (false||·) (qo h2 pos)).trans rfl)
noncomputable def uh(X:Str):Option W2:=
 cond (ax (nm X) kA) (some (.builtin "len")) (cond (ax (nm X) iO) (some (.builtin "sum")) (cond (ax (nm X) kB) (some (.type "str")) (gd (ax (nm X) mx) (some (.type "range")))))
theorem yQ{y:List Nat}{t:Tok}{i:Int}(h:y.length<=aD)(e:i=(y.length:Int)) :
  Xf (Xe prog w) A (call (.builtin "len") [.str ⟨⟨y⟩⟩ t]) (λv s'=>ae X0 s s'/\∃t,v=.int i t) nr s:=
 aA e (PyProof.Rows.len_str (Int.not_le.mpr (Y7.mpr (Xu h (by decide)))) (gB (ae.tk X0 s _) _ rfl))
theorem ui{a:Addr}{vs:List W2}{n:Nat}{i:Int}(g:s.heap.get? a=some {cls:=.type "list",data:=.seq ⟨vs⟩ n})(h:vs.length<=aD+1)(e:i=(vs.length:Int)) :
  Xf (Xe prog w) A (call (.builtin "len") [.ref a]) (λv s'=>ae X0 s s'/\∃t,v=.int i t) nr s:=
 aA e (call_len_list (dl _ g rfl _ rfl) (Y7.mpr (Xu h (by decide))) (gB (ae.tk X0 s _) _ rfl))
noncomputable abbrev qp(prog:Y3)(w:aal)(K:Frag)(c:aj)(env:Env)(ρ:ai)(σ:S)(s:Xd)(A:Zp)(bv:W2)(us:List W2)(t:PV):Prop:=
 Xf (Xe prog w) A (call bv us) (λv s'=>1<=s'.toks->bf K c env ρ s t σ v s') nr s
theorem dM.one{p:PV}{us:List W2}{h:Heap}(r:dM c h [p] us):∃v,us=[v]/\bN c h p v:=bb r λv zz e q e2=>(ah v (e2▸e) q)
theorem dM.two{p q:PV}{us:List W2}{h:Heap}(r:dM c h [p,q] us):∃v u,us=[v,u]/\bN c h p v/\bN c h q u:=bb r λv zz e q r2=>af (dM.one r2) λu e2 q2=>(bM v u (e2▸e) q q2)
theorem dM.three{p q r:PV}{us:List W2}{h:Heap}(z:dM c h [p,q,r] us):∃v u w,us=[v,u,w]/\bN c h p v/\bN c h q u/\bN c h r w:=bb z λv zz e q r2=>cw (dM.two r2) λu y e2 q2=>⟨v,u,y,e2▸e,q,q2⟩
theorem uj{i:Int}{v:W2}{s':Xd}(I:ak K c env ρ σ s)(q:ae X0 s s'/\∃t,v=.int i t)(tk:1<=s'.toks):bf K c env ρ s (.val (.int i)) σ v s':=bf.of_val (ae.refl _ s) I q tk
theorem yR{r:AV}{v:W2}{s':Xd}(I:ak K c env ρ σ s)(q:ae aG s s'/\aC K s'.heap/\ao c s'.heap r v)(tk:1<=s'.toks):bf K c env ρ s (.val r) σ v s':=(bR (q.1.weaken λ_ x=>.inr x) (I.tab q.1 q.2.1 tk) q.2.2)
theorem JG(O:ix prog w K mg m){p t:PV}{v:W2}(h:xm σ p=some t)(hr:bN c s.heap p v)(I:ak K c env ρ σ s)(R:az m A):qp prog w K c env ρ σ s A (.builtin "len") [v] t:=by
 cases p with
 | val a=>
  cases a with
  | str x=>exact aL h (cq ((hr:_/\∃t,v=.str ⟨⟨x⟩⟩ t)) λhl t e=>aA e (KE (yQ hl rfl) (λ_ _ q=>uj I q) no))
  | lst x=>exact aL h (b5 hr λa vs n e hx g hl rr=>aA e (KE (ui g (rr.length▸XU hl:vs.length<=aD+1) (congrArg Int.ofNat rr.length.symm)) (λ_ _ q=>uj I q) no))
  | pat x=>exact aL h (il ((hr:_/\_/\∃t,v=.str ⟨⟨c.pre++x⟩⟩ t)) λhp hl t e=>aA e (KE (yQ (i:=Int.ofNat (c.P+x.length)) hl (congrArg Int.ofNat (hp▸Om.symm))) (λ_ _ q=>bf.of_val (ae.refl _ s) I q) no))
  | lpat x=>exact aL h (jh hr λa ws vs n zc0=>jM zc0 λe hx g hp hl rr=>aA e (KE (ui (i:=Int.ofNat (c.P+x.length)) g (XU hl) (congrArg Int.ofNat (hp▸rr.length▸Om.symm))) (λ_ _ q=>bf.of_val (ae.refl _ s) I q) no))
  | _=>exact aT (h:none=some t)
 | cell q=>
  refine ab h λcl hc h=>af hr λa ha e=>aa e ?_;have C:=I.cells.at hc ha;obtain⟨ac,l⟩:=cl;cases ac with
  | none=>exact aL h (eQ C λhl vs n g rr=>KE (ui g (rr.length▸hl:vs.length<=aD+1) (congrArg Int.ofNat rr.length.symm)) (λ_ _ q=>uj I q) no)
  | some z=>exact aK h λhz h=>ab h λk hk h=>aL h (have hz:=W8.mp hz;KE (O.len I.base I.cfg (YB ha) C hk (of_decide_eq_true hz.1) (of_decide_eq_true hz.2) I.tk R) (λv s' q=>yR I q) no)
 | _=>exact aT (h:none=some t)
theorem JH(O:ix prog w K mg m){p t:PV}{v:W2}(h:xn σ p=some t)(hr:bN c s.heap p v)(I:ak K c env ρ σ s)(R:az m A):qp prog w K c env ρ σ s A (.type "str") [v] t:=by
 refine ab h λq eq h=>ab h λcl hc h=>aK h λhz h=>ab h λy hy h=>ab h λz hg h=>aL h (af ((nV eq▸hr:bN c s.heap (.cell q) v)) λa ha e=>?_);have C:=I.cells.at hc ha;obtain⟨ac,l⟩:=cl;clear hc h;cases ac with
 | none=>exact eE hz
 | some z=>exact have g:=iU hg;aA e (aA g.2 (KE (O.str I.base I.cfg (YB ha) C hy g.1 I.tk R) (λv s' q=>yR I q) no))
theorem JI:∀{i:Int},xo i=true->i=-1
 | .negSucc 0,_=>rfl
theorem JJ{ts:List PV}{us:List W2}{t:PV}(h:xq ts=some t)(hr:dM c s.heap ts us)(I:ak K c env ρ σ s):qp prog w K c env ρ σ s A (.type "range") us t:=by
 have rg:∀{a b d:Int}{t u v:Tok}{tk:Nat},1<=tk->bf K c env ρ s (.rng a b d) σ (.ref s.heap.objs.size) {s with heap:=s.heap.push {cls:=.type "range",data:=.fields #[.int a t,.int b u,.int d v]},toks:=tk}:=λ{a b d t u v tk} htk=>
  ⟨ae.pushT _ s _ _,I.keep0 (ae.pushT X0 s _ _) htk,_,t,u,v,rfl,tX I.cfg,Xl _ rfl⟩
 have iv:∀{p:PV}{i:Int}{v:W2},ky p=some i->bN c s.heap p v->∃t,v=.int i t:=λe r=>(H6 e▸r:bN c s.heap (.val (.int _)) _);refine dn h (λp hp h=>ab h λb hb h=>aL h ?_) λ_ h=>dn h (λq hq h=>ab h λa ha h=>ab h λb hb h=>aL h ?_) λ_ h=>ab h λq hq h=>ab h λa ha h=>ab h λb hb h=>ab h λd hd h=>aK h λhm h=>aL h ?_
 ·refine af (dM.one (dT hp▸hr)) λv e r=>?_;exact al (iv hb r) λt e1=>aa e (aa e1 (call_range_1 rg))
 ·refine bb (dM.two (jV hq▸hr)) λv u e r1 r2=>al (iv ha r1) λt e1=>?_;refine al (iv hb r2) λt' e2=>?_;exact aa e (aa e1 (aa e2 (call_range_2 rg)))
 ·refine fc (dM.three (xH hq▸hr)) λv u z e r1 r2 r3=>al (iv ha r1) λt e1=>?_;refine al (iv hb r2) λt' e2=>?_;refine al (iv hd r3) λt'' e3=>?_;exact aa e (aa e1 (aa e2 (aa e3 (aa (JI hm) (call_range_3 (by decide) rg (Or.inl (PyProof.noPylong_small (by decide))))))))
theorem JK(O:ix prog w K mg m){X:Str}{ts:List PV}{us:List W2}{t:PV}(h:js (nm X) σ ts=some t)(hr:dM c s.heap ts us)(I:ak K c env ρ σ s)(R:az m A) :
  ∃bv,uh X=some bv/\qp prog w K c env ρ σ s A bv us t:=by
 refine cQ h (λh1 h=>ab h λp hp h=>(ah _ (kK h1 rfl) ?_)) λh1 h=>cQ h (λh2 h=>ab h λp hp h=>⟨_,gE h1 (kK h2 rfl),?_⟩) λh2 h=>cQ h (λh3 h=>ab h λp hp h=>⟨_,gE h1 (gE h2 (kK h3 rfl)),?_⟩) λh3 h=>aK h λh4 h=>⟨_,gE h1 (gE h2 (gE h3 (cV h4 rfl))),JJ h hr I⟩
 ·exact let ⟨v,e,r⟩:=dM.one (dT hp▸hr);aA e (JG O h r I R)
 ·refine let ⟨v,e,r⟩:=dM.one (dT hp▸hr);aA e ?_
  exact ab h λa ea h=>ab h λl el h=>ab h λi hi h=>aL h (KE (JF hi (lQ el (jU ea▸r:bN c s.heap (.val a) v)) R.1) (λ_ _ q=>bf.of_val (ae.refl _ s) I q) no)
 ·exact let ⟨v,e,r⟩:=dM.one (dT hp▸hr);aA e (JH O h r I R)
theorem ak.ns_b(I:ak K c env ρ σ s):∃mb,s.heap.Ns env.builtins mb/\∀y:Str,y≠"__name__"->mb y=Zx y:=by (refine aa I.env.builtins ?_);exact I.base.bns
theorem JL{X:Str}{bv:W2}(h:uh X=some bv):Zx X=some bv/\X≠"__name__"/\(nm X=kA\/nm X=mx\/nm X=iO\/nm X=kB)/\((∃T,bv=.type T)\/∃id,bv=.builtin id):=
 have go:∀{Y:Str}{l:List Nat},ax (nm X) l=true->l=nm Y->X=Y:=λh e=>cF ((aW.mp h).trans e)
 cQ h (λe h=>aL h (aA (go (Y:="len") e rfl) (iJ boot_len (by decide) (.inl rfl) (.inr ⟨_,rfl⟩)))) λ_ h=>cQ h (λe h=>aL h (aA (go (Y:="sum") e rfl) (iJ yL (by decide) (.inr (.inr (.inl rfl))) (.inr ⟨_,rfl⟩))))
  λ_ h=>cQ h (λe h=>aL h (aA (go (Y:="str") e rfl) (iJ yM (by decide) (.inr (.inr (.inr rfl))) (.inl ⟨_,rfl⟩)))) λ_ h=>aK h λe h=>aL h (aA (go (Y:="range") e rfl) (iJ JD (by decide) (.inr (.inl rfl)) (.inl ⟨_,rfl⟩)))
theorem JM:plainId "list.append"=true:=by decide +kernel
noncomputable def JN:Manifest.Signature:=(aad "list.append").get (by rfl')
theorem JO(a v:W2):Z6 "list.append" {JN with full:=s!"{Bind.lastOf "list"}.{Bind.lastOf "list.append"}"} ⟨[a,v],[]⟩=pure ():=by rfl'
theorem JP:isSubtype (.type "list") (.type "module")=pure false:=by rw[ZC];rfl'
theorem JQ{prog:Y3}{w:aal}{A:Zp}{s:Xd}{E:W2->Xd->Prop}{Q:Unit->Xd->Prop}{b:Addr}{items:Array W2}{v:W2}(hl:s.heap.PlainList b items)(h:Q () s) :
  Xf (Xe prog w) A (ZO "list.append" ⟨[.ref b,v],[]⟩) Q E s:=by
 refine al hl λn g=>?_;have hT:s.TypeIs (.ref b) "list":=(ah _ g rfl);dsimp only[ZO];refine Z0 (by decide) (El (Zs hT JP ?_));refine Z0 (by decide +kernel) (El (El (El (Z4 g ?_))));refine Ev (Ev (Z0 (by rfl) (El (aag hT ?_))));exact XG (JO _ _) h
theorem JR{pos:Pos}{u b:Addr}{first:List W2}{args:List (Bool×Sem W2)}{Q:W2->Xd->Prop}{E:W2->Xd->Prop}(hplain:args.any (·.1)=false)
  (h:Xf (Xe prog w) A (evalArgs (.ref u) true args []) (λx s₁=>s₁.heap.get? u=some (jx b)/\Xf (Xe prog w) A (call (.ref u) (first++x.pos) x.kw) Q E s₁) E s):Xf (Xe prog w) A (callWith pos (.ref u) first args []) Q E s:=by
 refine El (XQ (KE h (λx s₁ h₁=>El (Yq ?_)) λ_ _ x=>x));refine aw h₁ λho hcall=>aa (hplain) (aa (List.any_nil) (El (m:=keeperOf (.ref u)) (El (wpAny_load ho ?_))));exact Ev (El (KE hcall (λr s₂ hr=>El (XQ (wpAny_point (Ev hr)))) λ_ _ x=>x))
theorem JS{u b:Addr}{items:Array W2}{v:W2}{Q:W2->Xd->Prop}{E:W2->Xd->Prop}(ho:s.heap.get? u=some (jx b))(hl:s.heap.PlainList b items)(hsz:items.size<=sizeLine)
  (hQ:∀h',h'.PlainList b (items.push v)->XC b s.heap h'->Q .none {s with heap:=h'}):Xf (Xe prog w) A (call (.ref u) [v]) Q E s:=by
 refine Zr (Yr ?_);refine El (wpAny_load ho ?_);dsimp only;refine KFB.if_so (by decide) (El (JQ hl ?_));refine El (Ev (Ev ?_));refine⟨plainId_quiet JM _,codeAny_builtin entry_list_append ?_⟩;show Xf _ _ (updateSeq b (·.push v) >>= λ_=>ret .none) _ _ s;refine al hl λn ho=>El (ZV ho rfl (Ev (hQ _ ⟨n+1,?_⟩ (Yt ..))));rw[Zz _ ho (by rw[Obj.mapSeq_push_plain];rfl),Obj.mapSeq_push_plain]
theorem ak.store(I:ak K c env ρ σ s){q:Nat}{b:Addr}{cl cl':bE}{h':Heap}(hq:c.cells[q]?=some b)(hc:bP σ q=some cl)(hs:XC b s.heap h')(hl:∃o,h'.get? b=some o)
  (C':b6 c s.heap h'->bD c h' b cl'):∀tk,1<=tk->ae (XE c) s {s with heap:=h',toks:=tk}/\ak K c env ρ (dg σ q cl') {s with heap:=h',toks:=tk}:=by
 intro tk htk;have hb:b∈c.cells:=YB hq;have X:ae (λy=>y=b\/aG y) s {s with heap:=h',toks:=tk}:=
  ⟨λy o e n=>hs.extBut y o (λh=>n (.inl h)) e,λy o e=>by
   by_cases h:y=b
   ·clear hs C' hb e;refine aa h ?_;exact hl
   ·exact⟨o,hs.extBut y o h e⟩,rfl,id⟩
 have X':ae (XE c) s {s with heap:=h',toks:=tk}:=X.weaken λy h=>h.elim (λe=>.inl (e▸hb)) .inr;have kd:=I.kd X';exact⟨X',I.set hq hc X (I.base.but (I.cfg.low b hb) λy o e n=>hs.extBut y o n e) (C' kd) htk⟩
theorem bf.trans0{t:PV}{v:W2}(X:ae (XE c) s s1)(r:bf K c env ρ s1 t σ v s2):bf K c env ρ s t σ v s2:=(bR (X.trans r.1) r.2.1 r.2.2)
theorem yS{f:List Nat}{l vs:List AV}{r:AV}{cl':bE}(h:xu f l vs=some (r,cl')):f=jP/\l.length<=aD/\∃v,vs=[v]/\r=.none/\cl'=⟨none,l++[v]⟩:=
 aK h λhf h=>ab h λv hv h=>aK h λhl h=>ck h ⟨aW.mp hf,Xn hl,v,dT hv,rfl,rfl⟩
theorem JT{b:Addr}{l:List AV}{vs:List W2}{v:AV}{u:W2}{h h':Heap}(kd:b6 c h h')(hl:l.length<=aD)(rr:aq c h l vs)(ru:ao c h v u)(g:h'.PlainList b ((⟨vs⟩:Array W2).push u)) :
  bD c h' b ⟨none,l++[v]⟩:=by
 refine al g λn g=>⟨W6 (Nat.le_of_eq Om) (Z9 hl),vs++[u],n,?_,(rr.append (aq.cons ru aq.nil)).keep kd⟩;simpa using g
theorem yT{q:Nat}{b:Addr}{l:List AV}{v:AV}{u:W2}{vs:List W2}{h':Heap}(I:ak K c env ρ σ s)(hq:c.cells[q]?=some b)(hc:bP σ q=some ⟨none,l⟩)(hl:l.length<=aD)(rr:aq c s.heap l vs)(ru:ao c s.heap v u)(hp:h'.PlainList b ((⟨vs⟩:Array W2).push u))(hs:XC b s.heap h') :
  bf K c env ρ s (.val .none) (dg σ q ⟨none,l++[v]⟩) .none {s with heap:=h'}:=
 have st:=I.store hq hc hs (al hp λzz e=>⟨_,e⟩) (λkd=>JT kd hl rr ru hp) s.toks I.tk
 (bR st.1 st.2 rfl)
theorem JU{n:Nat}(P:ce prog w K T m n)(ht:x.tab=T)(hs:aQ x env){f:Str}{fp p:Pos}{args:List Expr}{t hv:PV}(hd:ax (nm f) eM=false)(hq:aB ρ (nm f)=some hv)
  (h:(bo (nK hv) λq=>bo (cu args) λz=>bv (pe n x ρ σ z) λv σ1=>bo (bP σ1 q) λcl=>mE σ1 q (iu jP cl [v]))=some (t,σ'))(I:ak K c env ρ σ s)(R:az (m+x.gen) A) :
  Xf (Xe prog w) A (eval (.Call (.Name f fp) args [] p) env) (bf K c env ρ s t σ') nr s:=by
 refine ab h λq eq h=>ab h λz hz h=>cG h λv σ1 h1 h=>ab h λcl hc h=>bT h λr cl' hm h=>ck h (aa (dT hz) ?_);skip;refine El (KE (mQ hd (H5 eq▸hq) I) (λfv s1 q1=>?_) no);refine io q1.2.2 λb u hb e hx hu=>aa (e) (aa (kW h1) (JR (b:=b) rfl (YI (XK (KE (P ht hs h1 q1.2.1 R) (λa s2 q2=>YC ?_) no)))));have hu2:=q1.2.1.kd q2.1 _ _ hu hx (by simp[dK]);refine⟨hu2,?_⟩;obtain⟨ac,l⟩:=cl;clear h;cases ac with
 | some z=>clear h1 h;cases (hm:none=some (r,cl'))
 | none=>
  refine wf (yS hm) λzz hl v' ev er ec=>?_;clear h1 h hm;cases ev;refine eQ (q2.2.1.cells.at hc hb) λhl' vs k g rr=>aa (er) (aa (ec) ?_);exact JS hu2 ⟨k,g⟩ (W6 (rr.length▸hl:vs.length<=aD) (by decide)) (λh' hp hsb=>have r:=yT q2.2.1 hb hc hl rr q2.2.2 hp hsb;⟨(q1.1.trans q2.1).trans r.1,r.2⟩)
theorem yU{n:Nat}(O:dh prog w K mg T m)(Pa:mP prog w K T m n)(ht:x.tab=T)(hs:aQ x env){f:Str}{fp p:Pos}{args:List Expr}{ts:List PV}{a:Addr}{Q:W2->Xd->Prop}(hd:ax (nm f) eM=false)(hk:env.kindOf f=some .globalImplicit)
  (h:pargs n x ρ σ args=some (ts,σ1))(I:ak K c env ρ σ s)(R:az (m+x.gen) A)(g:oe K mg f a)(k:∀us s1,yH K c env ρ s ts σ1 us s1->Xf (Xe prog w) A (call (.ref a) us) Q nr s1) :
  Xf (Xe prog w) A (eval (.Call (.Name f fp) args [] p) env) Q nr s:=by
 exact Dy g λg1 o fd g2 g3 g4=>El (Xx I.env.kind hk (YX (iw O I) g1 (callWith_function (o:=o) (fd:=fd) (iy (qn h p) (KE (Pa ht hs h I R) (λus s1 q=>⟨⟨q.2.1.base.stat a o g2 g4,g3⟩,k us s1 q⟩) no)))) (oj hd))
theorem JV{n:Nat}(O:dh prog w K mg T m)(O':ix prog w K mg m)(Pa:mP prog w K T m n)(ht:x.tab=T)(hs:aQ x env){f:Str}{fp p:Pos}{args:List Expr}{ts:List PV}{v:PV}(hd:ax (nm f) eM=false)(hk:env.kindOf f=some .globalImplicit)
  (h:pargs n x ρ σ args=some (ts,σ1))(hb:js (nm f) σ1 ts=some v)(I:ak K c env ρ σ s)(R:az (m+x.gen) A) :
  Xf (Xe prog w) A (eval (.Call (.Name f fp) args [] p) env) (bf K c env ρ s v σ1) nr s:=by
 obtain⟨bv,hbv⟩:∃bv,uh f=some bv:=cQ hb (λe _=>⟨_,kK e rfl⟩) λe1 h=>cQ h (λe _=>⟨_,gE e1 (kK e rfl)⟩) λe2 h=>cQ h (λe _=>⟨_,gE e1 (gE e2 (kK e rfl))⟩) λe3 h=>aK h λe _=>⟨_,gE e1 (gE e2 (gE e3 (cV e rfl)))⟩;refine gV (JL hbv) λe1 e2 e3 e4=>af I.ns_b λmb nb hmb=>?_;have pl:=qn (env:=env) h p;refine El (Xx I.env.kind hk (Zc (iw O I) (O.bi f e3) nb (by rw[hmb f e2];exact e1) ?_) (oj hd));have go:Xf (Xe prog w) A (evalArgs bv true (aae p (YD args env)) []) (λa s₁=>Xf (Xe prog w) A (call bv ([]++a.pos) a.kw) (bf K c env ρ s v σ1) nr s₁) nr s:=
  iy pl (KE (Pa ht hs h I R) (λus s1 q=>by
   refine af (JK O' hb q.2.2 q.2.1 (R.mono (XX ..))) λbv' e5 e6=>?_;cases hbv.symm.trans e5;exact KE (XJ q.2.1.tk (KE e6 (λ_ _ q=>q) no)) (λ_ _ r=>r.trans0 q.1) no) no)
 exact e4.elim (λzq1=>al zq1 λT' e=>by rw[e]at go ⊢;exact PyProof.Rows.callWith_type pl go) λzq2=>al zq2 λid e=>by rw[e]at go ⊢;exact XW pl go
theorem JW{ts:List PV}{q:Nat×List PV}(h:sW ts=some q):ts=.cell q.1::q.2:=by
 cases ts with
 | nil=>cases (h:none=some q)
 | cons p ts=>cases p<;>first | (cases h;rfl) | cases (h:none=some q)
theorem JX{n:Nat}(O:dh prog w K mg T m)(O':ix prog w K mg m)(P:ce prog w K T m n)(Pa:mP prog w K T m n)(ht:x.tab=T)(hs:aQ x env){f:Str}{fp p:Pos}{args:List Expr}{t:PV}
  (h:pe (n+1) x ρ σ (.Call (.Name f fp) args [] p)=some (t,σ'))(I:ak K c env ρ σ s)(R:az (m+x.gen) A) :
  Xf (Xe prog w) A (eval (.Call (.Name f fp) args [] p) env) (bf K c env ρ s t σ') nr s:=by
 have R':az m A:=R.mono (XX ..);replace h:gd (!ax (nm f) eM) (oc (aB ρ (nm f)) (λhv=>bo (nK hv) λq=>bo (cu args) λz=>bv (pe n x ρ σ z) λv σ1=>bo (bP σ1 q) λcl=>mE σ1 q (iu jP cl [v])) (gd (jT (gm x.sc (nm f))) (bp (pargs n x ρ σ args) λvs σ1=>sX x.tab σ1 (nm f) vs)))=some (t,σ'):=h;refine aK h λhd h=>dn h (λhv hq h=>JU P ht hs (jZ hd) hq h I R) λ_ h=>aK h λhk h=>bT h λts σ1 h1 h=>?_;have hd:=jZ hd;have hk:=qm (kT x.sc f▸hk);rw[hs.1]at hk;refine dn h (λv hb h=>ck h (JV O O' Pa ht hs hd hk h1 hb I R)) λ_ h=>dn h (λq hq h=>ab h λcl hc h=>ab h λus hus h=>bT h λr cl' hcf h=>ck h ?_) λ_ h=>ab h λus hus h=>gZ h λr hr=>?_
 ·refine af (O.cf _ _ _ _ _ (ht▸hcf)) λa g hf=>yU O Pa ht hs hd hk h1 I R g λzs s1 z=>bb ((JW hq▸z.2.2:dM c s1.heap (.cell q.1::q.2) zs)) λv zs' e zn3 r2=>af zn3 λb hb ev=>aa (e) (aa (ev) ?_);have hbm:=YB hb;exact KE (Ys z.2.1.tk (hf c s1 zs' b A z.2.1.base z.2.1.cfg (r2.vals hus) hbm (z.2.1.cells.at hc hb) z.2.1.tk R')) (λv s2 y=>(bR (z.1.trans (y.2.1.weaken λy h=>h.elim (λe=>.inl (e▸hbm)) .inr)) (z.2.1.set hb hc y.2.1 y.2.2.1 y.2.2.2.1 y.1) y.2.2.2.2)) λ_ _ f=>f.2.elim
 ·exact af (O.fn _ _ _ (ht▸hr)) λa g hf=>yU O Pa ht hs hd hk h1 I R g λzs s1 z=>KE (Ys z.2.1.tk (hf c s1 zs A z.2.1.base z.2.1.cfg (z.2.2.vals hus) z.2.1.tk R')) (λv s2 y=>(bR (z.1.trans (y.2.1.weaken λy h=>.inr h)) (z.2.1.tab y.2.1 y.2.2.1 y.1) y.2.2.2)) λ_ _ f=>f.2.elim
section
open Builtin Builtin.Str
theorem yV{h:Heap}{c:aj}:∀{l:List AV}{vs:List W2}{ys:List (List Nat)},jo l=some ys->aq c h l vs->StrsAre vs (ys.map λy=>⟨⟨y⟩⟩)
 | [],_,_,e,h=>by refine aa (h:_=[]) ?_;cases e;exact .nil
 | a::l,_,_,e,zp1=>by
  exact bb zp1 λv ws e1 p q=>ab e λy ey e=>ab e λz hz e=>aL e (aA e1 (cq (g8 ey p) λzz zz ev=>aA ev (.cons _ _ (yV hz q))))
theorem mR(x:List Nat):∀ys:List (List Nat),Str.join ⟨⟨x⟩⟩ (ys.map λy=>⟨⟨y⟩⟩)=⟨⟨bF x ys⟩⟩
 | []=>rfl
 | [y]=>rfl
 | y::z::r=>by
  have ih:=mR x (z::r);show(⟨⟨y⟩⟩++⟨⟨x⟩⟩++Str.join ⟨⟨x⟩⟩ ((z::r).map λy=>⟨⟨y⟩⟩):Str)=_;rw[ih,uf,uf];show Str.mk ⟨(y++x)++bF x (z::r)⟩=⟨⟨y++(x++bF x (z::r))⟩⟩;rw[XO]
theorem qq(x:List Nat):∀ys:List (List Nat),((ys.map λy=>(⟨⟨y⟩⟩:Str)).map (·.length)).sum+ys.length * x.length<=(bF x ys).length+x.length
 | []=>by simp[bF]
 | [y]=>by show(y.length+0)+1 * x.length<=y.length+x.length;exact Gm
 | y::z::r=>by
  have ih:=qq x (z::r);show(y.length+(((z::r).map λy=>(⟨⟨y⟩⟩:Str)).map (·.length)).sum)+((z::r).length+1) * x.length<=(y++(x++bF x (z::r))).length+x.length;rw[Om,Om,Nat.add_mul];exact Go ih
theorem JY{x:List Nat}{l:List AV}{r:AV}{f:List Nat}{D:Addr}{vs:List W2}{n:Nat}{t:Tok}(h:kG f x l=some r)(hx:x.length<=aD)(g:s.heap.get? D=some {cls:=.type "list",data:=.seq ⟨vs⟩ n})(rr:aq c s.heap l vs) :
  Xf (Xe prog w) A (call (.builtin "str.join") [.str ⟨⟨x⟩⟩ t,.ref D]) (ff c s r) nr s:=by
 refine aK h λ_ h=>ab h λys hys h=>aw (iU h) λhl e=>aa (e) (join_list (dl _ g rfl _ rfl) (yV hys rr) ?_ (λt' k=>(fU (ae.tk X0 s k) hl t' ?_)))
 ·rw[W7];exact W6 (qq x ys) (W6 (ZP hl hx) (by decide))
 ·rw[eq_of_beq (join_plain_closes _ _),mR]
theorem uk(d:Nat)(y:List Nat):∀a b:List Nat,eR d y (a++b)=eR d y a++eR d y b
 | [],_=>rfl
 | k::r,b=>by
  show cond (XI k d) (y++eR d y (r++b)) (k::eR d y (r++b))=cond (XI k d) (y++eR d y r) (k::eR d y r)++eR d y b;refine aa (uk d y r b) ?_;cases XI k d with
  | true=>exact(XO ..).symm
  | false=>rfl
theorem ul(d:Nat)(y:List Nat):∀l:List Nat,d∉l->eR d y l=l
 | [],_=>rfl
 | k::r,h=>by
  show cond (XI k d) (y++eR d y r) (k::eR d y r)=_;refine aa (show XI k d=false from Bool.eq_false_iff.mpr λe=>h (XF e▸Xh ..)) (aa (ul d y r λm=>h (Xc _ m)) ?_);rfl
theorem JZ(d:Nat)(y:List Nat):eR d y [d]=y:=by
 show cond (XI d d) (y++[]) [d]=_;rw[show XI d d=true from Nat.beq_refl d,cond_true,Yc]
theorem yW(d:Nat)(y:Str):∀parts:List Str,(∀p∈parts,d∉p.cps.toList)->eR d y.cps.toList (Str.join ⟨#[d]⟩ parts).cps.toList=(Str.join y parts).cps.toList
 | [],_=>rfl
 | [p],h=>ul d _ _ (h p (Xi.mpr rfl))
 | p::q::r,h=>by
  have ih:=yW d y (q::r) λa ha=>h a (Xc _ ha);show eR d y.cps.toList (p++⟨#[d]⟩++Str.join ⟨#[d]⟩ (q::r)).cps.toList=(p++y++Str.join y (q::r)).cps.toList;simp only[Str.cps_append,Zm];rw[uk,uk,ih,ul d _ _ (h p (Xh ..))];show p.cps.toList++eR d y.cps.toList [d]++_=_;rw[JZ]
theorem yX(x:Str)(d:Nat)(y:Str):(Txt.replace x ⟨#[d]⟩ y).cps.toList=eR d y.cps.toList x.cps.toList:=by
 rw[StrLaws.replace_one,<-yW d y _ (StrLaws.split_free x d),StrLaws.join_split]
theorem J0{x a b f:List Nat}{r:AV}{t u v:Tok}(h:jQ f x a b=some r)(hx:x.length<=aD)(hu:u≠0)(hv:v≠0)(huv:u≠v) :
  f=kC/\Xf (Xe prog w) A (call (.builtin "str.replace") [.str ⟨⟨x⟩⟩ t,.str ⟨⟨a⟩⟩ u,.str ⟨⟨b⟩⟩ v]) (ff c s r) nr s:=by
 refine ab h λd hd h=>aK h λhc h=>?_;have e1:=W8.mp hc;have e2:=W8.mp e1.2;refine aw (iU h) λhl e=>aa (e) (aa (dT hd) ⟨aW.mp e1.1,SC.replaceW hu hv huv ?_ (W6 hx (by decide)) (Xn e2.2) (λt' k=>(fU (ae.tk X0 s k) hl t' ?_))⟩)
 ·rw[beq_eq_false_iff_ne];intro e;have:[d]=b:=congrArg (λz:Str=>z.cps.toList) e;rw[aW.mpr this]at e2;exact eE e2.1
 ·have:=yX ⟨⟨x⟩⟩ d ⟨⟨b⟩⟩;exact congrArg (Value.str · t') (cF this)
open StrLaws in
theorem J1(x y:Str)(lo hi limit:Nat)(hl:1<=limit) :
  (occurrences x y lo hi limit=[]/\∀i,lo<=i->¬At x y hi i)\/
  ∃i r,occurrences x y lo hi limit=i::r/\lo<=i/\At x y hi i/\∀k,lo<=k->k<i->¬At x y hi k:=by
 rw[occ_eq];rcases occ_first x y hi limit hl (aac lo (hi+1-lo)) lo (λi hi=>by have:=List.mem_range'_1.mp hi;exact Gn this) with ⟨h0,hn⟩ | ⟨pre,a,post,e,h0,ha,hn⟩
 ·refine .inl ⟨by rw[h0],λi hlo hi=>?_⟩;exact hn i (by have:=hi.1;rw[List.mem_range'_1];omega) hi
 ·have hs:=range'_split_from e;refine .inr ⟨a,((forIn (aac lo (hi+1-lo)) ((#[]:Array Nat),lo) (occBody x y hi limit)).run.fst.toList).tail,?_,hs.1,ha,λk hk0 hk=>hn k (hs.2 k hk0 hk)⟩;generalize (forIn (aac lo (hi+1-lo)) ((#[]:Array Nat),lo) (occBody x y hi limit)).run.fst=arr at h0;have h1:arr.toList[0]?=some a:=by simpa using h0
  cases hL:arr.toList with
  | nil=>rw[hL]at h1;clear ha hs h0;cases h1
  | cons b t=>rw[hL]at h1;simp at h1;rw[h1];rfl
theorem J2(x:Str)(d i hi:Nat)(hh:hi<=x.length):StrLaws.At x ⟨#[d]⟩ hi i↔i<hi/\x.cps.toList[i]?=some d:=by
 have e:=StrLaws.subAt_one x d i;show i+1<=hi/\_↔_;have e':(i+1<=x.length/\subAt x ⟨#[d]⟩ i=true)↔x.cps.toList[i]?=some d:=e;constructor
 ·rintro⟨h1,h2⟩;exact⟨by exact wW h1,e'.mp ⟨by exact HD hh h1,h2⟩⟩
 ·rintro⟨h1,h2⟩;exact⟨by exact HE h1,(e'.mpr h2).2⟩
theorem um(d a b:Nat):∀(l:List Nat)(i:Nat),(jq d a b i l=none/\∀j,a<=i+j->i+j<b->l[j]?≠some d)\/
  ∃k,jq d a b i l=some (i+k)/\l[k]?=some d/\a<=i+k/\i+k<b/\∀j,j<k->a<=i+j->l[j]?≠some d
 | [],i=>.inl ⟨rfl,λj _ _=>by simp⟩
 | e::l,i=>by
  show(gd (YU i b) (cond (YG a i&&XI d e) (some i) (jq d a b (i+1) l))=none/\_)\/∃k,gd (YU i b) (cond (YG a i&&XI d e) (some i) (jq d a b (i+1) l))=some (i+k)/\_;cases hb:YU i b with
  | false=>exact .inl ⟨rfl,λj _ hj=>absurd (Xu (XX i j) hj) λc=>YQ (hb.symm.trans ((Za).mpr c))⟩
  | true=>
  have hib:i<b:=(Za).mp hb;show(cond (YG a i&&XI d e) (some i) (jq d a b (i+1) l)=none/\_)\/∃k,cond (YG a i&&XI d e) (some i) (jq d a b (i+1) l)=some (i+k)/\_;cases hc:(YG a i&&XI d e) with
  | true=>
   have h:=W8.mp hc;exact .inr ⟨0,rfl,congrArg some (XF h.2).symm,Xn h.1,hib,λj hj=>absurd hj (ZX _)⟩
  | false=>
   have h0:a<=i->(e::l)[0]?≠some d:=λh1 h3=>by
    rw[XB h1,<-W9 h3,Nat.beq_refl]at hc;cases hc
   have sh:∀j,i+1+j=i+(j+1):=λj=>by rw[Nat.add_assoc,Nat.add_comm 1 j]
   rcases um d a b l (i+1) with ⟨h1,h2⟩ | ⟨k,h1,h2,h3,h4,h5⟩
   ·exact .inl ⟨h1,λj=>Nat.casesOn j (λhj _=>h0 hj) λj hj hj'=>h2 j (sh j▸hj) (sh j▸hj')⟩
   ·exact .inr ⟨k+1,h1.trans (congrArg some (sh k)),h2,sh k▸h3,sh k▸h4,λj=>Nat.casesOn j (λ_ hj=>h0 hj) λj hj hj'=>h5 j (Nat.lt_of_succ_lt_succ hj) (sh j▸hj')⟩
theorem J3(pre r:List Nat)(d a b:Nat) :
  (match occurrences ⟨⟨pre++r⟩⟩ ⟨#[d]⟩ (pre.length+a) (min (pre.length+b) (pre++r).length) 1 with | i::_=>(i:Int) | []=>-1)=(match jq d a b 0 r with | some k=>((pre.length+k:Nat):Int) | none=>-1):=by
 have hA:=λi=>J2 ⟨⟨pre++r⟩⟩ d i (min (pre.length+b) (pre++r).length) (by show _<=(pre++r).length;omega);have get:∀k,(pre++r)[pre.length+k]?=r[k]?:=λk=>by rw[List.getElem?_append_right (by omega)];congr 1;omega
 have lt:∀{k},r[k]?=some d->k<r.length:=λh=>(Yh.mp h).1;have hlen:(pre++r).length=pre.length+r.length:=Om;rcases J1 ⟨⟨pre++r⟩⟩ ⟨#[d]⟩ (pre.length+a) (min (pre.length+b) (pre++r).length) 1 (Xs _) with ⟨h1,h2⟩ | ⟨i,t,h1,h2,h3,h4⟩
 ·refine aa h1 ?_;rcases um d a b r 0 with ⟨g1,g2⟩ | ⟨k,g1,g2,g3,g4,g5⟩
  ·refine aa g1 ?_;rfl
  ·exfalso;refine h2 (pre.length+k) (by exact wS g3) ((hA _).mpr ⟨?_,?_⟩)
   ·have:=lt g2;exact Gq hlen g4 this
   ·show(pre++r)[pre.length+k]?=_;simp only[get];exact g2
 ·refine aa h1 (aw ((hA i).mp h3) λj1 j2=>?_);obtain⟨q,rfl⟩:∃q,i=pre.length+q:=⟨i-pre.length,by exact Gu h2⟩;have j2':r[q]?=some d:=by rw[<-get];exact j2
  rcases um d a b r 0 with ⟨g1,g2⟩ | ⟨k,g1,g2,g3,g4,g5⟩
  ·exact absurd j2' (g2 q (by exact wT h2) (by exact Gv j1))
  ·refine aa g1 ?_;have:k=q:=by
    rcases Nat.lt_trichotomy k q with h | h | h
    ·exfalso;refine h4 (pre.length+k) (by exact wS g3) (by exact Gw h) ((hA _).mpr ⟨?_,?_⟩)
     ·have:=lt g2;exact Gx j1 h
     ·show(pre++r)[pre.length+k]?=_;simp only[get];exact g2
    ·exact h
    ·exact absurd j2' (g5 q h (by exact wT h2))
   clear h1 h2 h3 h4 j1 j2 j2' g1 g2 g3 g4 g5;refine aa this ?_;lia
theorem J4(x y:Str)(i j:Nat)(t u v v':Tok):Gives («str.find» ⟨[.str x t,.str y u,.int (.ofNat i) v,.int (.ofNat j) v'],[]⟩) (.int (match occurrences x y i (min j x.length) 1 with | k::_=>(k:Int) | []=>-1)):=by
 have e1:(max 0 (if (Int.ofNat i)<0 then (Int.ofNat i)+x.length else Int.ofNat i)).toNat=i:=by
  have:¬(Int.ofNat i<0):=by have:=XM i;show ¬((i:Int)<0);omega
  rw[if_neg this];show(max 0 (i:Int)).toNat=i;omega
 have e2:(max 0 (if (Int.ofNat j)<0 then (Int.ofNat j)+x.length else Int.ofNat j)).toNat=j:=by
  have:¬(Int.ofNat j<0):=by have:=XM j;show ¬((j:Int)<0);omega
  rw[if_neg this];show(max 0 (j:Int)).toNat=j;omega
 show Gives (match occurrences x y (max 0 (if (Int.ofNat i)<0 then (Int.ofNat i)+x.length else Int.ofNat i)).toNat (min (max 0 (if (Int.ofNat j)<0 then (Int.ofNat j)+x.length else Int.ofNat j)).toNat x.length) 1 with | k::_=>retInt k | []=>(do rule "str.find.not-found";retInt (-1))) _;refine aa e1 (aa e2 ?_);cases occurrences x y i (min j x.length) 1 with
 | nil=>exact .rule (.of_eq rfl)
 | cons k _=>exact .of_eq rfl
theorem J8{x:List Nat}{f:List Nat}{vs:List AV}{us:List W2}{v:W2}{r:AV}(h:sO f x vs=some r)(hv:ao c s.heap (.pat x) v)(rr:aq c s.heap vs us) :
  f=xk/\∃y t,v=.str y t/\Xf (Xe prog w) A (call (.builtin "str.find") (v::us)) (ff c s r) nr s:=by
 refine aK h λe h=>ab h λq hq h=>ab h λz hz h=>ab h λd hd h=>ab h λa ha h=>ab h λb hb h=>aL h (il ((hv:_/\_/\∃t,v=.str ⟨⟨c.pre++x⟩⟩ t)) λhp hl t ev=>nG ((xH hq▸rr:aq c s.heap [q.1,q.2.1,q.2.2] us)) λv1 zz e1 p1 v2 zz zc0=>wj zc0 λe2 p2 v3 zz e3 p3 e4=>?_);have e4:_=[]:=e4;refine cq (g8 hz p1) λzz t1 f1=>?_;refine al (kR ha p2) λt2 f2=>?_;refine al (kR hb p3) λt3 f3=>?_;refine aa (ev) (aa (e1) (aa (e2) (aa (e3) (aa (e4) (aa (f1) (aa (f2) (aa (f3) (aa (dT hd) ⟨aW.mp e,_,_,rfl,call_gives F.slot_str_find (Zh _ _ _) F.entry_str_find (F.args_str_find_4 _ _ _ _) (J4 _ _ _ _ _ _ _ _) ?_⟩))))))));have:=J3 c.pre x d a b;rw[hp]at this;refine aa (show(⟨⟨c.pre++x⟩⟩:Str).length=(c.pre++x).length from rfl) (aa (show(⟨⟨[d]⟩⟩:Str)=⟨#[d]⟩ from rfl) (aa this ?_));cases jq d a b 0 x with
 | some k=>exact(gB (ae.tk X0 s _) _ rfl)
 | none=>exact(gB (ae.tk X0 s _) _ rfl)
end
theorem om(x y:List Nat)(v:PV):∀ρ:ai,aB (mu ρ x v) y=if x=y then some v else aB ρ y
 | []=>by
  show cond (ax x y) (some v) none=_;cases h:ax x y with
  | true=>exact(if_pos (aW.mp h)).symm
  | false=>exact(if_neg λe=>YQ (h.symm.trans (aW.mpr e))).symm
 | (z,u)::r=>by
  show aB (cond (ax z x) ((z,v)::r) ((z,u)::mu r x v)) y=if x=y then some v else cond (ax z y) (some u) (aB r y)
  cases h:ax z x with
  | true=>
   refine aa (aW.mp h) ?_;show cond (ax x y) (some v) (aB r y)=if x=y then some v else cond (ax x y) (some u) (aB r y)
   cases h2:ax x y with
   | true=>exact(if_pos (aW.mp h2)).symm
   | false=>exact(if_neg λe=>YQ (h2.symm.trans (aW.mpr e))).symm
  | false=>
   show cond (ax z y) (some u) (aB (mu r x v) y)=_;refine aa (om x y v r) ?_;cases h2:ax z y with
   | true=>exact(if_neg λe=>YQ (h.symm.trans (aW.mpr ((aW.mp h2).trans e.symm)))).symm
   | false=>rfl
theorem fW.own_low{h:Heap}(B:fW c env ρ h){b:Addr}(o:cy env b):n₀<=b:=by
 rcases o with rfl | ⟨X,_,e⟩
 ·exact B.low.1
 ·exact B.low.2 _ _ e
theorem ak.own(I:ak K c env ρ σ s){b:Addr}(hb:cy env b){h':Heap}(hs:XC b s.heap h')(hl:∃o,h'.get? b=some o)(hns:∀o,s.heap.get? b=some o->¬dK o)(hseq:∀o,s.heap.get? b=some o->∀xs n,o.data≠.seq xs n)
  (henv:b6 c s.heap h'->fW c env ρ' h')(tk:Nat)(htk:1<=tk):ae (λy=>y=b) s {s with heap:=h',toks:=tk}/\ak K c env ρ' σ {s with heap:=h',toks:=tk}:=by
 have lo:=I.env.own_low hb;have X:ae (λy=>y=b) s {s with heap:=h',toks:=tk}:=
  ⟨λy o e n=>hs.extBut y o n e,λy o e=>by
   by_cases h:y=b
   ·clear hs hns hseq lo e;refine aa h ?_;exact hl
   ·exact⟨o,hs.extBut y o h e⟩,rfl,id⟩
 have kd:b6 c s.heap h':=λy o e _ so=>hs.extBut y o (λh=>by subst h;exact hns o e so) e;have kp:∀y o,s.heap.get? y=some o->¬y=b->h'.get? y=some o:=λy o e n=>hs.extBut y o n e;refine⟨X,⟨I.base.but lo kp,I.cfg.keep X.live,henv kd,?_,htk⟩⟩
 ·have go:∀{as:List Addr}{σ:S},b8 c s.heap as σ->∀a∈as,¬a=b:=by
   intro as;induction as with
   | nil=>intro _ _ a ha;cases ha
   | cons a0 as ih=>
    intro σ C a ha;cases σ with
    | nil=>exact C.elim
    | cons cl σ=>
     refine aw C λC1 C2=>?_;clear C;rcases Xk.mp ha with rfl | ha
     ·rintro rfl;exact dd C1.seq λo xs n g d=>hseq o g xs n d
     ·exact ih C2 a ha
  refine I.cells.keepX (X:=λy=>y=b) (λy o e n=>kp y o e n) kd (λdx z _ f _ h=>?_) (go I.cells);clear hl hns hseq lo X kp go;subst h;exact f (I.env.fr _ hb)
theorem J9{k:Option Yl}(h:xv k=true):k=some .local\/k=some .cell:=by
 cases k with
 | none=>cases h
 | some k=>cases k<;>first | exact .inl rfl | exact .inr rfl | exact eE h
theorem uo{sc:YM}{X:Str}{v:PV}(h:eN sc ρ X v=some ρ'):(sc.names.lookup X=some .local\/sc.names.lookup X=some .cell)/\ρ'=mu ρ (nm X) v:=
 aK h λhk h=>⟨J9 (kT sc X▸hk),(W9 h).symm⟩
noncomputable def iW(env:Env)(X:Str)(b:Addr):Prop:=b=env.locals\/(env.kindOf X=some .cell/\env.cells.lookup X=some b)
theorem iW.own{X:Str}{b:Addr}(h:iW env X b):cy env b:=h.imp id λq=>⟨X,q⟩
theorem gJ{X:Str}{t:PV}{v:W2}(h:eN env.scope ρ X t=some ρ')(I:ak K c env ρ σ s)(hr:bN c s.heap t v) :
  Xf (Xe prog w) A (storeName env X v) (λ_ s'=>ae (iW env X) s s'/\ak K c env ρ' σ s') nr s:=by
 refine aw (uo h) λhk zr1=>?_;clear h;refine aa zr1 (al I.env.ns λmm hn=>?_);rcases hk with hk | hk
 ·have hb:cy env env.locals:=.inl rfl;refine fJ (id hn) λoL es ep gL dL zz=>wpAny_storeName_local hk hn (λh' hn' hs'=>?_) (by rw[I.env.kind];rfl);refine(λq=>⟨ae.weaken q.1 λy e=>.inl e,q.2⟩) (I.own hb hs' (dd hn' λo zz zz e zz=>⟨o,e⟩) (λo e=>?_) (λo e xs n d=>?_) (λkd=>?_) _ (Yk 1 _))
  ·rw[gL]at e;cases e;unfold dK;rw[dL];exact id
  ·rw[gL]at e;cases e;rw[dL]at d;cases d
  ·have cne:∀a v,s.heap.IsCell a v->a≠env.locals:=λa v hc e=>by
    clear I hn hk hb hn' hs';subst e;refine af hc λo g d=>?_;rw[gL]at g;clear gL;cases g;rw[dL]at d;cases d
   have hc':∀a v,s.heap.IsCell a v->h'.IsCell a v:=λa v hc=>af hc λo g d=>(ah o (hs'.extBut a o (cne a v hc) g) d);refine⟨I.env.kind,I.env.globals,I.env.builtins,λY u e=>?_,⟨_,hn'⟩,λY e=>cw (I.env.cell Y e) λa v e1 e2=>(cx a v e1 (hc' a v e2)),I.env.apart,I.env.low,I.env.fr⟩;rw[om]at e;by_cases hxy:nm X=nm Y
   ·rw[if_pos hxy]at e;have:=cF hxy;subst this;cases e;exact(ah v (.inl (fw hk _ hn' (by simp))) (hr.keep kd))
   ·rw[if_neg hxy]at e;refine af (I.env.vars Y u e) λv' hv r'=>(ah v' ?_ (r'.keep kd));clear I hk hb gL kd e r';rcases hv with ⟨k,m2,a1,a2⟩ | ⟨k,a,e1,e2⟩
    ·refine .inl (fw k _ hn' ?_);have hYX:¬Y=X:=λh=>hxy (by (refine aa h ?_;rfl));simp only[hYX,if_false];refine fc a1 λo2 es2 ep2 g2 d2 zz f2=>fc hn λo3 es3 ep3 g3 d3 zz f3=>?_;rw[g2]at g3;clear g2;cases g3;rw[d2]at d3;cases d3;simp only[<-f3,f2];exact a2
    ·exact .inr (fw k a e1 (hc' _ _ e2))
 ·refine cw (I.env.cell X hk) λa v0 ea hv0=>?_;have hb:cy env a:=.inr (ah X hk ea);refine af (id hv0) λoA gA dA=>wpAny_storeName_cell I.env.kind hk ea hv0 (λh' hc' hs'=>?_);refine(λq=>⟨ae.weaken q.1 λy e=>.inr ⟨hk,e▸ea⟩,q.2⟩) (I.own hb hs' (af hc' λo e zz=>⟨o,e⟩) (λo e=>?_) (λo e xs n d=>?_) (λkd=>?_) _ I.tk)
  ·rw[gA]at e;(injection e with zi;subst zi);unfold dK;(refine aa dA ?_);exact id
  ·rw[gA]at e;(injection e with zi;subst zi);rw[dA]at d;injection d
  ·have nne:∀m,s.heap.Ns env.locals m->env.locals≠a:=λm hn e=>by
    refine fJ hn λo es ep g d zz=>?_;rw[e,gA]at g;(injection g with zi;subst zi);rw[dA]at d;injection d
   have hn':∀m,s.heap.Ns env.locals m->h'.Ns env.locals m:=λm h=>h.at' λo g=>hs'.extBut _ o (nne m h) g;refine⟨I.env.kind,I.env.globals,I.env.builtins,λY u e=>?_,⟨mm,hn' mm hn⟩,λY e=>?_,I.env.apart,I.env.low,I.env.fr⟩
   ·rw[om]at e;by_cases hxy:nm X=nm Y
    ·rw[if_pos hxy]at e;have:=cF hxy;refine aS this ?_;cases e;exact(ah v (.inr (fw (.inl hk) a ea hc')) (hr.keep kd))
    ·rw[if_neg hxy]at e;refine af (I.env.vars Y u e) λv' hv r'=>(ah v' ?_ (r'.keep kd));clear hn hv0 hb gA kd e r';rcases hv with ⟨k,m2,a1,a2⟩ | ⟨k,a',e1,e2⟩
     ·exact .inl (fw k m2 (hn' m2 a1) a2)
     ·refine .inr (fw k a' e1 ?_);exact af e2 λo g d=>(ah o (hs'.extBut _ o (λh=>hxy (congrArg nm (I.env.apart X Y a ea (h▸e1)))) g) d)
   ·refine mq (I.env.cell Y e) λa' v' e1 o g d=>?_;by_cases h:a'=a
    ·subst h;exact(cx a' (some v) e1 hc')
    ·exact⟨a',v',e1,o,hs'.extBut _ o h g,d⟩
noncomputable def lS(o:Obj):Prop:=∃n,o.cls=.type n/\["enumerate","zip","dict_itemiterator","dict_reverseitemiterator","odict_iterator","itertools.zip_longest","itertools.pairwise"].contains n=false/\∃vs,o.data=.fields vs
set_option backward.match.sparseCases true in
theorem Ka{r:Addr}{v:W2}{o:Obj}{Q:Unit->Xd->Prop}{E:W2->Xd->Prop}(g:s.heap.get? r=some o)(b:lS o)(h:Q () s):Xf (Xe prog w) A (do
  let (.ref r,.ref a):=(Value.ref r,v) | return
  let o<-load r
  match o.cls,o.data with
  | .type n,.fields vs=>
   if ["enumerate","zip","dict_itemiterator","dict_reverseitemiterator","odict_iterator","itertools.zip_longest","itertools.pairwise"].contains n&&vs[0]? == some (rawInt a) then
    rule "for.unpacks-the-owned-tuple"
    updateField r 0 .none
  | _,_=>pure ()) Q E s:=by
 refine lr b λn hc hb vs hv=>?_;clear b;cases v with
 | ref a=>
  refine El (wpAny_load g ?_);refine aa hc (aa hv ?_);exact Yu (by rw[hb];rfl) (Ev h)
 | _=>exact Ev h
theorem uq{tg:Expr}{r:Addr}{v:W2}{o:Obj}{Q:Unit->Xd->Prop}{E:W2->Xd->Prop}(g:s.heap.get? r=some o)(b:lS o)(h:Q () s):Xf (Xe prog w) A (letOwnedTupleGo tg (.ref r) v) Q E s:=by
 have go:=Ka (prog:=prog) (w:=w) (A:=A) (v:=v) (Q:=Q) (E:=E) g b h;clear g b;cases tg<;>first | exact go | exact Ev h
structure Kb(prog:Y3)(w:aal)(c:aj)(h₀:Heap)(ts:List AV)(I:Addr)(fp:List Addr)(P:Nat->W2->Prop)(St:Nat->Heap->Prop):Prop where
 walks:∀A:Zp,A.handled=none->Walks prog w A I fp [I] ts.length P St
 bare:∀i h,St i h->∃o,h.get? I=some o/\lS o
 foot:∀b∈fp,b=I\/(b∉c.cells/\∃o,h₀.get? b=some o/\dK o)
 item:∀i v a,P i v->ts[i]?=some a->ao c h₀ a v
theorem yY:∀(n:Nat)(a:Int)(i:Nat),i<n->(mw a n)[i]?=some (.int (a+(i:Nat) * 1))
 | n+1,a,0,_=>congrArg (λz=>some (AV.int z)) (Int.add_zero a).symm
 | n+1,a,i+1,h=>by
  refine(yY n (a+1) i (Nat.lt_of_succ_lt_succ h)).trans (congrArg (λz=>some (AV.int z)) ?_);push_cast;exact EK
theorem yZ:∀(n:Nat)(a:Int)(i:Nat),i<n->(lH a n)[i]?=some (.int (a+(i:Nat) * (Int.negSucc 0)))
 | n+1,a,0,_=>congrArg (λz=>some (AV.int z)) (Int.add_zero a).symm
 | n+1,a,i+1,h=>by
  refine(yZ n (a-1) i (Nat.lt_of_succ_lt_succ h)).trans (congrArg (λz=>some (AV.int z)) ?_);push_cast;exact EL
theorem ur:∀(n:Nat)(a:Int),(mw a n).length=n
 | 0,_=>rfl
 | n+1,a=>congrArg Nat.succ (ur n (a+1))
theorem ut:∀(n:Nat)(a:Int),(lH a n).length=n
 | 0,_=>rfl
 | n+1,a=>congrArg Nat.succ (ut n (a-1))
theorem qr{i:Int}(h:fK i=true):-8193<=i/\i<=8192:=by
 cases i with
 | ofNat n=>have:=Xn h;show -8193<=(n:Int)/\(n:Int)<=8192;exact EI this
 | negSucc n=>have:=Xn h;rw[Int.negSucc_eq];exact EJ this
noncomputable def mS(prog:Y3)(w:aal)(c:aj)(s:Xd)(ts:List AV)(v:W2)(s':Xd):Prop:=
 ∃fp P St,v=.ref s.heap.objs.size/\Kb prog w c s.heap ts s.heap.objs.size fp P St/\St 0 s'.heap/\∃o,s'={s with heap:=s.heap.push o}/\o.isFreed=false
theorem Kc{c:aj}{s:Xd}{a:Addr}{vs:List W2}{n:Nat}{l:List AV}(g:s.heap.get? a=some {cls:=.type "list",data:=.seq ⟨vs⟩ n})(hx:a∉c.cells)(rr:aq c s.heap l vs) :
  Xf (Xe prog w) A (pyIter (.ref a)) (mS prog w c s l) nr s:=by
 have l1:s.heap.IsList a ⟨vs⟩:=(dl _ g rfl _ rfl);have hlt:a<s.heap.objs.size:=Xm g;have hlen:=rr.length;have hne:a≠s.heap.objs.size:=XZ hlt;refine wpAny_pyIter_list l1 ⟨[s.heap.objs.size,a],λi v=>(⟨vs⟩:Array W2)[i]?=some v,λi h=>h.IsListIter s.heap.objs.size a i/\h.IsList a ⟨vs⟩,rfl,
  ⟨λA hA=>?_,λi h st=>?_,λb hb=>?_,λi v b hi hb=>?_⟩,⟨(de _ (Xl _ rfl) rfl rfl),l1.push _⟩,_,rfl,rfl⟩
 ·have:=Walks.list (prog:=prog) (w:=w) hA s.heap.objs.size a hne ⟨vs⟩;rw[show(⟨vs⟩:Array W2).size=l.length from hlen]at this;exact this
 ·exact aw st λzn0 zz=>dY zn0 λo g1 g2 g3=>⟨o,g1,_,g2,by decide,_,g3⟩
 ·simp only[Xk,Xw,or_false]at hb;clear l1 hne;rcases hb with rfl | rfl
  ·exact .inl rfl
  ·exact .inr (fw hx _ g mM)
 ·rw[jY]at hi;refine af (rr.at hi) λy e1 e2=>?_;have zs:=fS e1 hb;clear e1;subst zs;exact e2
theorem y4{c:aj}{s:Xd}{r:Addr}{a b d:Int}{t u v:Tok}{n:Nat}{l:List AV}(g:IsRange s.heap r a b d t u v)(hs:Xp.Range.small a b d=true)(hn:Xp.Range.rangeSize a b d=(n:Int))(hl:l.length=n)
  (hi:∀i,i<n->l[i]?=some (.int (a+(i:Nat) * d))):Xf (Xe prog w) A (pyIter (.ref r)) (mS prog w c s l) nr s:=by
 refine wpAny_pyIter_range g hs ⟨[s.heap.objs.size],λi v=>i<n/\∃t,v=.int (a+(i:Nat) * d) t,λi h=>IsRangeIter h s.heap.objs.size (a+(i:Nat) * d) ((n:Int)-(i:Nat)) d,rfl,
  ⟨λA hA=>?_,λi h st=>⟨_,st,_,rfl,by decide,_,rfl⟩,λb hb=>.inl (Xi.mp hb),λi v y hp hy=>?_⟩,?_,_,rfl,rfl⟩
 ·exact aa (hl) (Walks.bound (Walks.range (prog:=prog) (w:=w) hA s.heap.objs.size a d n))
 ·refine cq hp λh1 t zr2=>?_;clear g hs hn hp;subst zr2;rw[hi i h1]at hy;clear hi h1;cases hy;exact⟨t,rfl⟩
 ·show IsRangeIter _ _ _ _ _;refine aa (hn) ?_;simpa using Xl _ rfl
theorem Kd{c:aj}{s:Xd}{x:List Nat}{t:Tok}:Xf (Xe prog w) A (pyIter (.str ⟨⟨x⟩⟩ t)) (mS prog w c s (x.map λd=>.str [d])) nr s:=by
 have item:∀i v a,SignAt ⟨⟨x⟩⟩ i v->(x.map λd=>AV.str [d])[i]?=some a->ao c s.heap a v:=by
  rintro i v a ⟨d,u,e,rfl⟩ ha;have e':x[i]?=some d:=by simpa using e
  rw[ZJ,e']at ha;clear e e';cases ha;exact(gB (Yk 1 4095) u rfl)
 have hl:(x.map λd=>AV.str [d]).length=(⟨x⟩:Array Nat).size:=by simp
 cases ha:(⟨⟨x⟩⟩:Str).cps.all (· < 128) with
 | false=>
  refine wpAny_pyIter_wide ha ⟨[s.heap.objs.size],SignAt ⟨⟨x⟩⟩,λi h=>h.IsStrIter s.heap.objs.size "str_iterator" ⟨⟨x⟩⟩ t i,rfl,
   ⟨λA hA=>by (refine aa hl ?_);exact Walks.strWide hA _ _ t,λi h st=>dY st λo g1 g2 g3=>⟨o,g1,_,g2,by decide,_,g3⟩,λb hb=>.inl (Xi.mp hb),item⟩,(de _ (Xl _ rfl) rfl rfl),_,rfl,rfl⟩
 | true=>
  refine wpAny_pyIter_ascii ha ⟨[s.heap.objs.size],SignAt ⟨⟨x⟩⟩,λi h=>h.IsStrIter s.heap.objs.size "str_ascii_iterator" ⟨⟨x⟩⟩ t i,rfl,
   ⟨λA hA=>by (refine aa hl ?_);exact Walks.strAscii hA _ _ t,λi h st=>dY st λo g1 g2 g3=>⟨o,g1,_,g2,by decide,_,g3⟩,λb hb=>.inl (Xi.mp hb),item⟩,(de _ (Xl _ rfl) rfl rfl),_,rfl,rfl⟩
theorem fl{i:Int}(h1:-40000<=i)(h2:i<=40000):Zn i=true:=W8.mpr ⟨decide_eq_true (YW (by decide) h1),decide_eq_true (Int.lt_of_le_of_lt h2 (by decide))⟩
theorem y5{a b d:Int}{n:Nat}(ha:fK a=true)(hb:fK b=true)(hn:Xp.Range.rangeSize a b d=(n:Int))(hk:n<=aD)(hd:d=1\/d=-1):Xp.Range.small a b d=true:=by
 have h1:=qr ha;have h2:=qr hb;have e1:=fl (YW (by decide) h1.1) (YW h1.2 (by decide));have e2:=fl (YW (by decide) h2.1) (YW h2.2 (by decide));have e3:=fl (YW (by decide) (XM n)) (YW (ZU.mpr hk) (by decide));have e4:(if d > 0 then Zn (b+(d-1)) else Zn (b+(d+1)))=true:=by rcases hd with rfl | rfl<;>exact(congrArg Zn (Int.add_zero b)).trans e2
 have e5:Zn d=true:=by rcases hd with rfl | rfl<;>rfl
 unfold Xp.Range.small;rw[hn,e1,e2,e3,e4,e5,Bool.or_true];rfl
theorem y6{a b:Int}(ha:fK a=true)(hb:fK b=true):Xp.Range.rangeSize a b (-1)=((a-b).toNat:Int):=by
 unfold Xp.Range.rangeSize;have h1:=qr ha;have h2:=qr hb;simp only[show ¬((-1:Int) > 0) by decide,if_false,show(- (-1:Int))=1 by decide,Int.ediv_one];split<;>(first | exact GW (by assumption) | exact GV (by assumption))
theorem y8{t:PV}{ts:List AV}{v:W2}(h:jt t=some ts)(hr:bN c s.heap t v)(hc:bW c s.heap):Xf (Xe prog w) A (pyIter v) (mS prog w c s ts) nr s:=by
 cases t with
 | val a=>
  cases a with
  | lst l=>exact aL h (b5 hr λa vs n e hx g hl rr=>aA e (Kc g (λe=>hx (hc.sub a e)) rr))
  | str x=>exact aL h (cq ((hr:_/\∃t,v=.str ⟨⟨x⟩⟩ t)) λzz t e=>aA e Kd)
  | _=>exact aT (h:none=some ts)
 | rng a b d=>
  refine lu hr λr t u v' e hx g=>aa e (aK h λhs h=>?_);have hs:=W8.mp hs;refine ab h λu hu h=>?_;have ed:=bS (P:=λb=>d=cond b (.ofNat 1) (.negSucc 0)) hu;clear hu;subst ed;cases u with
  | true=>exact aK h λe h=>aL h (y4 g (y5 hs.1 hs.2 (rangeSize_nat a b) (Xn e) (.inl rfl)) (n:=(b-a).toNat) (rangeSize_nat a b) (ur _ _) (λi hi=>yY _ _ i hi))
  | false=>exact aK h λe h=>aL h (y4 g (y5 hs.1 hs.2 (y6 hs.1 hs.2) (Xn e) (.inr rfl)) (n:=(a-b).toNat) (y6 hs.1 hs.2) (ut _ _) (λi hi=>yZ _ _ i hi))
 | _=>exact aT (h:none=some ts)
theorem ak.kdOwn(I:ak K c env ρ σ s)(X:ae (cy env) s s1):b6 c s.heap s1.heap:=by
 intro b o e _ so;refine X.keep b o e ?_;rintro(rfl | ⟨Y,k,ea⟩)
 ·refine lu I.env.ns λmm o' es ep g d zz=>?_;have zs:=fS e g;clear e;cases zs;unfold dK at so;rw[d]at so;exact so
 ·refine mq (I.env.cell Y k) λa v ea' o' g d=>?_;have zs:=fS ea ea';clear ea;subst zs;rw[e]at g;clear e;cases g;unfold dK at so;rw[d]at so;exact so
theorem y9:∀{ts:List Expr}{xs:List Str},jR ts=some xs->∃ps:List (Str×Pos),ps.map (·.1)=xs/\assignEach ts env=ps.map (λp=>(false,assign (.Name p.1 p.2) env))
 | [],xs,h=>(ah ([]) (W9 h) rfl)
 | t::r,xs,h=>ab h λX hX h=>ab h λl hl h=>aL h (
   al (iS hX) λp e=>
   af (y9 hl) λps e1 e2=>
   (ah ((X,p)::ps) (congrArg (X::·) e1) (by rw[e];exact congrArg ((false,assign (.Name X p) env)::·) e2)))
theorem za:∀{ps:List (Str×Pos)}{vs:List AV}{us:List W2}{ρ ρ':ai}{s:Xd},ju env.scope ρ (ps.map (·.1)) vs=some ρ'->ak K c env ρ σ s->aq c s.heap vs us->
  Xf (Xe prog w) A (assignInOrder (ps.map λp=>assign (.Name p.1 p.2) env) us) (λ_ s'=>ae (λb=>∃p∈ps,iW env p.1 b) s s'/\ak K c env ρ' σ s') nr s
 | [],vs,us,ρ,ρ',s,h,I,r=>aK h λe h=>aL h (by
  rw[jv e,aq]at r;refine aa (r) ?_;exact wpAny_assignInOrder_none ⟨ae.refl _ _,I⟩)
 | (X,p0)::xs,vs,us,ρ,ρ',s,h,I,r=>bT h λv ws e h=>ab h λρ1 h1 h=>by
  exact bb ((nW e▸r:aq c s.heap (v::ws) us)) λu us' e' p q=>aa (e') (wpAny_assignInOrder_more (wpAny_assign_Name (KE (gJ h1 I p) (λ_ s1 q1=>KE (za h q1.2 (q.keep (I.kdOwn (q1.1.weaken λ_ o=>o.own)))) (λ_ s2 q2=>⟨(q1.1.weaken λ_ o=>⟨_,Xh,o⟩).trans (q2.1.weaken λ_ zq6=>af zq6 λp hp o=>⟨p,Xc _ hp,o⟩),q2.2⟩) no) no)))
theorem uu{sc:YM}:∀{xs:List Str}{vs:List AV}{ρ ρ':ai},ju sc ρ xs vs=some ρ'->xs.length=vs.length
 | [],_,_,_,h=>aK h λe _=>(congrArg ZT (jv e)).symm
 | _::_,_,_,_,h=>bT h λ_ _ e h=>ab h λ_ _ h=>(congrArg (· + 1) (uu h)).trans (congrArg ZT (nW e)).symm
theorem qt{tg:Expr}{a:AV}{v:W2}(h:eG env.scope tg a ρ=some ρ')(I:ak K c env ρ σ s)(hr:ao c s.heap a v)(hh:A.handled=none) :
  ∃xs,lI tg=some xs/\Xf (Xe prog w) A (assign tg env v) (λ_ s'=>ae (λb=>∃X∈xs,iW env X b) s s'/\ak K c env ρ' σ s') nr s:=by
 cases tg with
 | Name X p=>exact(ah _ rfl (wpAny_assign_Name (KE (gJ h I hr) (λ_ s1 q=>⟨q.1.weaken λ_ o=>(ah _ (Xi.mpr rfl) o),q.2⟩) no)))
 | Tuple ts k p=>
  refine ab h λvs hv h=>ab h λxs hxs h=>af (y9 (env:=env) hxs) λps e1 e2=>b5 (mN hv hr) λb us n e hx g hl rr=>?_;rw[<-e1]at h hxs;refine aa (e) ((ah _ hxs (XJ I.tk (assign_Tuple_tuple hh (dl _ g rfl _ rfl) ?_ ?_ λh' hs=>?_))))
  ·rw[e2,W7];exact((W7 _).symm.trans (uu h)).trans rr.length.symm
  ·rw[e2];simp
  ·have X:ae X0 s {s with heap:=h'}:=ae.kept (λy o e=>hs y o (XZ (Xm e)) e) rfl id;exact aa (e2) (aa (YV) (KE (za (ps:=ps) h (I.keep0 X I.tk) (rr.keep (.of0 X.all))) (λ_ s2 q2 _=>⟨X.x0.trans (q2.1.weaken λ_ zq7=>af zq7 λp hp o=>(ah _ (Yp.mpr (ah p hp rfl)) o)),q2.2⟩) no))
 | _=>cases (h:none=some ρ')
theorem ak.other(I:ak K c env ρ σ s){b:Addr}{o:Obj}(g:s.heap.get? b=some o)(hd1:∀es ep,o.data≠.dict es ep)(hd2:∀v,o.data≠.cell v)(hx:c.ex b)(hcs:b∉c.cells)(lo:n₀<=b){h':Heap}(hk:∀y o,y≠b->s.heap.get? y=some o->h'.get? y=some o)(hl:∃o,h'.get? b=some o)(tk:Nat)(htk:1<=tk) :
  ae (λy=>y=b) s {s with heap:=h',toks:=tk}/\ak K c env ρ σ {s with heap:=h',toks:=tk}:=by
 have X:ae (λy=>y=b) s {s with heap:=h',toks:=tk}:=
  ⟨λy o e n=>hk y o n e,λy o e=>by
   by_cases h:y=b
   ·refine aa h ?_;exact hl
   ·exact⟨o,hk y o h e⟩,rfl,id⟩
 have kd:b6 c s.heap h':=λy o e nx _=>hk y o (λh=>nx (h▸hx)) e;have nns:∀{a m},s.heap.Ns a m->a≠b:=λzq8 e=>fJ zq8 λzz zz zz g' d zz=>by
  clear X;subst e;have zs:=fS g g';cases zs;exact hd1 _ _ d
 have ncell:∀{a v},s.heap.IsCell a v->a≠b:=λzq9 e=>af zq9 λzz g' d=>by
  clear nns;subst e;have zs:=fS g g';clear hd1 g;cases zs;exact hd2 _ d
 have ninit:∀{a z},eS s.heap a z->a≠b:=λzq10 e=>dd zq10 λzz zz zz g' zz=>by
  clear ncell;subst e;rw[g]at g';(injection g' with zi;clear hd2 g;subst zi);exact hd1 _ _ rfl
 exact⟨X,I.base.but lo λy o e n=>hk y o n e,I.cfg.keep X.live,I.env.keepX X.keep kd (λm hm=>nns hm) (λa v _ hv=>ncell hv),I.cells.keepX (X:=λy=>y=b) X.keep kd (λdx z _ _ i=>ninit i) λa ha e=>hcs (e▸ha),htk⟩
theorem b8.mem{h:Heap}{a:Addr}:∀{as:List Addr}{σ:S},b8 c h as σ->a∈as->∃cl,bD c h a cl
 | [],_,_,ha=>by cases ha
 | b::as,[],C,_=>C.elim
 | b::as,cl::σ,zp1,ha=>by
  refine aw zp1 λC1 C2=>?_;rcases Xk.mp ha with rfl | ha
  ·exact⟨cl,C1⟩
  ·exact C2.mem ha
theorem ak.iter(I:ak K c env ρ σ s){b:Addr}{o:Obj}(g:s.heap.get? b=some o)(hb:lS o)(hx:c.ex b)(lo:n₀<=b){h':Heap}(hk:∀y o,y≠b->s.heap.get? y=some o->h'.get? y=some o)(hl:∃o,h'.get? b=some o)(tk:Nat)(htk:1<=tk) :
  ae (λy=>y=b) s {s with heap:=h',toks:=tk}/\ak K c env ρ σ {s with heap:=h',toks:=tk}:=by
 refine lr hb λn hc zz vs hd=>I.other g (λ_ _ e=>by injection (hd.symm.trans e)) (λ_ e=>by cases (hd.symm.trans e)) hx (λh=>?_) lo hk hl tk htk;refine al (I.cells.mem h) λcl C=>dd C.seq λo' xs n' g' d=>?_;have zs:=fS g g';clear g hb hc;subst zs;injection (hd.symm.trans d)
theorem kY:∀(names:List (Str×Yl))(n:Nat)(acc:List (Str×Addr)),YZ n names acc=YZ n names []++acc
 | [],_,_=>rfl
 | (x,k)::r,n,acc=>by
  dsimp only[YZ];split
  ·rw[kY r (n+1) ((x,n)::acc),kY r (n+1) [(x,n)],XO];rfl
  ·exact kY r n acc
theorem jB{α:Type}(X:Str):∀(l1 l2:List (Str×α)),(l1++l2).lookup X=match l1.lookup X with | some a=>some a | none=>l2.lookup X
 | [],_=>rfl
 | (y,a)::r,l2=>by
  refine aa (List.cons_append) (aa (Yy) (aa (Yy) ?_));cases X==y with
  | true=>rfl
  | false=>exact jB X r l2
theorem uv:∀{names:List (Str×Yl)}{n:Nat}{X:Str}{a:Addr},(X,a)∈YZ n names []->(X,NameKind.cell)∈names
 | [],_,_,_,h=>by simp[YZ]at h
 | (x,k)::r,n,X,a,h=>by
  rw[YZ]at h;split at h
  ·rename_i hk;rw[kY]at h;rcases Yv.mp h with h | h
   ·exact Xc _ (uv h)
   ·simp only[Xi,Prod.mk.injEq]at h;obtain⟨rfl,_⟩:=h;rw[beq_iff_eq]at hk;subst hk;exact Xh
  ·exact Xc _ (uv h)
theorem j0:∀{names:List (Str×Yl)}{n:Nat}{X:Str},(X,NameKind.cell)∈names->∃a,(YZ n names []).lookup X=some a
 | (x,k)::r,n,X,h=>by
  rw[YZ];rcases Xk.mp h with e | h
  ·clear h;cases e;rw[if_pos (by rfl),kY,jB];generalize (YZ (n+1) r []).lookup x=q;cases q with
   | some a=>exact⟨a,rfl⟩
   | none=>exact⟨n,by simp⟩
  ·split
   ·rw[kY,jB];obtain⟨a,e⟩:=j0 (n:=n+1) h;rw[e];exact⟨a,rfl⟩
   ·exact j0 h
theorem kZ:∀{names:List (Str×Yl)}{X:Str}{k:Yl},once names=true->(X,k)∈names->names.lookup X=some k
 | (x,k0)::r,X,k,h,hm=>by
  dsimp only[once]at h;rw[YK,ZK]at h;refine aa (Yy) ?_;rcases Xk.mp hm with e | hm2
  ·cases e;rw[beq_self_eq_true]
  ·have:(X==x)=false:=by
    rw[beq_eq_false_iff_ne];rintro rfl;have h1:=h.1;rw[List.any_eq_false]at h1;exact h1 (X,k) hm2 (aW.mpr rfl:ax (nm X) (nm X)=true)
   exact aa (this) (kZ h.2 hm2)
noncomputable def cH(cells:List (Str×Addr)):List (Str×Yl)->List (Str×Addr)->List (Str×Addr)
 | [],acc=>acc
 | (n,k)::r,acc=>if k == .free then (match cells.lookup n with | some a=>cH cells r ((n,a)::acc) | none=>cH cells r acc) else cH cells r acc
theorem lT(cells:List (Str×Addr)):∀(names:List (Str×Yl))(acc:List (Str×Addr)),cH cells names acc=cH cells names []++acc
 | [],_=>rfl
 | (x,k)::r,acc=>by
  dsimp only[cH];split
  ·split
   ·rename_i a _;rw[lT cells r ((x,a)::acc),lT cells r [(x,a)],XO];rfl
   ·exact lT cells r acc
  ·exact lT cells r acc
theorem j4{cells:List (Str×Addr)}:∀{names:List (Str×Yl)}{X:Str}{a:Addr},(X,a)∈cH cells names []->(X,NameKind.free)∈names/\cells.lookup X=some a
 | [],_,_,h=>by simp[cH]at h
 | (x,k)::r,X,a,h=>by
  rw[cH]at h;split at h
  ·rename_i hk;split at h
   ·rename_i a0 ha;rw[lT]at h;rcases Yv.mp h with h | h
    ·exact⟨Xc _ (j4 h).1,(j4 h).2⟩
    ·simp only[Xi,Prod.mk.injEq]at h;obtain⟨rfl,rfl⟩:=h;rw[beq_iff_eq]at hk;subst hk;exact⟨Xh,ha⟩
   ·exact⟨Xc _ (j4 h).1,(j4 h).2⟩
  ·exact⟨Xc _ (j4 h).1,(j4 h).2⟩
theorem zb{cells:List (Str×Addr)}{a:Addr}:∀{names:List (Str×Yl)}{X:Str},(X,NameKind.free)∈names->cells.lookup X=some a->(cH cells names []).lookup X=some a
 | (x,k)::r,X,h,e=>by
  dsimp only[cH];rcases Xk.mp h with e1 | h
  ·clear h;cases e1;refine aa (if_pos (by rfl)) (aa (e) ?_);show(cH cells r [(x,a)]).lookup x=some a;rw[lT,jB];cases e2:(cH cells r []).lookup x with
   | some b=>
    have:=(j4 (mem_of_lookup e2)).2;rw[e]at this;cases this;rfl
   | none=>simp
  ·have ih:=zb h e;split
   ·split
    ·rw[lT,jB,ih]
    ·exact ih
   ·exact ih
theorem uw{env:Env}(f:Str×Yl->List (Str×Addr)->Sem (ForInStep (List (Str×Addr))))
  (hf:∀name kind cs,f (name,kind) cs=if kind == .free then (do let a<-cellOf env name;pure (.yield ((name,a)::cs))) else pure (.yield cs)) :
  ∀(names:List (Str×Yl))(acc:List (Str×Addr)),(∀n,(n,NameKind.free)∈names->∃a,env.cells.lookup n=some a)->(forIn names acc f:Sem (List (Str×Addr)))=pure (cH env.cells names acc)
 | [],acc,_=>rfl
 | (n,k)::r,acc,h=>by
  rw[List.forIn_cons,hf];dsimp only[cH];have hr:∀n,(n,NameKind.free)∈r->∃a,env.cells.lookup n=some a:=λn hn=>h n (Xc _ hn);cases hk:(k==NameKind.free) with
  | true=>
   have:=beq_iff_eq.mp hk;subst this;obtain⟨a,ha⟩:=h n Xh;have e:cellOf env n=pure a:=by unfold cellOf;rw[ha]
   exact aa (e) (aa (ha) (uw f hf r _ hr))
  | false=>
   skip;exact uw f hf r _ hr
theorem ux{scope:YM}{env:Env}(h:∀n,(n,NameKind.free)∈scope.names->∃a,env.cells.lookup n=some a):closureFor scope env=pure (cH env.cells scope.names []):=by
 skip;show((forIn scope.names ([]:List (Str×Addr)) (λx s=>match x with
  | (name,kind)=>if (kind==NameKind.free)=true then (do let a<-cellOf env name;pure (ForInStep.yield ((name,a)::s))) else pure (ForInStep.yield s)):Sem (List (Str×Addr))) >>= λr=>pure r)=_
 refine aa (uw (env:=env) _ (λ_ _ _=>rfl) _ _ h) ?_;rfl
theorem Ke{k:Yl}(h:nP k=true):k=.free:=by cases k<;>first | rfl | cases h
theorem Kf{k:Option Yl}(h:xw k=true):k=some .cell\/k=some .free:=by
 cases k with
 | none=>cases h
 | some k=>cases k<;>first | exact .inl rfl | exact .inr rfl | cases h
theorem zc{p:Str×Yl}{r:List (Str×Yl)}{osc:YM}{ρ ρ0:ai}{C:ai->Prop}(h:fV osc (p::r) ρ=some ρ0)
  (k1:∀v l,p.2=.free->(p.1==("__classdict__":Str))=false->(osc.names.lookup p.1=some .cell\/osc.names.lookup p.1=some .free)->aB ρ (nm p.1)=some v->fV osc r ρ=some l->C ((nm p.1,v)::l))(k2:p.2≠.free->fV osc r ρ=some ρ0->C ρ0):C ρ0:=
 cQ h (λe h=>aK h λg h=>ab h λv hv h=>ab h λl hl h=>W9 h▸k1 v l (Ke e) (by
  have g:=(W8.mp g).1;rw[beq_eq_false_iff_ne];intro q;rw[q]at g;exact absurd g (by decide)) (Kf (kT osc p.1▸(W8.mp g).2)) hv hl) λe h=>k2 (λq=>by rw[q]at e;cases e) h
theorem qu:∀{names:List (Str×Yl)}{osc:YM}{ρ ρ0:ai},fV osc names ρ=some ρ0->
  (∀X,(X,NameKind.free)∈names->(X==("__classdict__":Str))=false/\(osc.names.lookup X=some .cell\/osc.names.lookup X=some .free)/\∃v,aB ρ (nm X)=some v)/\
  (∀Y t,aB ρ0 (nm Y)=some t->(Y,NameKind.free)∈names/\aB ρ (nm Y)=some t)
 | [],_,_,_,h=>aL h ⟨λ_ h=>(nomatch h),λ_ _ h=>(nomatch (show none=_ from h))⟩
 | (n,k)::r,osc,ρ,ρ0,h=>by
  refine zc (C:=λρ0=>(∀X,(X,NameKind.free)∈(n,k)::r->(X==("__classdict__":Str))=false/\(osc.names.lookup X=some .cell\/osc.names.lookup X=some .free)/\∃v,aB ρ (nm X)=some v)/\(∀Y t,aB ρ0 (nm Y)=some t->(Y,NameKind.free)∈(n,k)::r/\aB ρ (nm Y)=some t)) h (λv l e1 e2 e3 e4 hl=>?_) λhk h=>?_
  ·have ih:=qu hl;have e1:k=.free:=e1;refine⟨λX hX=>(Xk.mp hX).elim (λe=>?_) (ih.1 X),λY t e=>?_⟩
   ·clear h e1 hX;cases e;exact(fU e2 e3 v e4)
   ·have e:(match ax (nm n) (nm Y) with | true=>some v | false=>aB l (nm Y))=some t:=e;cases q:ax (nm n) (nm Y) with
    | true=>
     rw[q]at e;clear ih;cases e;exact aS (cF (aW.mp q)) (aa e1 ⟨Xh,e4⟩)
    | false=>
     rw[q]at e;exact⟨Xc _ (ih.2 Y t e).1,(ih.2 Y t e).2⟩
  ·have ih:=qu h;exact⟨λX hX=>(Xk.mp hX).elim (λe=>absurd (congrArg Prod.snd e).symm hk) (ih.1 X),λY t e=>⟨Xc _ (ih.2 Y t e).1,(ih.2 Y t e).2⟩⟩
theorem uy:∀{names:List (Str×Yl)}{osc:YM}{ρ ρ0:ai},fV osc names ρ=some ρ0->∀X,(X,NameKind.free)∈names->∃v,aB ρ0 (nm X)=some v
 | [],_,_,_,_,_,h=>nomatch h
 | (n,k)::r,osc,ρ,ρ0,h,X,hX=>by
  refine zc (C:=λρ0=>∃v,aB ρ0 (nm X)=some v) h (λv l e1 e2 e3 e4 hl=>?_) λhk h=>(Xk.mp hX).elim (λe=>absurd (congrArg Prod.snd e).symm hk) (uy h X);show ∃u,cond (ax (nm n) (nm X)) (some v) (aB l (nm X))=some u;cases q:ax (nm n) (nm X) with
  | true=>exact⟨v,rfl⟩
  | false=>exact(Xk.mp hX).elim (λe=>YQ (q.symm.trans (aW.mpr (congrArg (λp:Str×Yl=>nm p.1) e).symm))) (uy hl X)
theorem ak.inner(I:ak K c env ρ σ s){e:Env}{names:List (Str×Yl)}{ρ0:ai}{n:Nat}{s':Xd}(ho:once names=true)(hf:fV env.scope names ρ=some ρ0)
  (hk:e.scope.kind=.function)(hg:e.globals=env.globals)(hb:e.builtins=env.builtins)(hc:e.cells=YZ n names []++cH env.cells names [])
  (hA:∀X,e.kindOf X=some .cell->(X,NameKind.cell)∈names\/((X,NameKind.free)∈names/\env.kindOf X=some .cell))(hB:∀X,(X,NameKind.free)∈names->e.kindOf X=some .free\/e.kindOf X=some .cell)
  (hX:ae X0 s s')(hL:s.heap.objs.size<=e.locals)(hn:s.heap.objs.size<=n)(hns:∃mm,s'.heap.Ns e.locals mm)(hcells:CellsOk s'.heap n (YZ n names []))(htk:1<=s'.toks) :
  ak K {c with fr:=λb=>c.fr b\/cy e b} e ρ0 σ s':=by
 refine aw (qu hf) λf1 f2=>?_;have I':=I.keep0 hX htk;have hlook:∀X a,e.cells.lookup X=some a->((X,a)∈YZ n names []/\s'.heap.IsCell a none/\n<=a)\/((X,NameKind.free)∈names/\env.cells.lookup X=some a):=λX a h=>by
  rw[hc,jB]at h;split at h
  ·rename_i a' h';cases h;have:=mem_of_lookup h';exact .inl (bR this ((hcells.empty _ _ this).1) ((hcells.empty _ _ this).2))
  ·exact .inr (j4 (mem_of_lookup h))
 have hfree:∀X a,(X,NameKind.free)∈names->env.cells.lookup X=some a->e.cells.lookup X=some a:=λX a hm ha=>by
  rw[hc,jB];have hno:(YZ n names []).lookup X=none:=by
   cases q:(YZ n names []).lookup X with
   | none=>rfl
   | some b=>
    have h1:=kZ ho (uv (mem_of_lookup q));have h2:=kZ ho hm;rw[h1]at h2;cases h2
  exact aa (hno) (zb hm ha)
 have outer:∀X,(X,NameKind.free)∈names->∃a v,env.cells.lookup X=some a/\s.heap.IsCell a (some v)/\(X==("__classdict__":Str))=false/\∀t,aB ρ (nm X)=some t->bN c s.heap t v:=λX hm=>by
  refine il (f1 X hm) λhcd hkind v0 hv0=>af (I.env.vars X v0 hv0) λv hv hr=>?_;rcases hv with ⟨k,_⟩ | ⟨k,a,e1,e2⟩
  ·exfalso;have k':env.scope.names.lookup X=some .local:=k;rcases hkind with q | q<;>(rw[q]at k';cases k')
  ·exact⟨a,v,e1,e2,hcd,λt ht=>by rw[hv0]at ht;cases ht;exact hr⟩
 have live:∀X a,(X,NameKind.free)∈names->env.cells.lookup X=some a->a<s.heap.objs.size:=λX a hm ha=>by
  refine bb (outer X hm) λa' v e1 e2 zz=>?_;have zs:=fS ha e1;subst zs;exact e2.lt
 have size0:=I.base.size;refine⟨I'.base,⟨I'.cfg.sub,I'.cfg.nodup,I'.cfg.low,I'.cfg.live,I'.cfg.theta⟩,⟨hk,by (refine aa hg ?_);exact I.env.globals,by (refine aa hb ?_);exact I.env.builtins,λY t h=>?_,hns,λX h=>?_,λX Y a h1 h2=>?_,⟨W6 size0 hL,λX a h=>?_⟩,λb o=>.inr o⟩,?_,htk⟩
 ·refine aw (f2 Y t h) λh1 h2=>io (outer Y h1) λa v e1 e2 hcd e3=>?_;have hp:bN {c with fr:=λb=>c.fr b\/cy e b} s'.heap t v:=by
   have:=(e3 t h2).keep (.of0 hX.all);cases t with
   | val a=>exact ao.le (c:=c) (c':={c with fr:=λb=>c.fr b\/cy e b}) (h:=s'.heap) ⟨rfl,rfl,rfl,λ_ _ _ e=>e⟩ (show ao c s'.heap a v from this)
   | cell i=>exact this
   | app i=>exact this
   | rng x y z=>exact this
  refine(ah v (.inr (fw ?_ a (hfree Y a h1 e1) (e2.keeps hX.all))) hp);rcases hB Y h1 with q | q
  ·exact .inr ⟨q,hcd⟩
  ·exact .inl q
 ·rcases hA X h with hm | ⟨hm,hk⟩
  ·refine al (j0 (n:=n) hm) λa ha=>(cx a none ?_ ((hcells.empty _ _ (mem_of_lookup ha)).1));rw[hc,jB,ha]
  ·exact bb (outer X hm) λa v e1 e2 zz=>(cx a _ (hfree X a hm e1) (e2.keeps hX.all))
 ·rcases hlook X a h1 with ⟨m1,_,g1⟩ | ⟨m1,g1⟩<;>rcases hlook Y a h2 with ⟨m2,_,g2⟩ | ⟨m2,g2⟩
  ·exact name_of_addr hcells.apart m1 m2
  ·exact absurd (live Y a m2 g2) (XN.mpr (W6 hn (by assumption)))
  ·exact absurd (live X a m1 g1) (XN.mpr (W6 hn (by assumption)))
  ·exact I.env.apart X Y a g1 g2
 ·clear ho hf hg hb hc hA hB hns hcells f1 f2 I' hfree outer live;rcases hlook X a h with ⟨_,_,g⟩ | ⟨_,g⟩
  ·exact W6 size0 (W6 hn g)
  ·exact I.env.low.2 X a g
 ·have hdx:∀dx z,¬c.fr dx->eS s.heap dx z->¬cy e dx:=λdx z nf i o=>by
   have hlt:dx<s.heap.objs.size:=dd i λzz zz zz g zz=>Xm g;rcases o with rfl | ⟨X,k,ea⟩
   ·exact absurd hlt (XN.mpr hL)
   ·rcases hlook X dx ea with ⟨_,_,g⟩ | ⟨hm,g⟩
    ·exact absurd hlt (XN.mpr (W6 hn g))
    ·rcases hA X k with hm2 | ⟨_,hk⟩
     ·have h1:=kZ ho hm;have h2:=kZ ho hm2;rw[h1]at h2;exact absurd h2 (by decide)
     ·exact nf (I.env.fr _ (.inr (ah X hk g)))
  have go:∀{as:List Addr}{σ:S},b8 c s.heap as σ->b8 {c with fr:=λb=>c.fr b\/cy e b} s'.heap as σ:=by
   intro as;induction as with
   | nil=>intro σ C;cases σ with
    | nil=>trivial
    | cons=>exact C.elim
   | cons a as ih=>
    intro σ C;cases σ with
    | nil=>exact C.elim
    | cons cl σ=>
     refine aw C λzn0 C2=>aw zn0 λz C1=>⟨⟨z,?_⟩,ih C2⟩;have le:aj.Le s'.heap c {c with fr:=λb=>c.fr b\/cy e b}:=⟨rfl,rfl,rfl,λ_ _ _ e=>e⟩;cases q:cl.acc with
     | none=>rw[q]at C1;refine cw C1 λvs n g r=>?_;exact(cx vs n (hX.all _ _ g) ((r.keep (.of0 hX.all)).le le))
     | some z=>
      rw[q]at C1;exact b5 C1 λvs n dx g r i lo f=>(dS vs n dx (hX.all _ _ g) ((r.keep (.of0 hX.all)).le le) (i.keep (hX.all _)) lo (λh=>h.elim f (hdx dx z f i)))
  exact go I.cells
noncomputable def zd(n:Nat)(x:aH)(ρ0:ai)(tg:Expr)(ifs:List Expr)(elt:Expr)(t:AV)(σ:S):Option (Option AV×S):=
 bo (eG x.sc tg t ρ0) λρ1=>match ifs with
  | []=>bv (pe n x ρ1 σ elt) λv σ1=>some (some v,σ1)
  | q::r=>gd r.isEmpty (bp (pt n x ρ1 σ q) λb σ1=>cond b (bv (pe n x ρ1 σ1 elt) λv σ2=>some (some v,σ2)) (some (none,σ1)))
theorem Kg{n:Nat}{x:aH}{ρ0:ai}{σ:S}{tg:Expr}{ifs:List Expr}{elt:Expr}{ts:List AV}:pcomp (n+1) x ρ0 σ tg ifs elt ts=gd (iP tg ρ0) (pR (zd n x ρ0 tg ifs elt) ts σ):=rfl
theorem ze{sc:YM}:∀{xs:List Str}{vs:List AV}{ρ ρ1:ai}{Y:Str}{t:PV},ju sc ρ xs vs=some ρ1->Y∉xs->aB ρ (nm Y)=some t->aB ρ1 (nm Y)=some t
 | [],_,_,_,_,_,h,_,e=>aK h λ_ h=>W9 h▸e
 | X::xs,_,ρ,ρ1,Y,t,h,hn,e=>bT h λv vs _ h=>ab h λρ2 h2 h=>ze h (λm=>hn (Xc _ m)) (by
   rw[(uo h2).2,om,if_neg λq=>hn ((cF q:X=Y)▸Xh)];exact e)
theorem uz:∀{xs:List Str}{ρ:ai}{Y:Str}{t:PV},pQ xs ρ=true->aB ρ (nm Y)=some t->Y∉xs
 | [],_,_,_,_,_=>λh=>(nomatch h)
 | X::xs,ρ,Y,t,h,e=>λm=>by
  have h:=W8.mp h;rcases Xk.mp m with q | m
  ·rw[<-q,e]at h;exact YQ h.1
  ·exact uz h.2 e m
theorem Kh{tg:Expr}{ρ:ai}(h:iP tg ρ=true):∃xs,lI tg=some xs/\pQ xs ρ=true:=by
 unfold iP at h;cases q:lI tg with
 | none=>rw[q]at h;exact eE h
 | some xs=>rw[q]at h;exact(ah xs rfl h)
theorem Ki{sc:YM}{tg:Expr}{a:AV}{ρ ρ1:ai}(h:eG sc tg a ρ=some ρ1)(hf:iP tg ρ=true):∀Y t,aB ρ (nm Y)=some t->aB ρ1 (nm Y)=some t:=by
 intro Y t e;refine af (Kh hf) λxs hx hn=>?_;have hn:=uz hn e;cases tg with
 | Name X p=>
  cases hx;rw[(uo h).2,om,if_neg λq=>hn ((cF q:X=Y)▸Xh)];exact e
 | Tuple ts k p=>exact ab h λvs _ h=>ab h λys hy h=>ze h (W9 (hx.symm.trans hy)▸hn) e
 | _=>exact aT (h:none=some ρ1)
theorem ak.sub(I:ak K c env ρ1 σ s)(h:∀Y t,aB ρ0 (nm Y)=some t->aB ρ1 (nm Y)=some t):ak K c env ρ0 σ s:=
 ⟨I.base,I.cfg,⟨I.env.kind,I.env.globals,I.env.builtins,λX t e=>I.env.vars X t (h X t e),I.env.ns,I.env.cell,I.env.apart,I.env.low,I.env.fr⟩,I.cells,I.tk⟩
theorem b6.trans{h h' h'':Heap}(a:b6 c h h')(b:b6 c h' h''):b6 c h h'':=λy o e n so=>b y o (a y o e n so) n so
noncomputable def XL(c:aj)(e:Env)(tg:Expr)(I D:Addr)(b:Addr):Prop:=XE c b\/b=I\/b=D\/∃xs,lI tg=some xs/\∃X∈xs,iW e X b
structure zf(c:aj)(e:Env)(tg:Expr)(I D:Addr)(fp:List Addr):Prop where
 exI:c.ex I
 exD:c.ex D
 loI:n₀<=I
 loD:n₀<=D
 cI:I∉c.cells
 cD:D∉c.cells
 ID:I≠D
 own:∀xs,lI tg=some xs->∀X∈xs,∀b,iW e X b->b≠D/\b∉fp
 foot:∀b∈fp,b≠D/\¬XE c b
theorem zg{n:Nat}(P:ce prog w K T m n)(Pt:gH prog w K T m n)(ht:x.tab=T){e:Env}(hs:aQ x e)(R:az (m+x.gen) A)
  {tg iter elt:Expr}{ifs:List Expr}{scope:YM}{pos:Pos}{ts:List AV}{I D:Addr}{fp:List Addr}{Pi:Nat->W2->Prop}{St:Nat->Heap->Prop}{h₁:Heap}
  (hfr:iP tg ρ0=true)(W:Walks prog w A I fp [I] ts.length Pi St)(bare:∀i h,St i h->∃o,h.get? I=some o/\lS o)(item:∀i v a,Pi i v->ts[i]?=some a->ao c h₁ a v)
  (C:zf c e tg I D fp)(len:ts.length<=aD){RR:Result->Xd->Prop} :
  ∀(k i:Nat)(acc:List AV)(σ σ':S)(vs:List AV)(s:Xd),ts.length=i+k->pR (zd n x ρ0 tg ifs elt) (ts.drop i) σ=some (vs,σ')->acc.length<=i->
   ak K c e ρ0 σ s->b6 c h₁ s.heap->St i s.heap->(∃ys,s.heap.PlainList D ⟨ys⟩/\aq c s.heap acc ys)->
   (∀s' ys h' tk,ak K c e ρ0 σ' s'->s'.heap.PlainList D ⟨ys⟩->aq c s'.heap (acc++vs) ys->acc.length+vs.length<=ts.length->ae (XL c e tg I D) s s'->1<=tk->(∀b o,b≠I->s'.heap.get? b=some o->h'.get? b=some o)->RR (.ok .next) {s' with heap:=h',toks:=tk})->
   Zq (Xe prog w) A (.compLoop (.ListComp elt [⟨tg,iter,ifs,0⟩] scope pos) 0 (.ref I) (.ref D) e) RR s
 | 0,i,acc,σ,σ',vs,s,hk,ho,hacc,Iv,kd,st,hD,hR=>by
  refine Yr ?_;show Xf _ A ((compTurn (.ListComp elt [⟨tg,iter,ifs,0⟩] scope pos) 0 (.ref I) (.ref D) e).onRaise (λx=>do noteFrame x e;Y8 x)) _ _ s;refine aab ?_;rw[compTurn_list];have hi:ts.length=i:=hk;rw[<-hi,List.drop_length]at ho;cases (ho:some ([],σ)=some (vs,σ'));refine af hD λys hp rr=>El (Yq (El (XJ Iv.tk (W.done s _ _ (hi▸st) λh' tk hk htk=>?_))));refine Ev (hR s ys h' tk Iv hp (by simp only[Yc];exact rr) (hi▸hacc) (ae.refl _ s) htk λb o hb e=>hk b o (λh=>hb (Xi.mp h)) e)
 | k+1,i,acc,σ,σ',vs,s,hk,ho,hacc,Iv,kd,st,hD,hR=>by
  refine Yr ?_;show Xf _ A ((compTurn (.ListComp elt [⟨tg,iter,ifs,0⟩] scope pos) 0 (.ref I) (.ref D) e).onRaise (λx=>do noteFrame x e;Y8 x)) _ _ s;refine aab ?_;rw[compTurn_list];have hi:i<ts.length:=hk▸Nat.lt_add_of_pos_right (Nat.succ_pos k);have ha:ts[i]?=some ts[i]:=Xo hi;rw[Z7 hi]at ho;refine bT ho λoa σ1 hst ho=>bT ho λr σ2 hrest ho=>ab hst λρ1 hb hst=>?_;have hvs:xx oa r=vs:=congrArg Prod.fst (W9 ho);have hσ:σ2=σ':=congrArg Prod.snd (W9 ho);clear ho;refine af hD λys hp rr=>af (bare i _ st) λoI gI bI=>El (Yq (El (XJ Iv.tk (W.item i s _ _ hi st λv h1 tk1 hv st1 hk1 htk1=>?_))));refine af (bare (i+1) _ st1) λoI1 gI1 bI1=>?_;have hkI:∀y o,y≠I->s.heap.get? y=some o->h1.get? y=some o:=λy o hy e=>hk1 y o (λh=>hy (Xi.mp h)) e;have q1:=Iv.iter gI bI C.exI C.loI hkI ⟨_,gI1⟩ tk1 htk1;have kd1:b6 c s.heap h1:=λy o e nx _=>hkI y o (λh=>nx (h▸C.exI)) e;rw[hs.1]at hb;refine af (qt (prog:=prog) (w:=w) (A:=A) hb q1.2 ((item i v _ hv ha).keep (kd.trans kd1)) R.1) λxs hxs wb=>?_;have hsub:=Ki hb hfr;refine El (uq gI1 bI1 (El (KE wb (λ_ s2 q2=>?_) no)));have own2:∀b,(∃X∈xs,iW e X b)->b≠D/\b∉fp:=λb zq0=>af zq0 λX hX o=>C.own xs hxs X hX b o;have st2:St (i+1) s2.heap:=W.frame _ _ _ st1 λb hbf o g=>q2.1.keep b o g λh=>(own2 b h).2 hbf;have kd2:b6 c s.heap s2.heap:=kd1.trans (q1.2.kdOwn (q2.1.weaken λb zq1=>af zq1 λX zz o=>o.own));have hp2:s2.heap.PlainList D ⟨ys⟩:=(hp.at λo e=>hkI D o (Ne.symm C.ID) e).at λo g=>q2.1.keep D o g λh=>(own2 D h).1 rfl;have XL2:ae (XL c e tg I D) s s2:=(q1.1.weaken λb h=>.inr (.inl h)).trans (q2.1.weaken λb h=>.inr (.inr (.inr (ah xs hxs h))));have rr2:=rr.keep kd2;have I2:=q2.2;clear hkI q1 wb q2 own2 kd1;have go:∀(s3:Xd)(acc':List AV),acc'.length<=i+1->acc'++r=acc++vs->ak K c e ρ0 σ1 s3->b6 c s2.heap s3.heap->St (i+1) s3.heap->(∃ys,s3.heap.PlainList D ⟨ys⟩/\aq c s3.heap acc' ys)->ae (XL c e tg I D) s2 s3->
    Zq (Xe prog w) A (.compLoop (.ListComp elt [⟨tg,iter,ifs,0⟩] scope pos) 0 (.ref I) (.ref D) e) RR s3:=λs3 acc' h2 h3 h4 h5 h6 h7 h8=>
   zg P Pt ht hs R hfr W bare item C len k (i+1) acc' σ1 σ' r s3 (hk.trans (Nat.succ_add i k).symm) (hσ▸hrest) h2 h4 ((kd.trans kd2).trans h5) h6 h7
    (λs' ys h' tk a1 a2 a3 a4 a5 a6 a7=>hR s' ys h' tk a1 a2 (h3▸a3) (by (refine aS Om ?_;refine aS h3 ?_;refine aa Om ?_);exact a4) (XL2.trans (h8.trans a5)) a6 a7)
  have stay:∀{s3:Xd},ae (XE c) s2 s3->St (i+1) s3.heap/\s3.heap.PlainList D ⟨ys⟩:=λX=>
   ⟨W.frame _ _ _ st2 λb hbf o g=>X.keep b o g (C.foot b hbf).2,hp2.at λo g=>X.keep D o g λh=>h.elim C.cD λh=>absurd (dp h) (XN.mpr C.loD)⟩
  have app:∀(s3:Xd)(σ3:S)(av:AV),ak K c e ρ1 σ3 s3->ae (XE c) s2 s3->pe n x ρ1 σ3 elt=some (.val av,σ1)->oa=some av->
    Xf (Xe prog w) A (eval elt e) (λy s₄=>Xf (Xe prog w) A (call (.builtin "list.append") [.ref D,y]) (λ_ s₅=>Zq (Xe prog w) A (.compLoop (.ListComp elt [⟨tg,iter,ifs,0⟩] scope pos) 0 (.ref I) (.ref D) e) RR s₅) nr s₄) nr s3:=λs3 σ3 av I3 X3 he eo=>
   KE (P ht hs he I3 R) (λy s4 q4=>by
    have X24:=X3.trans q4.1;have f:=stay X24;refine wpAny_list_append_plain f.2 (λh5 hp5 hs5=>?_) (W6 (rr.length▸W6 hacc (W6 (Yo hi) len):ys.length<=aD) (by decide));refine al f.2 λnD gD=>?_;have kp5:∀y o,y≠D->s4.heap.get? y=some o->h5.get? y=some o:=λy o hy g=>hs5.extBut y o hy g;have q5:=q4.2.1.other gD (λ_ _ e=>by injection e) (λ_ e=>by injection e) C.exD C.cD C.loD kp5 (al hp5 λk g=>⟨_,g⟩) s4.toks q4.2.1.tk;have kd4:=I2.kd X24;have kd5:b6 c s4.heap h5:=λy o g nx _=>kp5 y o (λh=>nx (h▸C.exD)) g;exact go _ (acc++[av]) (W6 (Nat.le_of_eq Om) (Z9 hacc)) (by simp only[<-hvs,eo,XO];rfl) (q5.2.sub hsub) (kd4.trans kd5) (W.frame _ _ _ f.1 λb hbf o g=>kp5 b o (C.foot b hbf).1 g)
     (ah (ys++[y]) (by simpa using hp5) ((rr2.keep (kd4.trans kd5)).append (aq.cons (q4.2.2.keep kd5) aq.nil))) ((X24.weaken λb h=>.inl h).trans (q5.1.weaken λb h=>.inr (.inr (.inl h))))) no
  cases ifs with
  | nil=>
   refine cG hst λav σ4 he hst=>?_;have h:some av=oa:=congrArg (λp=>p.1) (W9 hst);have h2:σ4=σ1:=congrArg (λp=>p.2) (W9 hst);refine El (wpAny_tests_nil ?_);exact El (El (KE (app s2 _ _ I2 (ae.refl _ s2) (h2▸he) h.symm) (λy s4 h4=>El (KE h4 (λ_ s5 h5=>Ev (Ev ⟨rfl,h5⟩)) no)) no))
  | cons q qs=>
   refine aK hst λhq hst=>bT hst λb σ3 hb hst=>?_;clear ho hrest;cases jv hq;refine El (wpAny_tests_one (KE (Pt ht hs hb I2 R) (λb' s3 q3=>aA q3.1 ?_) no));cases b with
   | true=>
    refine cG hst λav σ4 he hst=>?_;have h:some av=oa:=congrArg (λp=>p.1) (W9 hst);have h2:σ4=σ1:=congrArg (λp=>p.2) (W9 hst);exact El (El (KE (app s3 _ _ q3.2.2 q3.2.1 (h2▸he) h.symm) (λy s4 h4=>El (KE h4 (λ_ s5 h5=>Ev (Ev ⟨rfl,h5⟩)) no)) no))
   | false=>
    have h:none=oa:=congrArg (λp=>p.1) (W9 hst);have h2:σ3=σ1:=congrArg (λp=>p.2) (W9 hst);have f:=stay q3.2.1;exact Ev ⟨rfl,go s3 acc (XU hacc) (by (refine aS hvs ?_;refine aS h ?_);rfl) (h2▸q3.2.2.sub hsub) (I2.kd q3.2.1) f.1 (ah ys f.2 (rr2.keep (I2.kd q3.2.1))) (q3.2.1.weaken λb h=>.inl h)⟩
theorem ak.outer(I:ak K c env ρ σ s)(hc:c'.cells=c.cells)(le:aj.Le s1.heap c' c)(fr:∀b,c.fr b->c'.fr b)(B:aC K s1.heap)(C:b8 c' s1.heap c'.cells σ')(X:ae (XE c) s s1)(tk:1<=s1.toks):ak K c env ρ σ' s1:=by
 have kd:=I.kd X;refine⟨B,I.cfg.keep X.live,I.env.keepX X.keep kd (λmm hm h=>?_) (λa v l hv h=>?_),?_,tk⟩
 ·clear hc le fr kd;rcases h with h | h
  ·exact al (I.cells.mem h) λcl C=>dd C.seq λo xs n g d=>ug (h':=s.heap) hm g d rfl
  ·have:=dp h;have:=I.env.low.1;omega
 ·rcases h with h | h
  ·exact al (I.cells.mem h) λcl C=>dd C.seq λo xs n g d=>yN hv g d rfl
  ·have:=dp h;exact ms l this
 ·rw[hc]at C;have go:∀{as:List Addr}{σ:S},b8 c' s1.heap as σ->b8 c s1.heap as σ:=by
   intro as;induction as with
   | nil=>intro σ C;cases σ with
    | nil=>trivial
    | cons=>exact C.elim
   | cons a as ih=>
    intro σ C;cases σ with
    | nil=>exact C.elim
    | cons cl σ=>
     refine aw C λzn0 C2=>?_;obtain⟨z,C1⟩:=zn0;refine⟨⟨z,?_⟩,ih C2⟩;cases q:cl.acc with
     | none=>rw[q]at C1;refine cw C1 λvs n g r=>?_;exact(cx vs n g (r.le le))
     | some z=>rw[q]at C1;refine b5 C1 λvs n dx g r i lo f=>?_;exact(dS vs n dx g (r.le le) i lo (λh=>f (fr _ h)))
  exact go C
theorem ak.drop(I:ak K c env ρ σ s){b:Addr}(hf:c.fr b)(hx:c.ex b)(hcs:b∉c.cells)(lo:n₀<=b){h':Heap}(hk:∀y o,y≠b->s.heap.get? y=some o->h'.get? y=some o) :
  aC K h'/\b8 c h' c.cells σ:=by
 have kd:b6 c s.heap h':=λy o e nx _=>hk y o (λh=>nx (h▸hx)) e;have ne:∀a,a<n₀->a≠b:=λa h e=>by subst e;exact absurd h (XN.mpr lo)
 refine⟨⟨λa o e t=>hk a o (ne a (I.base.old a o e)) (I.base.stat a o e t),?_,λp hp=>?_,?_,I.base.old,I.base.lim.at λo e=>hk _ o (ne _ kQ) e⟩,?_⟩
 ·exact af I.base.bns λmb a1 a2=>(ah mb (a1.at' λo e=>hk _ o (ne _ tS) e) a2)
 ·refine dY (I.base.tab p hp) λps e1 e2 e3=>(de ps (hk _ _ (ne _ ?_) e1) e2 e3);apply dp;simp only[cz,Xk,Xw,or_false]at hp;rcases hp with rfl | rfl | rfl | rfl<;>simp[aG]
 ·exact al I.base.top λo e=>⟨o,hk _ o (ne _ (by decide)) e⟩
 ·exact I.cells.keepX (X:=λy=>y=b) (λy o e n=>hk y o n e) kd (λdx z _ nf _ e=>nf (e▸hf)) λa ha e=>hcs (e▸ha)
theorem fW.le{h:Heap}(E:fW c env ρ h)(l:aj.Le h c c')(hcells:c'.cells=c.cells)(hfr:∀b,c.fr b->c'.fr b):fW c' env ρ h:=by
 refine⟨E.kind,E.globals,E.builtins,λX t e=>?_,E.ns,E.cell,E.apart,E.low,λb o=>hfr b (E.fr b o)⟩;refine af (E.vars X t e) λv hv r=>(ah v hv ?_);cases t with
 | val a=>exact ao.le l r
 | cell i=>refine af r λa e1 e2=>?_;exact(ah a (by rw[hcells];exact e1) e2)
 | app i=>refine io r λa m e1 e2 e3 e4=>?_;exact⟨a,m,by rw[hcells];exact e1,e2,l.ex _ _ e4 e3,e4⟩
 | rng x y z=>refine lu r λm t u w e1 e2 e3=>?_;exact⟨m,t,u,w,e1,l.ex _ _ e3 e2,e3⟩
theorem b8.le{h:Heap}(l:aj.Le h c c')(hfr:∀b,c'.fr b->c.fr b\/h.get? b=none):∀{as:List Addr}{σ:S},b8 c h as σ->b8 c' h as σ
 | [],[],_=>trivial
 | a::as,cl::σ,zp1=>by
  obtain⟨⟨z,C1⟩,C2⟩:=zp1;refine⟨⟨z,?_⟩,b8.le l hfr C2⟩;cases q:cl.acc with
  | none=>rw[q]at C1;refine cw C1 λvs n g r=>?_;exact(cx vs n g (r.le l))
  | some z=>
   rw[q]at C1;refine b5 C1 λvs n dx g r i lo f=>(dS vs n dx g (r.le l) i lo (λh=>?_));clear l C2 C1 g r lo;rcases hfr dx h with q | q
   ·exact f q
   ·refine dd i λzz zz zz g' zz=>?_;injection (q.symm.trans g')
theorem ak.grow(I:ak K c env ρ σ s)(X:ae X0 s s1)(tk:1<=s1.toks)(l:aj.Le s.heap c c')(hcells:c'.cells=c.cells)(hex:∀b,c.ex b->c'.ex b)(hlive:∀b,c'.ex b->∃o,s1.heap.get? b=some o)
  (hfr:∀b,c.fr b->c'.fr b)(hfr':∀b,c'.fr b->c.fr b\/s.heap.get? b=none):ak K c' env ρ σ s1:=
 ⟨I.base.keep0 X.all,⟨by rw[hcells];exact λa h=>hex a (I.cfg.sub a h),by rw[hcells];exact I.cfg.nodup,by rw[hcells];exact I.cfg.low,hlive,by rw[l.θ];exact I.cfg.theta⟩,
  (I.env.le l hcells hfr).keep0 X.all,by rw[hcells];exact(I.cells.le l hfr').keep0 X.all,tk⟩
theorem Kj{sc:YM}{globals:Addr}{cl:List (Str×Addr)}{qual:Str}{Q:Env->Xd->Prop}{E:W2->Xd->Prop}
  (h:Q {scope:=sc,locals:=s.heap.objs.size,globals,cells:=YZ (s.heap.objs.size+1) sc.names []++cl,qual,func:=none,code:=env.code,frame:=env.frame,builtins:=env.builtins}
   {s with heap:=pushCells (s.heap.push {cls:=.type "dict",data:=.dict #[]}) sc.names}) :
  Xf (Xe prog w) A (Z5 sc globals cl [] qual none .none (some env)) Q E s:=by
 simp only[Z5,Option.isSome_some,if_true];refine El (wpAny_alloc ?_);refine El (wpAny_layCells _ (λname kind cells=>by cases hkc:kind==NameKind.cell<;>simp[hkc]) _ _ _ _ ?_);rw[show({s with heap:=s.heap.push {cls:=.type "dict",data:=.dict #[]}}:Xd).heap.objs.size=s.heap.objs.size+1 from XV ..,kY];exact El (Ev (Ev h))
theorem zh{env:Env}{X:Str}:∀{names:List (Str×Yl)},(names.map λ(n,k)=>if (k==NameKind.free&&env.scope.kind == .function&&env.kindOf n==some .cell) then (n,NameKind.cell) else (n,k)).lookup X =
  (names.lookup X).map λk=>if (k==NameKind.free&&env.scope.kind == .function&&env.kindOf X==some .cell) then NameKind.cell else k
 | []=>rfl
 | (n,k)::r=>by
  rw[YE,Yy];have ih:=zh (env:=env) (X:=X) (names:=r);cases e:X==n with
  | true=>
   have:=beq_iff_eq.mp e;clear ih;subst this;show List.lookup X ((if _ then _ else _)::_)=_;split
   ·rename_i hc;simp only[Yy,e,Option.map_some];rw[if_pos hc]
   ·rename_i hc;simp only[Yy,e,Option.map_some];rw[if_neg hc]
  | false=>
   show List.lookup X ((if _ then _ else _)::_)=_;split
   ·simp only[Yy,e];exact ih
   ·simp only[Yy,e];exact ih
noncomputable def qv(K:Frag)(c:aj)(env:Env)(ρ:ai)(s:Xd)(vs:List AV)(σ:S)(acc:W2)(C:Addr)(r:Result)(s':Xd):Prop:=
 r=.ok .next/\ae (XE c) s s'/\ak K {c with fr:=λb=>c.fr b\/b=C} env ρ σ s'/\ao c s'.heap (.lst vs) acc/\(∃mm,s'.heap.Ns C mm)/\s.heap.objs.size<=C
theorem Kk{t:PV}{ts:List AV}{v:W2}(h:jt t=some ts)(hr:bN c s.heap t v):ts.length<=aD:=by
 cases t with
 | val a=>
  cases a with
  | lst l=>exact aL h (b5 hr λa vs n e hx g hl rr=>hl)
  | str x=>exact aL h ((W7 _).symm▸(hr:_/\_).1)
  | _=>exact aT (h:none=some ts)
 | rng a b d=>
  exact aK h λ_ h=>ab h λu _ h=>cQ h (λ_ h=>aK h λe h=>aL h ((ur _ _).symm▸Xn e)) λ_ h=>aK h λe h=>aL h ((ut _ _).symm▸Xn e)
 | _=>cases (h:none=some ts)
theorem lU{k:ScopeKind}(h:sP k=true):k=.function:=by cases k<;>first | rfl | cases h
theorem Kl{n:Nat}(P:ce prog w K T m n)(Pt:gH prog w K T m n)(ht:x.tab=T)(hs:aQ x env)(R:az (m+x.gen) A)
  {tg iter elt:Expr}{ifs:List Expr}{sc:YM}{pos:Pos}{ts vs:List AV}{it:W2}{s0:Xd}
  (hc:kJ sc=true)(hf:fV env.scope sc.names ρ=some ρ0)(I:ak K c env ρ σ s)(hlen:ts.length<=aD)(hit:mS prog w c s ts it s0)(he:pcomp (n+1) {x with sc:=kH sc x.sc} ρ0 σ tg ifs elt ts=some (vs,σ')) :
  Xf (Xe prog w) A (newList []) (λacc s₃=>Xf (Xe prog w) A (Z5 sc env.globals (cH env.cells sc.names []) [] env.qual none .none (some env)) (λcenv s₄=>
   Zq (Xe prog w) A (.compStart (.ListComp elt [⟨tg,iter,ifs,0⟩] sc pos) 0 it acc {cenv with scope:=relabel sc env}) (qv K c env ρ s vs σ' acc cenv.locals) s₄) nr s₃) nr s0:=by
 refine fc hit λfp Pi St zr3 IT st0 zc0=>af zc0 λoI zr7 hfreed=>aa zr3 ?_;subst zr7;have ho:=(W8.mp hc).2;have hkind:=lU (W8.mp hc).1;rw[Kg]at he;refine aK he λhfr he=>?_;have lo:n₀<=s.heap.objs.size:=I.base.size;refine Y5 ?_;have hD:(s.heap.push oI).objs.size=s.heap.objs.size+1:=XV ..;refine Kj ?_;generalize hH3:((s.heap.push oI).push {cls:=.type "list",dict:=none,data:=.seq ([]:List W2).toArray})=H3;have hC:H3.objs.size=s.heap.objs.size+2:=by rw[<-hH3,XV,hD]
 have k3:∀b o,s.heap.get? b=some o->H3.get? b=some o:=λb o e=>hH3▸Xg _ (Xg _ e);have gI3:H3.get? s.heap.objs.size=some oI:=hH3▸Xg _ (Xl _ hfreed);have gD3:H3.get? (s.heap.objs.size+1)=some {cls:=.type "list",data:=.seq ⟨[]⟩}:=by
  rw[<-hH3,<-hD];exact Xl _ rfl
 have notlive:∀b,s.heap.objs.size<=b->∀o,s.heap.get? b≠some o:=λb hb o e=>absurd (Xm e) (XN.mpr hb);generalize hs3:({s with heap:=H3}:Xd)=s3;have hh3:s3.heap=H3:=by rw[<-hs3]
 have X3:ae X0 s s3:=by rw[<-hs3];exact ae.kept k3 rfl id
 let c1:aj:={c with ex:=λb=>c.ex b\/b=s.heap.objs.size\/b=s.heap.objs.size+1,fr:=λb=>c.fr b\/b=s.heap.objs.size}
 have le1:aj.Le s.heap c c1:=⟨rfl,rfl,rfl,λb o g nx h=>by
  rcases h with h | h | h
  ·exact nx h
  ·exact notlive b (Nat.le_of_eq h.symm) o g
  ·exact notlive b (by rw[h];exact XH _) o g⟩
 have I1:ak K c1 env ρ σ s3:=I.grow X3 (by rw[<-hs3];exact I.tk) le1 rfl (λb h=>.inl h) (λb h=>by
   refine aa (hh3) ?_;rcases h with h | rfl | rfl
   ·refine al (I.cfg.live b h) λo g=>?_;exact⟨o,k3 b o g⟩
   ·exact⟨_,gI3⟩
   ·exact⟨_,gD3⟩) (λb h=>.inl h) (λb h=>h.imp id λe=>by
    cases q:s.heap.get? b with
    | none=>rfl
    | some o=>exact absurd q (notlive b (Nat.le_of_eq e.symm) o))
 subst hh3;show Zq (Xe prog w) A (.compStart (.ListComp elt [⟨tg,iter,ifs,0⟩] sc pos) 0 (.ref s.heap.objs.size) (.ref (s.heap.push oI).objs.size) {scope:=relabel sc env,locals:=s3.heap.objs.size,globals:=env.globals,cells:=YZ (s3.heap.objs.size+1) sc.names []++cH env.cells sc.names [],qual:=env.qual,func:=none,code:=env.code,frame:=env.frame,builtins:=env.builtins}) (qv K c env ρ s vs σ' (.ref (s.heap.push oI).objs.size) s3.heap.objs.size)
  {s3 with heap:=pushCells (s3.heap.push {cls:=.type "dict",data:=.dict #[]}) sc.names}
 generalize he0:({scope:=relabel sc env,locals:=s3.heap.objs.size,globals:=env.globals,cells:=YZ (s3.heap.objs.size+1) sc.names []++cH env.cells sc.names [],qual:=env.qual,func:=none,code:=env.code,frame:=env.frame,builtins:=env.builtins}:Env)=e;refine aa (hD) ?_;have cellsok:=cellsFrom_ok sc.names (s3.heap.push {cls:=.type "dict",data:=.dict #[]}) (s3.heap.objs.size+1) [] ⟨λ_ _ hm=>(nomatch hm),List.Pairwise.nil⟩ (by rw[XV];exact Xs _);rw[XV]at cellsok;have k4:∀b o,s3.heap.get? b=some o->(pushCells (s3.heap.push {cls:=.type "dict",data:=.dict #[]}) sc.names).get? b=some o:=λb o g=>pushCells_keeps _ _ b o (Xg _ g);have hns4:(pushCells (s3.heap.push {cls:=.type "dict",data:=.dict #[]}) sc.names).Ns s3.heap.objs.size λ_=>none:=(Heap.Ns.new s3.heap (.type "dict")).keeps (pushCells_keeps _ _);generalize hs4:({s3 with heap:=pushCells (s3.heap.push {cls:=.type "dict",data:=.dict #[]}) sc.names}:Xd)=s4;have hh4:s4.heap=pushCells (s3.heap.push {cls:=.type "dict",data:=.dict #[]}) sc.names:=by rw[<-hs4]
 rw[<-hh4]at cellsok k4 hns4;have X4:ae X0 s3 s4:=ae.kept k4 (by rw[<-hs4]) (by rw[<-hs4];exact id);have hl:e.locals=s3.heap.objs.size:=by rw[<-he0]
 have hcl:e.cells=YZ (s3.heap.objs.size+1) sc.names []++cH env.cells sc.names []:=by rw[<-he0]
 have hkd:∀X,e.kindOf X=(sc.names.lookup X).map λk=>if (k==NameKind.free&&env.scope.kind == .function&&env.kindOf X==some .cell) then NameKind.cell else k:=λX=>by rw[<-he0];exact zh
 have hA:∀X,e.kindOf X=some .cell->(X,NameKind.cell)∈sc.names\/((X,NameKind.free)∈sc.names/\env.kindOf X=some .cell):=λX h=>by
  rw[hkd]at h;refine af (Option.map_eq_some_iff.mp h) λk hk1 hk2=>?_;split at hk2
  ·rename_i hc;simp only[YK,beq_iff_eq]at hc;refine aw hc λzn0 q=>?_;obtain⟨rfl,_⟩:=zn0;exact .inr ⟨mem_of_lookup hk1,q⟩
  ·refine aS hk2 ?_;exact .inl (mem_of_lookup hk1)
 have hB:∀X,(X,NameKind.free)∈sc.names->e.kindOf X=some .free\/e.kindOf X=some .cell:=λX hm=>by
  rw[hkd,kZ ho hm];simp only[Option.map_some];split
  ·exact .inr rfl
  ·exact .inl rfl
 have I2:=I1.inner (e:=e) (n:=s3.heap.objs.size+1) (s':=s4) ho hf (by rw[<-he0];exact hkind) (by rw[<-he0]) (by rw[<-he0]) hcl hA hB X4 (Nat.le_of_eq hl.symm) (XH _) ⟨_,by rw[hl];exact hns4⟩ cellsok (by rw[<-hs4,<-hs3];exact I.tk)
 let c2:aj:={c1 with fr:=λb=>c1.fr b\/cy e b}
 have lK:aj.Le s.heap c c2:=⟨rfl,rfl,rfl,le1.ex⟩;have X04:ae X0 s s4:=X3.trans X4;have foot:∀b∈fp,b=s.heap.objs.size\/(b<s.heap.objs.size/\b∉c.cells/\¬aG b):=λb hb=>by
  rcases IT.foot b hb with h | ⟨h1,o,g,so⟩
  ·exact .inl h
  ·refine .inr (bR (Xm g) h1 (λhT=>?_));obtain⟨q,hq,rfl⟩:∃q∈cz,q.2=b:=by rcases hT with rfl | rfl | rfl | rfl<;>simp[cz]
   refine af (I.base.tab q hq) λps e' zz=>?_;rw[g]at e';(injection e' with zi;subst zi);exact qj so
 have cfresh:∀b,s.heap.objs.size<=b->b∉c.cells:=λb hb hm=>absurd (I.cfg.fresh b (I.cfg.sub b hm)) (XN.mpr hb);have own:∀xs,lI tg=some xs->∀X∈xs,∀b,iW e X b->s.heap.objs.size+2<=b:=λxs hxs X hX b o=>by
  rcases o with rfl | ⟨hkX,hb⟩
  ·(refine aa hl ?_;refine aa hC ?_);exact Xs _
  ·have hfrX:(X,NameKind.free)∉sc.names:=λhm=>by
    refine al (uy hf X hm) λv hv=>?_;unfold iP at hfr;rw[hxs]at hfr;exact uz hfr hv hX
   rw[hcl,jB]at hb;split at hb
   ·rename_i a q;cases hb;have:=(cellsok.empty _ _ (mem_of_lookup q)).2;rw[hC]at this;exact W6 (XH _) this
   ·exact absurd (j4 (mem_of_lookup hb)).1 hfrX
 have lop:zf c2 e tg s.heap.objs.size (s.heap.objs.size+1) fp:={
  exI:=.inr (.inl rfl)
  exD:=.inr (.inr rfl)
  loI:=lo
  loD:=XU lo
  cI:=cfresh _ (Xs _)
  cD:=cfresh _ (XH _)
  ID:=XZ (Yx _)
  own:=λxs hxs X hX b o=>by
   have h:=own xs hxs X hX b o;refine⟨λq=>absurd h (by (refine aa q ?_);exact Nat.not_le.mpr (Yx _)),λq=>?_⟩;rcases foot b q with q | q
   ·exact absurd h (by (refine aa q ?_);exact Nat.not_le.mpr (Ym (Yx _)))
   ·exact absurd (Yj q.1 (W6 (XH _) (XH _))) (XN.mpr h)
  foot:=λb q=>by
   rcases foot b q with rfl | ⟨q1,q2,q3⟩
   ·exact⟨XZ (Yx _),λh=>h.elim (cfresh _ (Xs _)) λh=>absurd (dp h) (XN.mpr lo)⟩
   ·exact⟨XZ (Ym q1),λh=>h.elim q2 q3⟩}
 have hs2:aQ {x with sc:=kH sc x.sc} e:=⟨by (refine aS he0 ?_);show kH sc x.sc=relabel sc env;(refine aa hs.1 ?_);rfl,by (refine aS he0 ?_);exact hs.2⟩;have st4:St 0 s4.heap:=(IT.walks A R.1).frame _ _ _ st0 λb _ o g=>by
  refine k4 b o ?_;have:s3.heap=(s.heap.push oI).push {cls:=.type "list",dict:=none,data:=.seq ([]:List W2).toArray}:=hH3.symm;exact aa this (Xg _ g)
 have L:=zg (A:=A) (c:=c2) (e:=e) (ρ0:=ρ0) (iter:=iter) (elt:=elt) (ifs:=ifs) (scope:=sc) (pos:=pos) (RR:=qv K c env ρ s vs σ' (.ref (s.heap.objs.size+1)) s3.heap.objs.size) P Pt (x:={x with sc:=kH sc x.sc}) ht hs2 R hfr (IT.walks A R.1) IT.bare (h₁:=s4.heap) (λi v a hv ha=>((IT.item i v a hv ha).le lK).keep (.of0 X04.all)) lop hlen
  ts.length 0 [] σ σ' vs s4 (ZL _).symm he (Xs _) I2 (b6.refl _ _) st4 (ah ([]) ⟨0,k4 _ _ gD3⟩ aq.nil)
  (λs' ys h' tk J hp rr hl2 X htk hkI=>by
   have XE':ae (XE c) s {s' with heap:=h',toks:=tk}:=by
    refine⟨λb o g nx=>?_,λb o g=>?_,?_,?_⟩
    ·have hb:b<s.heap.objs.size:=Xm g;refine hkI b o (XZ hb) (X.keep b o (X04.all b o g) ?_);rintro(h | h | h | ⟨xs,hxs,Y,hY,hO⟩)
     ·exact nx h
     ·exact absurd h (XZ hb)
     ·exact absurd h (XZ (Ym hb))
     ·exact absurd (own xs hxs Y hY b hO) (Nat.not_le.mpr (Ym (Ym hb)))
    ·exact al (X.live b o (X04.all b o g)) λo' g'=>⟨o',hkI b o' (XZ (Xm g)) g'⟩
    ·exact X.os.trans X04.os
    ·exact λq=>X.gens (X04.gens q)
   refine aw (J.drop (b:=s.heap.objs.size) (.inl (.inr rfl)) (.inr (.inl rfl)) (cfresh _ (Xs _)) lo hkI) λB Cs=>?_;have leb:∀H,aj.Le H c2 c:=λH=>⟨rfl,rfl,rfl,λb o _ nx h=>nx (.inl h)⟩;have kdI:b6 c2 s'.heap h':=λb o g nx _=>hkI b o (λq=>nx (.inr (.inl q))) g;refine al hp λnD gD=>al J.env.ns λmm hm=>?_;have IC:ak K {c with fr:=λb=>c.fr b\/b=s3.heap.objs.size} env ρ σ s:=I.grow (ae.refl _ s) I.tk ⟨rfl,rfl,rfl,λ_ _ _ h=>h⟩ rfl (λb h=>h) I.cfg.live (λb h=>.inl h) (λb h=>h.imp id λq=>by
    (refine aa q ?_);exact XA (by (refine aa hC ?_);exact W6 (XH _) (XH _)))
   refine⟨rfl,XE',IC.outer (s1:={s' with heap:=h',toks:=tk}) (c':=c2) rfl ⟨rfl,rfl,rfl,λb o _ nx h=>nx (.inl h)⟩ (λb h=>h.elim (λh=>.inl (.inl h)) λh=>.inr (.inl (by (refine aa hl ?_);exact h))) B Cs XE' htk,(dS _ ys nD rfl (λh=>absurd (I.cfg.fresh _ h) (XN.mpr (XH _))) (hkI _ _ (aai (Yx _)) gD) ?_ ?_),⟨mm,?_⟩,(by (refine aa hC ?_);exact W6 (XH _) (XH _))⟩
   ·simp at hl2;exact su hlen hl2
   ·exact(rr.keep kdI).le (leb h')
   ·refine aS hl ?_;exact hm.at' λo g=>hkI _ o (by (refine aa hl ?_;refine aa hC ?_);exact aai (Ym (Yx _))) g)
 exact codeAny_compStart_list L ((IT.walks A R.1).self 0 _ _ _ st4 L)
theorem ak.frame(I:ak K c env ρ σ s){C:Addr}{mm:Str->Option W2}(hfr:c.fr C)(hC:s.heap.Ns C mm)(hne:env.locals≠C)(lo:n₀<=C)(nex:¬c.ex C){h':Heap}(hs:XC C s.heap h'):ak K c env ρ σ {s with heap:=h'}:=by
 refine fJ hC λoC es ep gC dC zz=>?_;have hk:∀y o,y≠C->s.heap.get? y=some o->h'.get? y=some o:=λy o h g=>hs.extBut y o h g;have kd:b6 c s.heap h':=λy o e _ so=>hk y o (λh=>by clear hfr hC hne lo nex hk;subst h;have zs:=fS gC e;clear gC;subst zs;unfold dK at so;rw[dC]at so;exact so) e;have ncell:∀{a v},s.heap.IsCell a v->a≠C:=λzq1 e=>af zq1 λzz g' d=>by
  subst e;rw[gC]at g';clear gC;cases g';injection (dC.symm.trans d)
 refine⟨I.base.but lo λy o e n=>hk y o n e,⟨I.cfg.sub,I.cfg.nodup,I.cfg.low,λa h=>al (I.cfg.live a h) λo g=>⟨o,hk a o (λq=>nex (q▸h)) g⟩,I.cfg.theta⟩,?_,?_,I.tk⟩
 ·exact I.env.keepX (X:=λy=>y=C) (λy o e n=>hk y o n e) kd (λm _=>hne) (λa v _ hv=>ncell hv)
 ·refine I.cells.keepX (X:=λy=>y=C) (λy o e n=>hk y o n e) kd (λdx z _ nf _ e=>nf (e▸hfr)) λa ha e=>al (I.cells.mem ha) λcl Ca=>dd Ca.seq λo' xs n' g' d=>?_;subst e;have zs:=fS gC g';subst zs;injection (dC.symm.trans d)
theorem ak.lessfr(I:ak K {c with fr:=λb=>c.fr b\/b=C} env ρ σ s)(h:∀b,cy env b->c.fr b):ak K c env ρ σ s:=by
 have l:aj.Le s.heap {c with fr:=λb=>c.fr b\/b=C} c:=⟨rfl,rfl,rfl,λ_ _ _ h=>h⟩;refine⟨I.base,⟨I.cfg.sub,I.cfg.nodup,I.cfg.low,I.cfg.live,I.cfg.theta⟩,?_,I.cells.le l λb q=>.inl (.inl q),I.tk⟩;refine⟨I.env.kind,I.env.globals,I.env.builtins,λX t e=>?_,I.env.ns,I.env.cell,I.env.apart,I.env.low,h⟩;refine af (I.env.vars X t e) λv hv r=>(ah v hv ?_);cases t with
 | val a=>exact ao.le l r
 | cell i=>exact r
 | app i=>exact r
 | rng x y z=>exact r
theorem uC{n:Nat}{e:Expr}{t:PV}(h:pe n x ρ σ e=some (t,σ'))(v:W2):foldedSetIterable e env v=pure v:=by
 cases n with
 | zero=>cases (h:none=some (t,σ'))
 | succ n=>cases e<;>first | rfl | cases (h:none=some (t,σ'))
section
variable(prog w K T m)
noncomputable def qw(n:Nat):Prop:=∀{x:aH}{c:aj}{env:Env}{ρ ρ0:ai}{σ σ':S}{s s0:Xd}{A:Zp}{tg iter elt:Expr}{ifs:List Expr}{sc:YM}{pos:Pos}{ts vs:List AV}{it:W2},
 x.tab=T->aQ x env->az (m+x.gen) A->kJ sc=true->fV env.scope sc.names ρ=some ρ0->ak K c env ρ σ s->ts.length<=aD->mS prog w c s ts it s0->pcomp n {x with sc:=kH sc x.sc} ρ0 σ tg ifs elt ts=some (vs,σ')->
  Xf (Xe prog w) A (newList []) (λacc s₃=>Xf (Xe prog w) A (Z5 sc env.globals (cH env.cells sc.names []) [] env.qual none .none (some env)) (λcenv s₄=>
   Zq (Xe prog w) A (.compStart (.ListComp elt [⟨tg,iter,ifs,0⟩] sc pos) 0 it acc {cenv with scope:=relabel sc env}) (qv K c env ρ s vs σ' acc cenv.locals) s₄) nr s₃) nr s0
variable{prog w K T m}
theorem Km{n:Nat}(P:ce prog w K T m n)(Pt:gH prog w K T m n):qw prog w K T m (n+1):=by
 intro x c env ρ ρ0 σ σ' s s0 A tg iter elt ifs sc pos ts vs it ht hs R hc hf I hl hit he;exact Kl P Pt ht hs R hc hf I hl hit he
theorem Ko{C:Addr}{mm:Str->Option W2}{h h':Heap}(hC:h.Ns C mm)(hs:XC C h h'):b6 c h h':=by
 exact fJ hC λoC es ep gC dC zz=>λy o e _ so=>hs.extBut y o (λq=>by clear hC hs;subst q;rw[gC]at e;(injection e with zi;subst zi);unfold dK at so;rw[dC]at so;exact so) e
theorem Kp{C:Addr}{h':Heap}(X:ae (XE c) s s1)(hC:s.heap.objs.size<=C)(hs:XC C s1.heap h'):ae (XE c) s {s1 with heap:=h'}:=
 ⟨λb o g n=>hs.extBut b o (λq=>absurd (Xm g) (by rw[q];exact XN.mpr hC)) (X.keep b o g n),λb o g=>al (X.live b o g) λo' g'=>⟨o',hs.extBut b o' (λq=>absurd (Xm g) (by rw[q];exact XN.mpr hC)) g'⟩,X.os,X.gens⟩
theorem zn{n:Nat}(P:ce prog w K T m n)(Pc:qw prog w K T m n)(ht:x.tab=T)(hs:aQ x env)(R:az (m+x.gen) A){use:Option (W2->Sem Unit)}{Q:W2->Xd->Prop}
  {tg iter elt:Expr}{ifs:List Expr}{sc:YM}{pos:Pos}{ts vs:List AV}{it:PV}(hc:kJ sc=true)(hi:pe n x ρ σ iter=some (it,σ1))(hts:jt it=some ts)(hf:fV x.sc sc.names ρ=some ρ0)
  (he:pcomp n {x with sc:=kH sc x.sc} ρ0 σ1 tg ifs elt ts=some (vs,σ'))(I:ak K c env ρ σ s)
  (hQ:∀s1 acc C s',ae (XE c) s s1->ak K c env ρ σ1 s1->ae (XE c) s1 s'->ak K {c with fr:=λb=>c.fr b\/b=C} env ρ σ' s'->ao c s'.heap (.lst vs) acc->s1.heap.objs.size<=C->(∃mm,s'.heap.Ns C mm)->compPost (Xe prog w) A nr use Q acc C (.ok .next) s') :
  Xf (Xe prog w) A (comprehension (.ListComp elt [⟨tg,iter,ifs,0⟩] sc pos) sc env (firstIterPos [⟨tg,iter,ifs,0⟩] pos) (newList []) false (eval iter env) use) Q nr s:=by
 have ho:=(W8.mp hc).2;have hkind:=lU (W8.mp hc).1;rw[hs.1]at hf;refine aw (qu hf) λf1 zz=>?_;have hclos:closureFor sc env=pure (cH env.cells sc.names []):=ux λX hX=>by
  refine il (f1 X hX) λzz hkX v0 hv0=>af (I.env.vars X v0 hv0) λv hv zz=>?_;clear hs hf I hQ f1 hX hv0 zz;rcases hv with ⟨k,_⟩ | ⟨_,a,e1,_⟩
  ·exfalso;have k':env.scope.names.lookup X=some .local:=k;rcases hkX with q | q<;>(rw[q]at k';exact absurd k' (by decide))
  ·exact⟨a,e1⟩
 refine wpAny_comprehension_free (use:=use) rfl (uC hi) hclos hkind (λy hy hl=>kZ ho (by (refine aS hl ?_);exact hy)) (KE (P ht hs hi I R) (λv s1 zq1=>da zq1 λX1 I1 r1=>?_) no);have hlen:=Kk hts r1;refine KE (y8 hts r1 I1.cfg) (λiv s2 hit=>?_) no;refine KE (Pc ht hs R hc hf I1 hlen hit he) (λacc s3 h3=>KE h3 (λcenv s4 h4=>aah h4 λr s' hr=>?_) no) no;refine jM hr λzr0 X' I' rep hns hC=>?_;clear hr;subst zr0;exact hQ s1 acc _ s' X1 I1 X' I' rep hC hns
theorem uD{gs:List Zy}{sc:YM}{g:Zy}(h:pT gs sc=some g):gs=[⟨g.target,g.iter,g.ifs,0⟩]/\kJ sc=true:=
 ab h λg' hg h=>aK h λhc h=>by
  have hc:=W8.mp hc;cases h;obtain⟨a,b,d,k⟩:=g;have hk:k=0:=beq_iff_eq.mp hc.1;exact⟨hk▸dT hg,hc.2⟩
theorem Kq{n:Nat}(P:ce prog w K T m n)(Pc:qw prog w K T m n)(ht:x.tab=T)(hs:aQ x env){elt:Expr}{gs:List Zy}{sc:YM}{p:Pos}{t:PV}
  (h:pe (n+1) x ρ σ (.ListComp elt gs sc p)=some (t,σ'))(I:ak K c env ρ σ s)(R:az (m+x.gen) A) :
  Xf (Xe prog w) A (eval (.ListComp elt gs sc p) env) (bf K c env ρ s t σ') nr s:=by
 refine ab h λg hg h=>bT h λit σ1 hi h=>ab h λts hts h=>ab h λρ0 hf h=>bT h λvs σ2 he h=>ck h ?_;have hg:=uD hg;rw[hg.1,eval_ListComp];refine zn (use:=none) P Pc ht hs R hg.2 hi hts hf he I (λs1 acc C s' X1 I1 X' I' rep hC hns=>?_);exact al hns λmm hn=>al I1.env.ns λmL hL=>(ah mm hn (λh' hs'=>(bR (X1.trans (Kp X' hC hs')) ((I'.frame (.inr rfl) hn (λq=>absurd hL.lt (by (refine aa q ?_);exact XN.mpr hC)) (W6 I1.base.size hC) (λq=>absurd (I1.cfg.fresh _ q) (XN.mpr hC)) hs').lessfr I1.env.fr) (rep.keep (Ko hn hs')))))
end
theorem uE{o:Expr}{name:Str}{apos pos:Pos}{args:List Expr}{Q:W2->Xd->Prop}
  (hbase:attributeBase o name env (eval o env)=eval o env)
  (hfew:((aae pos (YD args env)).all (λx=>!x.1)&&(backToKw pos (keywordEach [] env)).all (λx=>x.1.isSome)
   &&decide (args.length+([]:List Keyword).length+(if ([]:List Keyword).isEmpty then 0 else 1)<30))=true)
  (hline:(apos.endLine==pos.line)=true)
  (h:Xf (Xe prog w) A (eval o env) (λov s₁=>Xf (Xe prog w) A (calleeOf true o env ov name) (λp s2=>Xf (Xe prog w) A (callWith pos p.1 p.2 (aae pos (YD args env)) []) Q E s2) E s₁) E s) :
  Xf (Xe prog w) A (eval (.Call (.Attribute o name apos) args [] pos) env) Q E s:=by
 simp only[arm_eval_Call,hbase];refine El (KE h (λov s₁ h₁=>?_) λ_ _ e=>e);refine El (Yq ?_);have hform:methodCallForm (args.length+([]:List Keyword).length) (aae pos (YD args env)) (backToKw pos (keywordEach [] env))=true:=hfew;have hpos:methodCallPos true o env apos pos=pure pos:=by unfold methodCallPos;simp[hline]
 dsimp only[methodCall];refine aa hform (El (XQ (KE h₁ (λp s2 h2=>?_) λ_ _ e=>e)));exact El (XG hpos h2)
theorem gK{pos:Pos}{args:List Expr}(hl:YU args.length 30=true)(hp:(aae pos (YD args env)).any (·.1)=false) :
  ((aae pos (YD args env)).all (λx=>!x.1)&&(backToKw pos (keywordEach [] env)).all (λx=>x.1.isSome)
   &&decide (args.length+([]:List Keyword).length+(if ([]:List Keyword).isEmpty then 0 else 1)<30))=true:=by
 have e1:(aae pos (YD args env)).all (λx=>!x.1)=true:=by
  rw[YP];rw[List.any_eq_false]at hp;intro y hy;have:=hp y hy;cases q:y.1<;>simp_all
 have e2:(backToKw pos (keywordEach [] env)).all (λx=>x.1.isSome)=true:=rfl;refine aa e1 (aa e2 ?_);rw[Za]at hl;simpa using hl
theorem g9{o:Expr}{name:Str}(h:iQ o=true)(whole:Sem W2):attributeBase o name env whole=whole:=by
 cases o with
 | Call f a k p=>cases f<;>first | rfl | exact eE h
 | _=>rfl
theorem Kr{p:PV}{l:List AV}{v:W2}(h:mz σ p=some l)(hr:bN c s.heap p v)(I:ak K c env ρ σ s):∃D vs n,v=.ref D/\s.heap.get? D=some {cls:=.type "list",data:=.seq ⟨vs⟩ n}/\aq c s.heap l vs:=by
 refine dn h (λa ha h=>?_) λ_ h=>ab h λq hq h=>ab h λcl hc h=>?_
 ·exact b5 (lQ h (jU ha▸hr:bN c s.heap (.val a) v)) λa vs n e hx g hl rr=>⟨a,vs,n,e,g,rr⟩
 ·refine af ((nV hq▸hr:bN c s.heap (.cell q) v)) λa ha e=>?_;have C:=I.cells.at hc ha;obtain⟨ac,l'⟩:=cl;cases ac with
  | some _=>cases (h:none=some l)
  | none=>
   exact eQ C λhl vs n g rr=>⟨a,vs,n,e,g,W9 h▸rr⟩
variable(prog w K T m) in
noncomputable def uF(n:Nat):Prop:=∀{x:aH}{c env ρ σ t σ' s A o M ap p args}{q:Expr×Zy×YM},x.tab=T->aQ x env->nU args=some q->
 (bv (pe n x ρ σ o) λa σ0=>bo (dJ a) λy=>bp (pe n x ρ σ0 q.2.1.iter) λit σ1=>gd (YU 0 x.gen&&pS q.2.1.iter) (bo (pO σ1 it) λts=>bo (nS q.2.2 q.2.1.target q.2.1.ifs q.1) λg=>bo (lJ g ts) λvs=>vo σ1 (kG (nm M) y vs)))=some (t,σ')->
 iQ o=true->(ap.endLine==p.line)=true->ak K c env ρ σ s->az (m+x.gen) A->
 Xf (Xe prog w) A (eval (.Call (.Attribute o M ap) args [] p) env) (bf K c env ρ s t σ') nr s
variable(prog w K T m) in
noncomputable def uG(n:Nat):Prop:=∀{x:aH}{c env ρ σ t σ' s A o M ap p args},x.tab=T->aQ x env->pmeth n x ρ σ o M args=some (t,σ')->iQ o=true->(ap.endLine==p.line)=true->YU args.length 30=true->ak K c env ρ σ s->az (m+x.gen) A->
 Xf (Xe prog w) A (eval (.Call (.Attribute o M ap) args [] p) env) (bf K c env ρ s t σ') nr s
theorem Ks{a b:Option Int}(h:pP a b=true):a.isSome=b.isSome:=beq_iff_eq.mp h
section
variable{o:Expr}{M:Str}{ap p:Pos}{args:List Expr}{t:PV}{y:List Nat}
theorem Kt(P:ce prog w K T m n)(ht:x.tab=T)(hs:aQ x env)(hb:iQ o=true)(hline:(ap.endLine==p.line)=true)(hlen:YU args.length 30=true)(h1:pe n x ρ σ o=some (.val (.str y),σ1)){q:List Nat×List Nat}(hq:nR args=some q)
  (h:vo σ1 (jQ (nm M) y q.1 q.2)=some (t,σ'))(I:ak K c env ρ σ s)(R:az (m+x.gen) A):Xf (Xe prog w) A (eval (.Call (.Attribute o M ap) args [] p) env) (bf K c env ρ s t σ') nr s:=by
 refine gZ h λr hr=>ab hq λz hz hq=>ab hq λa ha hq=>ab hq λb hb' hq=>?_;cases hq;refine dd (nX ha) λsa ka pa e1 e2=>dd (nX hb') λsb kb pb e3 e4=>aa (jV hz) (aa (e1) (aa (e3) (XJ I.tk (Yd (g9 hb _) (gK rfl rfl) hline (KE (P ht hs h1 I R) (λov s1 q1=>?_) no)))));refine cq ((q1.2.2:y.length<=aD/\∃t,ov=.str ⟨⟨y⟩⟩ t)) λhl u e=>aa (e) ?_;have key:=J0 (prog:=prog) (w:=w) (A:=A) (c:=c) (s:={s1 with toks:=s1.toks+1+1}) (t:=u) (u:=s1.toks) (v:=s1.toks+1) hr hl (aai q1.2.1.tk) (Nat.succ_ne_zero _) (XZ (Yx _));refine aa (show M="replace" from cF key.1) ((gW ("str") _ aaa F.slot_str_replace F.type_str_replace (Zh _ _ _) (λ_ e=>nomatch e) (XW rfl (YI ?_))));show Xf _ A (spliced [(false,eval (.Constant (.str sa) ka pa) env),(false,eval (.Constant (.str sb) kb pb) env)]) _ _ _;refine XK (Zb (XK (Zb (YC ?_))));rw[<-e2,<-e4]at key;exact KE key.2 (λv s2 q=>bf.of_val (q1.1.trans (ae.tk _ s1 _)) (q1.2.1.keep0 (ae.tk X0 s1 _) (Yk 1 _)) q) no
theorem Ku(P:ce prog w K T m n)(ht:x.tab=T)(hs:aQ x env)(hb:iQ o=true)(hline:(ap.endLine==p.line)=true)(hlen:YU args.length 30=true)(h1:pe n x ρ σ o=some (.val (.str y),σ1))
  (h:(bo (cu args) λe=>bp (pe n x ρ σ1 e) λp σ2=>bo (mz σ2 p) λl=>vo σ2 (kG (nm M) y l))=some (t,σ'))(I:ak K c env ρ σ s)(R:az (m+x.gen) A):Xf (Xe prog w) A (eval (.Call (.Attribute o M ap) args [] p) env) (bf K c env ρ s t σ') nr s:=by
 refine ab h λea he h=>bT h λq σ2 h2 h=>ab h λl hl h=>gZ h λr hr=>aa (show M="join" from aK hr λe _=>cF (aW.mp e)) (aa (dT he) ?_);have he':YD [ea] env=[(false,eval ea env)]:=kW h2;refine XJ I.tk (Yd (g9 hb _) (gK rfl (by rw[he'];rfl)) hline (KE (P ht hs h1 I R) (λov s1 q1=>?_) no));refine cq ((q1.2.2:y.length<=aD/\∃t,ov=.str ⟨⟨y⟩⟩ t)) λhxl u e=>aa (e) (aa (he') ((gW ("str") _ aaa F.slot_str_join F.type_str_join (Zh _ _ _) (λ_ e=>nomatch e) (XW rfl (YI (XK (KE (P ht hs h2 q1.2.1 R) (λv s2 q2=>YC ?_) no)))))));exact fJ (Kr hl q2.2.2 q2.2.1) λD vs k e g rr=>aa e (KE (JY hr hxl g rr) (λv s3 q=>bf.of_val (q1.1.trans q2.1) q2.2.1 q) no)
theorem Kv(P:ce prog w K T m n)(Ps:kU prog w K T m n)(ht:x.tab=T)(hs:aQ x env)(hb:iQ o=true)(hline:(ap.endLine==p.line)=true)(hlen:YU args.length 30=true)(h1:pe n x ρ σ o=some (.val (.pat y),σ1))
  (h:(bp (pes n x ρ σ1 args) λvs σ2=>vo σ2 (sO (nm M) y vs))=some (t,σ'))(I:ak K c env ρ σ s)(R:az (m+x.gen) A):Xf (Xe prog w) A (eval (.Call (.Attribute o M ap) args [] p) env) (bf K c env ρ s t σ') nr s:=by
 refine bT h λvs σ2 h2 h=>gZ h λr hr=>?_;have hpl:=qo (env:=env) h2 p;refine aa (show M="find" from aK hr λe _=>cF (aW.mp e)) (XJ I.tk (Yd (g9 hb _) (gK hlen hpl) hline (KE (P ht hs h1 I R) (λov s1 q1=>?_) no)));refine il ((q1.2.2:_/\_/\∃t,ov=.str ⟨⟨c.pre++y⟩⟩ t)) λzz hxl u e=>?_;have r1:ao c s1.heap (.pat y) ov:=q1.2.2;rw[e]at r1 ⊢;refine(gW ("str") _ aaa F.slot_str_find F.type_str_find (Zh _ _ _) (λ_ e=>nomatch e) (XW hpl (iy hpl (KE (Ps ht hs h2 q1.2.1 R) (λus s2 q2=>?_) no))));exact eQ (J8 (prog:=prog) (w:=w) (A:=A) hr (r1.keep (q1.2.1.kd q2.1)) q2.2.2) λzz zz zz zz e2=>KE e2 (λv s3 q=>bf.of_val (q1.1.trans q2.1) q2.2.1 q) no
theorem Kw(O:ix prog w K mg m)(P:ce prog w K T m n)(Ps:kU prog w K T m n)(ht:x.tab=T)(hs:aQ x env)(hb:iQ o=true)(hline:(ap.endLine==p.line)=true)(hlen:YU args.length 30=true){q:Nat}(h1:pe n x ρ σ o=some (.cell q,σ1))
  (h:(bo (bP σ1 q) λc0=>bp (pes n x ρ σ1 args) λvs σ2=>bo (bP σ2 q) λc1=>gd (pP c0.acc c1.acc) (mE σ2 q (iu (nm M) c1 vs)))=some (t,σ'))(I:ak K c env ρ σ s)(R:az (m+x.gen) A):Xf (Xe prog w) A (eval (.Call (.Attribute o M ap) args [] p) env) (bf K c env ρ s t σ') nr s:=by
 refine ab h λc0 hc0 h=>bT h λvs σ2 h2 h=>ab h λc1 hc h=>aK h λhsame h=>bT h λr cl' hmc h=>ck h ?_;have hsame:=Ks hsame;have hpl:=qo (env:=env) h2 p;obtain⟨a0,l0⟩:=c0;obtain⟨a1,l⟩:=c1;cases a1 with
 | none=>
  cases a0 with
  | some z=>cases hsame
  | none=>
   refine wf (yS hmc) λe1 hl v ev er ec=>aa (show M="append" from cF e1) (Yd (g9 hb _) (gK hlen hpl) hline (KE (P ht hs h1 I R) (λov s1 q1=>?_) no));refine af q1.2.2 λb hb1 e=>aa (e) ?_;refine eQ (q1.2.1.cells.at hc0 hb1) λzz vs1 n1 g1 zz=>(gW ("list") _ F.plainAttrs_list F.slot_list_append F.type_list_append (ah _ g1 rfl) (λa e=>by cases e;exact(ah _ g1 rfl)) (XW hpl (iy hpl (KE (Ps ht hs h2 q1.2.1 R) (λus s2 q2=>?_) no))));refine bb ((ev▸q2.2.2:aq c s2.heap [v] us)) λu us' eu ru r3=>aa eu (aa ((r3:us'=[])) (aa er (aa ec ?_)));exact eQ (q2.2.1.cells.at hc hb1) λzz vs2 n2 g2 rr2=>wpAny_list_append_plain ⟨n2,g2⟩ (λh' hp hsb=>have r:=yT q2.2.1 hb1 hc hl rr2 ru hp hsb;⟨(q1.1.trans q2.1).trans r.1,r.2⟩) (W6 (rr2.length▸hl:vs2.length<=aD) (by decide))
 | some z=>
  cases a0 with
  | none=>cases hsame
  | some z0=>
   refine b5 (O.meth hmc) λf o1 fd g1 g2 g3 hcal hcall=>?_;have R':az m A:=R.mono (XX ..);refine uE (g9 hb _) (gK hlen hpl) hline (KE (P ht hs h1 I R) (λov s1 q1=>?_) no);refine af q1.2.2 λb hb1 e=>aa e ?_;have hbm:=YB hb1;refine hcal q1.2.1.base q1.2.1.cfg hbm (q1.2.1.cells.at hc0 hb1) R' _ (callWith_function (o:=o1) (fd:=fd) (iy hpl (KE (Ps ht hs h2 q1.2.1 R) (λus s2 q2=>⟨⟨q2.2.1.base.stat f o1 g1 g3,g2⟩,?_⟩) no)));exact KE (Ys q2.2.1.tk (hcall q2.2.1.base q2.2.1.cfg hbm (q2.2.1.cells.at hc hb1) q2.2.2 q2.2.1.tk R')) (λv s3 y=>(bR ((q1.1.trans q2.1).trans (y.2.1.weaken λy h=>h.elim (λe=>.inl (e▸hbm)) .inr)) (q2.2.1.set hb1 hc y.2.1 y.2.2.1 y.2.2.2.1 y.1) y.2.2.2.2)) λ_ _ f=>f.2.elim
end
theorem Kx{n:Nat}(O:ix prog w K mg m)(P:ce prog w K T m n)(Ps:kU prog w K T m n)(G:uF prog w K T m n):uG prog w K T m (n+1):=by
 intro x c env ρ σ t σ' s A o M ap p args ht hs h hb hline hlen I R;refine dn h (λq hq h=>G ht hs hq h hb hline I R) λ_ h=>bT h λpv σ1 h1 h=>dn h (λa ha h=>?_) λ_ h=>ab h λq hq h=>Kw O P Ps ht hs hb hline hlen (nV hq▸h1) h I R;rw[jU ha]at h1;refine dn h (λy hy h=>?_) λ_ h=>ab h λy hy h=>Kv P Ps ht hs hb hline hlen (HX hy▸h1) h I R;rw[iR hy]at h1;exact dn h (λq hq h=>Kt P ht hs hb hline hlen h1 hq h I R) λ_ h=>Ku P ht hs hb hline hlen h1 h I R
variable(prog w K T m) in
noncomputable def qx:Prop:=∀{n:Nat}{x:aH}{c env ρ σ σ' s A t M fp ap la lb ls lp e p y},ce prog w K T m n->x.tab=T->aQ x env->nm t=kE->nm M=pN->env.kindOf t=some .globalImplicit->x.gen≠0->mD la ls=true->
 pe n x ρ σ e=some (.val (.str y),σ')->inL y jS=true->(ap.endLine==p.line)=true->ak K c env ρ σ s->az (m+x.gen) A->
 Xf (Xe prog w) A (eval (.Call (.Attribute (.Name t fp) M ap) [.Lambda la lb ls lp,e] [] p) env) (bf K c env ρ s (.val (.str y)) σ') nr s
theorem Ky{t:Str}{args:List Expr}{e:Expr}(h:sY x ρ t args=some e)(hs:aQ x env):∃la lb ls lp,args=[.Lambda la lb ls lp,e]/\mD la ls=true/\env.kindOf t=some .globalImplicit/\x.gen≠0:=
 ab h λq hq h=>ab h λl hl h=>aK h λg h=>by
  cases h;have g:=W8.mp g;have g1:=W8.mp g.1;have g2:=W8.mp g1.1;refine iH (H8 hl) λb p e=>?_;have hk:=qm (kT x.sc t▸g1.2);rw[hs.1]at hk;exact⟨_,_,_,_,e▸jV hq,g2.1,hk,aai (Za.mp g.2)⟩
theorem Kz{n:Nat}(Tw:qx prog w K T m)(P:ce prog w K T m n)(Pm:uG prog w K T m n)(ht:x.tab=T)(hs:aQ x env){o:Expr}{M:Str}{ap p:Pos}{args:List Expr}{t:PV}
  (h:pe (n+1) x ρ σ (.Call (.Attribute o M ap) args [] p)=some (t,σ'))(I:ak K c env ρ σ s)(R:az (m+x.gen) A) :
  Xf (Xe prog w) A (eval (.Call (.Attribute o M ap) args [] p) env) (bf K c env ρ s t σ') nr s:=by
 replace h:gd (XI ap.endLine p.line&&YU args.length 30) (oc (nT o M) (λt=>bo (sY x ρ t args) λz=>bv (pe n x ρ σ z) λa σ1=>bo (dJ a) λy=>gd (inL y jS) (some (.val (.str y),σ1))) (gd (iQ o) (pmeth n x ρ σ o M args)))=some (t,σ'):=h;refine aK h λhc h=>?_;have hc:=W8.mp hc;have hline:(ap.endLine==p.line)=true:=beq_iff_eq.mpr (XF hc.1);refine dn h (λtn hn h=>ab h λe he h=>cG h λa σ1 h1 h=>ab h λy hy h=>aK h λhi h=>ck h ?_) λ_ h=>aK h λhb h=>Pm ht hs h hb hline hc.2 I R;refine ab hn λz hz hn=>aK hn λhm hn=>?_;cases hn;refine al (iS hz) λtp e1=>lw (Ky he hs) λla lb ls lp e2 hl hk hg=>?_;have hm:=W8.mp hm;exact aa e1 (aa e2 (Tw P ht hs (aW.mp hm.1) (aW.mp hm.2) hk hg hl (iR hy▸h1) hi hline I R))
variable(prog w K T m) in
structure fM(n:Nat):Prop where
 pe:ce prog w K T m n
 peo:ub prog w K T m n
 pes:kU prog w K T m n
 pargs:mP prog w K T m n
 pjoin:oh prog w K T m n
 pt:gH prog w K T m n
 pall:qk prog w K T m n
 pany:ql prog w K T m n
 pcomp:qw prog w K T m n
 pmeth:uG prog w K T m n
theorem KA{n:Nat}(O:dh prog w K mg T m)(O':ix prog w K mg m)(Tw:qx prog w K T m)(a:fM prog w K T m n):ce prog w K T m (n+1):=by
 intro x c env ρ σ e t σ' s A ht hs h I R;cases e with
 | Constant k u p=>exact Jf h I
 | Name X p=>exact Jg O ht hs h I
 | BinOp l o r p=>exact Jh a.pe ht hs h I R
 | UnaryOp o l p=>exact Jj a.pe ht hs h I R
 | BoolOp o es p=>exact Jk a.pe ht hs h I R
 | IfExp q l r p=>exact Jl a.pe a.pt ht hs h I R
 | Compare l ops rs p=>exact Jm a.pe ht hs h I R
 | Tuple es k p=>exact Jn a.pes ht hs h I R
 | List es p=>exact Jo a.pes ht hs h I R
 | Subscript v i p=>exact Jx O' a.pe a.peo ht hs h I R
 | JoinedStr es p=>exact Jv a.pjoin ht hs h I R
 | ListComp elt gens sc p=>exact Kq a.pe a.pcomp ht hs h I R
 | Call f args kws p=>
  refine aK (b:=kws.isEmpty) h λhk h'=>?_;cases jv hk;refine dn h' (λX hX _=>?_) λ_ h'=>ab h' λq hq _=>?_
  ·refine al (iS hX) λfp e=>?_;rw[e]at h ⊢;exact JX O O' a.pe a.pargs ht hs h I R
  ·rw[sZ hq]at h ⊢;exact Kz Tw a.pe a.pmeth ht hs h I R
 | _=>exact aT (h:none=some (t,σ'))
theorem zo(O:dh prog w K mg T m)(O':ix prog w K mg m)(Tw:qx prog w K T m)(G:∀n,fM prog w K T m n->uF prog w K T m n):∀n,fM prog w K T m n
 | 0=>⟨λ_ _ h=>(nomatch h),λ_ _ h=>(nomatch h),λ_ _ h=>(nomatch h),λ_ _ h=>(nomatch h),λ_ _ h=>(nomatch h),λ_ _ h=>(nomatch h),λ_ _ h=>(nomatch h),λ_ _ h=>(nomatch h),λ_ _ _ _ _ _ _ _ h=>(nomatch h),λ_ _ h=>(nomatch h)⟩
 | n+1=>by
  have a:=zo O O' Tw G n;exact⟨KA O O' Tw a,Js a.pe,Jq a.pe a.pes,Jr a.pe a.pargs,Jt a.pe a.pjoin,JC a.pe a.pt a.pall a.pany,Jy a.pt a.pall,Jz a.pt a.pany,Km a.pe a.pt,Kx O' a.pe a.pes (G n a)⟩
theorem uH{x:R3}{f:bG->ai->S->R3}{r:bG×ai×S}{C:Prop}(h:b3 x f=some r)(k:∀o ρ σ,x=some (o,ρ,σ)->f o ρ σ=some r->C):C:=match x,h,k with
 | some (o,ρ,σ),h,k=>k o ρ σ rfl h
@[elab_as_elim] theorem dN{o o':bG}{ρ ρ':ai}{σ σ':S}{C:bG->ai->S->Prop}(h:some (o,ρ,σ)=some (o',ρ',σ'))(k:C o ρ σ):C o' ρ' σ':=by (injection h with zi;injection zi with zj zk;injection zk with zl zm;subst zj zl zm);exact k
structure bH(h:Heap)(c c':aj):Prop where
 θ:c'.θ=c.θ
 P:c'.P=c.P
 pre:c'.pre=c.pre
 fr:∀b o,h.get? b=some o->c.fr b->c'.fr b
 fr':∀b,c'.fr b->c.fr b\/h.get? b=none
 ex:∀b,c.ex b->c'.ex b
 ex':∀b,c'.ex b->c.ex b\/h.get? b=none
 cells:∃new,c'.cells=c.cells++new/\∀a∈new,h.get? a=none
theorem bH.refl(h:Heap)(c:aj):bH h c c:=⟨rfl,rfl,rfl,λ_ _ _ h=>h,λ_ h=>.inl h,λ_ h=>h,λ_ h=>.inl h,[],by simp,λ_ h=>(nomatch h)⟩
theorem eT{h h':Heap}(l:∀b o,h.get? b=some o->∃o',h'.get? b=some o'){b:Addr}(d:h'.get? b=none):h.get? b=none:=by
 cases q:h.get? b with
 | none=>rfl
 | some o=>refine al (l b o q) λo' e=>?_;rw[d]at e;exact aT e
theorem bH.trans{h h':Heap}{c c' c'':aj}(a:bH h c c')(b:bH h' c' c'')(l:∀b o,h.get? b=some o->∃o',h'.get? b=some o'):bH h c c'':=by
 refine af a.cells λn1 e1 f1=>af b.cells λn2 e2 f2=>⟨b.θ.trans a.θ,b.P.trans a.P,b.pre.trans a.pre,λy o e q=>al (l y o e) λo' e'=>b.fr y o' e' (a.fr y o e q),λy q=>?_,λy q=>b.ex y (a.ex y q),λy q=>?_,n1++n2,by rw[e2,e1,XO],λy q=>?_⟩
 ·rcases b.fr' y q with q | q
  ·exact a.fr' y q
  ·exact .inr (eT l q)
 ·rcases b.ex' y q with q | q
  ·exact a.ex' y q
  ·exact .inr (eT l q)
 ·rcases Yv.mp q with q | q
  ·exact f1 y q
  ·exact eT l (f2 y q)
theorem bH.le{h:Heap}{c c':aj}(g:bH h c c'):aj.Le h c c':=⟨g.θ,g.P,g.pre,λb o e n q=>(g.ex' b q).elim n λd=>by rw[e]at d;cases d⟩
section
theorem ae.stm{c c':aj}(X1:ae (XS c env) s s1)(g:bH s.heap c c')(X2:ae (XS c' env) s1 s2):ae (XS c env) s s2:=by
 refine⟨λb o e n=>X2.keep b o (X1.keep b o e n) λq=>n ?_,λb o e=>al (X1.live b o e) λo' e'=>X2.live b o' e',X2.os.trans X1.os,X2.gens∘X1.gens⟩;rcases q with (q | q) | q
 ·refine af g.cells λnew e1 f1=>?_;rw[e1]at q;rcases Yv.mp q with q | q
  ·exact .inl (.inl q)
  ·rw[f1 b q]at e;exact aT e
 ·exact .inl (.inr q)
 ·exact .inr q
noncomputable def zp(c:aj)(h:Heap):bG->Flow->Prop
 | .next,f=>f=.next
 | .brk,f=>f=.brk
 | .cont,f=>f=.cont
 | .ret t,f=>∃v,f=.ret v/\bN c h t v
noncomputable def bU(K:Frag)(c:aj)(env:Env)(s:Xd)(o:bG)(ρ':ai)(σ':S)(f:Flow)(s':Xd):Prop:=
 ∃c',bH s.heap c c'/\ae (XS c env) s s'/\ak K c' env ρ' σ' s'/\zp c' s'.heap o f
variable(prog w K T m)
noncomputable def qy(n:Nat):Prop:=∀{x:aH}{c env ρ σ st o ρ' σ' s A},x.tab=T->aQ x env->pex n x ρ σ st=some (o,ρ',σ')->ak K c env ρ σ s->az (m+x.gen) A->
 Xf (Xe prog w) A (exec st env) (bU K c env s o ρ' σ') nr s
noncomputable def k7(n:Nat):Prop:=∀{x:aH}{c env ρ σ st o ρ' σ' s A},x.tab=T->aQ x env->pst n x ρ σ st=some (o,ρ',σ')->ak K c env ρ σ s->az (m+x.gen) A->
 Xf (Xe prog w) A (execs st env) (bU K c env s o ρ' σ') nr s
variable{prog w K T m}
theorem bU.stay(X:ae (XE c) s s1)(I:ak K c env ρ σ s1):bU K c env s .next ρ σ .next s1:=(dH c (bH.refl _ _) (X.weaken λ_ h=>.inl h) I rfl)
theorem bU.after{c':aj}{o:bG}{f:Flow}(g:bH s.heap c c')(X:ae (XS c env) s s1)(r:bU K c' env s1 o ρ' σ' f s2):bU K c env s o ρ' σ' f s2:=
 al r λc'' q=>(de c'' (g.trans q.1 X.live) (X.stm g q.2.1) q.2.2)
theorem bU.afterE{o:bG}{f:Flow}(X:ae (XE c) s s1)(r:bU K c env s1 o ρ' σ' f s2):bU K c env s o ρ' σ' f s2:=
 bU.after (bH.refl _ _) (X.weaken λ_ h=>.inl h) r
theorem KB{n:Nat}(P:qy prog w K T m n)(Ps:k7 prog w K T m n):k7 prog w K T m (n+1):=by
 intro x c env ρ σ st o ρ' σ' s A ht hs h I R;cases st with
 | nil=>exact dN h (ZW (bU.stay (ae.refl _ s) I))
 | cons st r=>
  refine uH h λo1 ρ1 σ1 h1 h=>Yw (KE (P ht hs h1 I R) (λf s1 q=>?_) no);refine im q λc1 g1 X1 I1 hf=>?_;cases o1 with
  | next=>exact aA (show f=.next from hf) (KE (Ps ht hs h I1 R) (λf s2 r2=>r2.after g1 X1) no)
  | brk=>exact dN h (aA (show f=.brk from hf) (dH c1 g1 X1 I1 rfl))
  | cont=>exact dN h (aA (show f=.cont from hf) (dH c1 g1 X1 I1 rfl))
  | ret t=>exact dN h (af hf λv e rv=>aA e ⟨c1,g1,X1,I1,v,rfl,rv⟩)
theorem KC{n:Nat}(Pt:gH prog w K T m n)(Ps:k7 prog w K T m n)(ht:x.tab=T)(hs:aQ x env){q:Expr}{b o:List Stmt}{p:Pos}{out:bG}(h:pex (n+1) x ρ σ (.If q b o p)=some (out,ρ',σ'))(I:ak K c env ρ σ s)(R:az (m+x.gen) A) :
  Xf (Xe prog w) A (exec (.If q b o p) env) (bU K c env s out ρ' σ') nr s:=by
 refine bT h λv σ1 h1 h=>wpAny_If (KE (Pt ht hs h1 I R) (λv' s1 q=>aA q.1 ?_) no);cases v with
 | true=>exact KE (Ps ht hs h q.2.2 R) (λf s2 r2=>r2.afterE q.2.1) no
 | false=>exact KE (Ps ht hs h q.2.2 R) (λf s2 r2=>r2.afterE q.2.1) no
theorem KD{n:Nat}(P:ce prog w K T m n)(ht:x.tab=T)(hs:aQ x env){e:Option Expr}{p:Pos}{out:bG}(h:pex (n+1) x ρ σ (.Return e p)=some (out,ρ',σ'))(I:ak K c env ρ σ s)(R:az (m+x.gen) A) :
  Xf (Xe prog w) A (exec (.Return e p) env) (bU K c env s out ρ' σ') nr s:=
 ab h λe' he h=>aA he (bT h λv σ1 h1 h=>dN h (wpAny_Return_some (KE (P ht hs h1 I R) (λv s1 q=>⟨c,bH.refl _ _,q.1.weaken λ_ h=>.inl h,q.2.1,v,rfl,q.2.2⟩) no)))
theorem KF{n:Nat}(Pt:gH prog w K T m n)(ht:x.tab=T)(hs:aQ x env){q:Expr}{g:Option Expr}{p:Pos}{out:bG}(h:pex (n+1) x ρ σ (.Assert q g p)=some (out,ρ',σ'))(I:ak K c env ρ σ s)(R:az (m+x.gen) A) :
  Xf (Xe prog w) A (exec (.Assert q g p) env) (bU K c env s out ρ' σ') nr s:=by
 cases g with
 | some _=>cases (h:none=some (out,ρ',σ'))
 | none=>exact bT (x:=pt n x ρ σ q) h λv σ1 h1 h=>aK h λhv h=>dN h (wpAny_Assert_holds (KE (Pt ht hs h1 I R) (λv s1 q=>⟨q.1.trans hv,bU.stay q.2.1 q.2.2⟩) no))
noncomputable def uI(prog:Y3)(w:aal)(K:Frag)(T:bh)(m n:Nat):Prop:=∀{x:aH}{c:aj}{env:Env}{ρ:ai}{σ:S}{q:Expr}{b:List Stmt}{p:Pos}{o:bG}{ρ':ai}{σ':S}{s:Xd}{A:Zp},x.tab=T->aQ x env->pex n x ρ σ (.While q b [] p)=some (o,ρ',σ')->ak K c env ρ σ s->az (m+x.gen) A->
 Zq (Xe prog w) A (.whileLoop q b [] env) (λr s'=>∃f,r=.ok f/\bU K c env s o ρ' σ' f s') s
theorem zq{n:Nat}(Pt:gH prog w K T m n)(Ps:k7 prog w K T m n)(W:uI prog w K T m n):uI prog w K T m (n+1):=by
 intro x c env ρ σ q b p o ρ' σ' s A ht hs h I R;refine Yr ?_;show Xf _ A ((whileTurn q b [] env).onRaise (λx=>do noteFrame x env;Y8 x)) _ _ s;refine aab ?_;skip;refine bT (x:=pt n x ρ σ q) h λv σ1 h1 h=>El (KE (Pt ht hs h1 I R) (λv' s1 z=>aA z.1 ?_) no);cases v with
 | false=>
  skip;exact dN h (El (ZW (Ev (ah _ rfl (bU.stay z.2.1 z.2.2)))))
 | true=>
  skip;refine uH h λo1 ρ1 σ2 h2 h=>El (KE (Ps ht hs h2 z.2.2 R) (λf s2 r=>?_) no);refine im (r.afterE z.2.1) λc1 g1 X2 I2 hf=>?_;have again:pex n x ρ1 σ2 (.While q b [] p)=some (o,ρ',σ')->Zq (Xe prog w) A (.whileLoop q b [] env) (λr s'=>∃f,r=.ok f/\bU K c env s o ρ' σ' f s') s2:=λhe=>
   aah (W ht hs he I2 R) λr s' zq4=>af zq4 λf e q=>(ah f e (q.after g1 X2))
  cases o1 with
  | next=>exact aA (show f=.next from hf) (Ev ⟨rfl,again h⟩)
  | cont=>exact aA (show f=.cont from hf) (Ev ⟨rfl,again h⟩)
  | brk=>exact dN h (aA (show f=.brk from hf) (Ev ⟨_,rfl,c1,g1,X2,I2,rfl⟩))
  | ret t=>exact dN h (af hf λv e rv=>aA e (Ev ⟨_,rfl,c1,g1,X2,I2,v,rfl,rv⟩))
end
theorem KG{n:Nat}{e:Expr}{t:PV}{X:Str}{xp:Pos}{l:Nat}(h:pe n x ρ σ e=some (t,σ')):∃b,swapsWith e (some (.Name X xp)) l env=pure b/\(b=true->∃elt gens sc p,e=.ListComp elt gens sc p):=by
 cases n with
 | zero=>exact aT (h:none=some (t,σ'))
 | succ n=>cases e with
  | ListComp elt gens sc p=>exact(ah _ rfl (λ_=>⟨_,_,_,_,rfl⟩))
  | SetComp=>cases (h:none=some (t,σ'))
  | DictComp=>cases (h:none=some (t,σ'))
  | _=>exact(ah false rfl (λh=>(nomatch h)))
theorem XS.own{X:Str}{b:Addr}(h:iW env X b):XS c env b:=.inr h.own
theorem KH{n:Nat}(all:∀n,fM prog w K T m n)(ht:x.tab=T)(hs:aQ x env){e:Expr}{X:Str}{xp p:Pos}{v:AV}(he:pe n x ρ σ e=some (.val v,σ1))(hr:eN x.sc ρ X (.val v)=some ρ1)(I:ak K c env ρ σ s)(R:az (m+x.gen) A) :
  Xf (Xe prog w) A (exec (.Assign [.Name X xp] e p) env) (bU K c env s .next ρ1 σ1) nr s:=by
 rw[hs.1]at hr;refine af (KG (env:=env) (X:=X) (xp:=xp) (l:=p.line) he) λb hb hb2=>?_;cases b with
 | false=>
  refine Zj (KE ((all n).pe ht hs he I R) (λu s1 zq0=>da zq0 λX1 I1 r1=>?_) no) hb;exact KE (gJ hr I1 r1) (λ_ s2 zq1=>aw zq1 λX2 I2=>(dH c (bH.refl _ _) ((X1.weaken λ_ h=>.inl h).trans (X2.weaken λ_ h=>XS.own h)) I2 rfl)) no
 | true=>
  refine jh (hb2 rfl) λelt gens sc cp ee=>?_;cases n with
  | zero=>cases (he:none=some (PV.val v,σ1))
  | succ k=>
  rw[ee]at he hb ⊢;refine ab he λg hg he=>bT he λit σ0 hi he=>ab he λts hts he=>ab he λρ0 hf he=>bT he λvs σ2 hpc he=>?_;have e1:AV.lst vs=v:=PV.val.inj (congrArg Prod.fst (W9 he));have e2:σ2=σ1:=congrArg Prod.snd (W9 he);have hg:=uD hg;have hc:=hg.2;rw[e2]at hpc;rw[<-e1]at hr;rw[hg.1]at hb ⊢;generalize g.target=tg at hb hpc ⊢;generalize g.iter=iter at hb hi ⊢;generalize g.ifs=ifs at hb hpc ⊢;clear he hg e1 e2 ee;refine aa (exec_Assign_Name_used _ _ _ _ hb) (El (Yq (El ?_)));show Xf _ A (do let _<-comprehension (.ListComp elt [⟨tg,iter,ifs,0⟩] sc cp) sc env (firstIterPos [⟨tg,iter,ifs,0⟩] cp) (newList []) false (eval iter env) (some (assign (.Name X xp) env))) _ _ s;refine El (KE (zn (use:=some (assign (.Name X xp) env)) (Q:=λ_ s'=>bU K c env s .next ρ1 σ1 .next s') (all k).pe (all k).pcomp ht hs R hc hi hts hf hpc I (λs1 acc C s' X1 I1 X' I' rep hC hns=>?_)) (λ_ s' q=>Ev (Ev q)) no);refine al hns λmm hn=>al I1.env.ns λmL hL=>?_;have rep0:ao {c with fr:=λb=>c.fr b\/b=C} s'.heap (.lst vs) acc:=ao.le (c:=c) (c':={c with fr:=λb=>c.fr b\/b=C}) (h:=s'.heap) ⟨rfl,rfl,rfl,λ_ _ _ h=>h⟩ rep;have rep':bN {c with fr:=λb=>c.fr b\/b=C} s'.heap (.val (.lst vs)) acc:=rep0;have lne:env.locals≠C:=λq=>absurd hL.lt (by rw[q];exact XN.mpr hC);have nown:¬iW env X C:=λq=>by
   clear hs I hr hb I' hns hn rep';rcases q with q | ⟨k,ea⟩
   ·exact lne q.symm
   ·refine cw (I1.env.cell X k) λa v ea' hcell=>?_;rw[ea]at ea';clear lne ea;cases ea';exact absurd hcell.lt (XN.mpr hC)
  skip;refine wpAny_assign_Name (KE (gJ hr I' rep') (λ_ s2 zq2=>aw zq2 λX2 I2=>?_) no);have hn2:s2.heap.Ns C mm:=hn.at' λo g=>X2.keep C o g nown;refine(ah mm hn2 (λh' hs'=>(dH c (bH.refl _ _) ?_ ((I2.frame (.inr rfl) hn2 lne (W6 I1.base.size hC) (λq=>absurd (I1.cfg.fresh _ q) (XN.mpr hC)) hs').lessfr I1.env.fr) rfl)));have X12:ae (XS c env) s1 s2:=(X'.weaken λ_ h=>.inl h).trans (X2.weaken λ_ h=>XS.own h);refine(X1.weaken λ_ h=>.inl h).trans ⟨λb o g n=>hs'.extBut b o (λq=>absurd (Xm g) (by (refine aa q ?_);exact XN.mpr hC)) (X12.keep b o g n),λb o g=>al (X12.live b o g) λo' g'=>⟨o',hs'.extBut b o' (λq=>absurd (Xm g) (by (refine aa q ?_);exact XN.mpr hC)) g'⟩,X12.os,X12.gens⟩
theorem KI{e:Expr}{l:Nat}(h:pY e=true):swapsWith e none l env=pure false:=by
 cases e<;>first | rfl | cases h
theorem KJ{a:AV}(h:xV a=true):a=.none:=by cases a<;>first | rfl | cases h
theorem KK{n:Nat}(P:ce prog w K T m n)(ht:x.tab=T)(hs:aQ x env){e:Expr}{p:Pos}{out:bG}(h:pex (n+1) x ρ σ (.Expr e p)=some (out,ρ',σ'))(I:ak K c env ρ σ s)(R:az (m+x.gen) A) :
  Xf (Xe prog w) A (exec (.Expr e p) env) (bU K c env s out ρ' σ') nr s:=
 cG h λa σ1 h1 h=>aK h λhg h=>dN h (have hg:=W8.mp hg
  wpAny_Expr (KE (P ht hs h1 I R) (λv s1 q=>aA (KJ hg.1▸q.2.2:ao c s1.heap .none v) (bU.stay q.1 q.2.1)) no) (by unfold interactive;rw[I.env.kind];rfl) (KI hg.2))
theorem zr{o:Z8}{a b r:AV}{v u:W2}(h:pX o a b=some r)(ha:ao c s.heap a v)(hb:ao c s.heap b u) :
  Xf (Xe prog w) A (inplaceOp o v u) (ff c s r) nr s:=by
 refine aK h λho h=>?_;have ho:=W8.mp ho;have ho1:o=.Add:=by cases o<;>first | rfl | exact eE ho.1
 refine aa ho1 ?_;cases a with
 | int i=>exact ab h λj ej h=>aL h (jA (show ∃t,v=.int i t from ha) λt=>jA (fL ej hb) λt'=>PyProof.Rows.iadd_int iV)
 | idx i=>exact ab h λj ej h=>aL h (jA (show ∃t,v=.int (.ofNat (c.P+i)) t from ha) λt=>jA (n7 ej hb) λt'=>PyProof.Rows.iadd_int (gB (ae.tk X0 s _) s.toks (congrArg (Value.int · s.toks) (congrArg Int.ofNat (Nat.add_assoc ..)))))
 | str x=>
  refine ab h λy ey h=>aw (iU h) λh3 e=>cq ha λzz t e1=>?_;refine cq (g8 ey hb) λzz t' e2=>?_;refine aa e (aa e1 (aa e2 (PySem.SB.iadd (λt' tk=>(fU (ae.tk X0 s tk) h3 t' ?_)) (W6 (Om▸h3:x.length+y.length<=aD) (by decide)))));show Value.str (Str.append _ _) _=_;simp[Str.append]
 | lst=>exact eE ho.2
 | _=>exact aT (h:none=some r)
theorem KL{n:Nat}(P:ce prog w K T m n)(ht:x.tab=T)(hs:aQ x env){X:Str}{xp p:Pos}{e:Expr}{a b v:AV}(hn:aB ρ (nm X)=some (.val a)){o:Z8}(he:pe n x ρ σ e=some (.val b,σ1))(hb:pX o a b=some v)(hr:eN x.sc ρ X (.val v)=some ρ1)
  (I:ak K c env ρ σ s)(R:az (m+x.gen) A) :
  Xf (Xe prog w) A (exec (.AugAssign (.Name X xp) o e p) env) (bU K c env s .next ρ1 σ1) nr s:=by
 rw[hs.1]at hr;have hload:Xf (Xe prog w) A (loadName env X) (λu s'=>s'=s/\ao c s.heap a u) nr s:=by
  refine af (I.env.vars X _ hn) λu hv hu=>?_;rcases hv with ⟨k,mm,hm,hx⟩ | ⟨k | ⟨k,hc⟩,ad,ha,hx⟩
  ·exact ZE I.env.kind k hm hx ⟨rfl,hu⟩
  ·exact wpAny_loadName_cell I.env.kind k ha hx ⟨rfl,hu⟩
  ·exact wpAny_loadName_free I.env.kind k ha hx ⟨rfl,hu⟩ hc
 refine wpAny_AugAssign_Name (KE hload (λu s0 q=>?_) no);refine aw q λzr0 ru=>?_;clear hload q;refine aa zr0 (KE (P ht hs he I R) (λz s1 zq4=>da zq4 λX1 I1 r1=>?_) no);refine KE (Ys I1.tk (zr (prog:=prog) (w:=w) (A:=A) hb (ru.keep (I.kd X1)) r1)) (λy s2 zq5=>da zq5 λtk X2 r2=>?_) λ_ _ f=>f.2.elim;refine KE (gJ hr (I1.keep0 X2 tk) r2) (λ_ s3 zq6=>aw zq6 λX3 I3=>?_) no;exact(dH c (bH.refl _ _) (((X1.trans X2.x0).weaken λ_ h=>.inl h).trans (X3.weaken λ_ h=>XS.own h)) I3 rfl)
theorem qz(I:ak K c env ρ σ s){b:Addr}{o:Obj}(g:s.heap.get? b=some o)(h:cy env b):(∃es ep,o.data=.dict es ep)\/∃v,o.data=.cell v:=by
 rcases h with rfl | ⟨Y,k,ea⟩
 ·refine lu I.env.ns λmm o' es ep g' d zz=>?_;rw[g]at g';cases g';exact .inl (dZ _ _ d)
 ·refine mq (I.env.cell Y k) λa v ea' o' g' d=>?_;rw[ea]at ea';clear ea;cases ea';rw[g]at g';clear g;cases g';exact .inr ⟨_,d⟩
theorem zt(B:aC K s.heap){b:Addr}{o:Obj}(g:s.heap.get? b=some o)(h:aG b):∃ps,o=tabObj ps:=by
 obtain⟨q,hq,rfl⟩:∃q∈cz,q.2=b:=by clear g;rcases h with rfl | rfl | rfl | rfl<;>simp[cz]
 refine af (B.tab q hq) λps e' zz=>?_;rw[g]at e';clear g zz;cases e';exact⟨ps,rfl⟩
theorem ak.solid_kept(I:ak K c env ρ σ s)(X:ae (XS c env) s s1){b:Addr}{o:Obj}(g:s.heap.get? b=some o)(so:dK o)(hc:b∉c.cells):s1.heap.get? b=some o:=by
 refine X.keep b o g ?_;rintro((h | h) | h)
 ·exact hc h
 ·refine al (zt I.base g h) λps zr1=>?_;subst zr1;exact qj so
 ·rcases qz I g h with ⟨es,ep,d⟩ | ⟨v,d⟩<;>(unfold dK at so;rw[d]at so;exact so)
structure oq(prog:Y3)(w:aal)(A:Zp)(c:aj)(s:Xd)(ts:List AV)(I:Addr)(fp:List Addr)(Pi:Nat->W2->Prop)(St:Nat->Heap->Prop)(i:Nat):Prop where
 W:Walks prog w A I fp [I] ts.length Pi St
 bare:∀i h,St i h->∃o,h.get? I=some o/\lS o
 item:∀i v a,Pi i v->ts[i]?=some a->ao c s.heap a v
 foot:∀b∈fp,b=I\/(b∉c.cells/\∃o,s.heap.get? b=some o/\dK o)
 st:St i s.heap
 exI:c.ex I
 frI:c.fr I
 lo:n₀<=I
noncomputable def uJ(n:Nat)(x:aH)(tg:Expr)(b:List Stmt)(t:AV)(ρ:ai)(σ:S):R3:=bo (eG x.sc tg t ρ) λρ1=>pst n x ρ1 σ b
theorem zu{ts:List AV}{I:Addr}{fp:List Addr}{Pi:Nat->W2->Prop}{St:Nat->Heap->Prop}{i tk:Nat}{h':Heap}{cs:aj}{ss:Xd}(Iv:ak K c env ρ σ s)(H:oq prog w A c s ts I fp Pi St i)(G:bH ss.heap cs c)(X:ae (XS cs env) ss s)
  (dead:ss.heap.get? I=none)(lv:∀b,cs.ex b->∃o,ss.heap.get? b=some o)(hk:∀b o,b∉[I]->s.heap.get? b=some o->h'.get? b=some o)(htk:1<=tk):bU K cs env ss .next ρ σ .next {s with heap:=h',toks:=tk}:=by
 refine af (H.bare _ _ H.st) λoI gI bI=>lr bI λzz zz zz vsI dI=>?_;have hkI:∀b o,b≠I->s.heap.get? b=some o->h'.get? b=some o:=λb o hb e=>hk b o (λh=>hb (Xi.mp h)) e;have hcI:I∉c.cells:=λh=>by
  refine al (Iv.cells.mem h) λcl Ca=>dd Ca.seq λo' xs n' g' d=>?_;rw[gI]at g';(injection g' with zi;subst zi);rw[dI]at d;injection d
 refine aw (Iv.drop H.frI H.exI hcI H.lo hkI) λB Cs=>?_;have nns:∀{a m},s.heap.Ns a m->a≠I:=λzq0 e=>fJ zq0 λzz zz zz g' d zz=>by
  clear dead H hkI hcI;subst e;rw[gI]at g';(injection g' with zi;clear bI gI;subst zi);rw[dI]at d;injection d
 have ncell:∀{a v},s.heap.IsCell a v->a≠I:=λzq1 e=>af zq1 λzz g' d=>by
  clear nns;subst e;rw[gI]at g';(injection g' with zi;subst zi);rw[dI]at d;injection d
 have kd:b6 c s.heap h':=λy o e nx _=>hkI y o (λh=>nx (h▸H.exI)) e;have Een:=Iv.env.keepX (X:=λy=>y=I) (λy o e n=>hkI y o n e) kd (λm hm=>nns hm) (λa v _ hv=>ncell hv)
 let c2:aj:={c with ex:=λb=>c.ex b/\b≠I}
 have lK:aj.Le h' c c2:=⟨rfl,rfl,rfl,λb o _ nx h=>nx h.1⟩;have I2:ak K c2 env ρ σ {s with heap:=h',toks:=tk}:=by
  refine⟨B,⟨λa ha=>⟨Iv.cfg.sub a ha,λe=>hcI (e▸ha)⟩,Iv.cfg.nodup,Iv.cfg.low,λa ha=>al (Iv.cfg.live a ha.1) λo g=>⟨o,hkI a o ha.2 g⟩,Iv.cfg.theta⟩,Een.le lK rfl (λb h=>h),Cs.le lK (λb h=>.inl h),htk⟩
 have X2:ae (XS cs env) ss {s with heap:=h',toks:=tk}:=by
  refine⟨λb o g n=>hkI b o (λe=>by subst e;rw[dead]at g;exact aT g) (X.keep b o g n),λb o g=>?_,X.os,X.gens⟩;exact al (X.live b o g) λo' g'=>⟨o',hkI b o' (λe=>by subst e;rw[dead]at g;exact aT g) g'⟩
 have G2:bH ss.heap cs c2:=⟨G.θ,G.P,G.pre,G.fr,G.fr',λb q=>⟨G.ex b q,λe=>by subst e;refine al (lv b q) λo g=>?_;rw[dead]at g;exact aT g⟩,λb q=>G.ex' b q.1,G.cells⟩;exact(dH c2 G2 X2 I2 rfl)
theorem zv{ts:List AV}{I:Addr}{fp:List Addr}{Pi:Nat->W2->Prop}{St:Nat->Heap->Prop}{i tk:Nat}{a:AV}{v:W2}{h1:Heap}{cs:aj}{ss:Xd}{C:Prop}(Iv:ak K c env ρ σ s)(H:oq prog w A c s ts I fp Pi St i)(G:bH ss.heap cs c)(X:ae (XS cs env) ss s)(dead:ss.heap.get? I=none)
  (ha:ts[i]?=some a)(hv:Pi i v)(st1:St (i+1) h1)(hk1:∀b o,b∉[I]->s.heap.get? b=some o->h1.get? b=some o)(htk1:1<=tk)
  (k:∀oI1,h1.get? I=some oI1->lS oI1->ak K c env ρ σ {s with heap:=h1,toks:=tk}->ao c h1 a v->ae (XS cs env) ss {s with heap:=h1,toks:=tk}->
   (∀{s2:Xd},ae (XS c env) {s with heap:=h1,toks:=tk} s2->∀{out:bG}{ρ2:ai}{σ2:S}{f:Flow}{s3:Xd},bU K c env s2 out ρ2 σ2 f s3->∃c3,bH ss.heap cs c3/\ae (XS cs env) ss s3/\ak K c3 env ρ2 σ2 s3/\zp c3 s3.heap out f/\oq prog w A c3 s3 ts I fp Pi St (i+1))->C):C:=by
 refine af (H.bare _ _ H.st) λoI gI bI=>af (H.bare (i+1) _ st1) λoI1 gI1 bI1=>?_;have hkI:∀y o,y≠I->s.heap.get? y=some o->h1.get? y=some o:=λy o hy e=>hk1 y o (λh=>hy (Xi.mp h)) e;refine aw (Iv.iter gI bI H.exI H.lo hkI ⟨_,gI1⟩ tk htk1) λX1 I1=>?_;have kd1:b6 c s.heap h1:=λy o e nx _=>hkI y o (λh=>nx (h▸H.exI)) e;have rv:ao c h1 a v:=(H.item i v a hv ha).keep kd1;have X01:ae (XS cs env) ss {s with heap:=h1,toks:=tk}:=by
  refine⟨λb o g n=>hkI b o (λe=>by subst e;rw[dead]at g;exact aT g) (X.keep b o g n),λb o g=>?_,X.os,X.gens⟩;exact al (X.live b o g) λo' g'=>⟨o',hkI b o' (λe=>by subst e;rw[dead]at g;exact aT g) g'⟩
 refine k oI1 gI1 bI1 I1 rv X01 λ{s2} X12 {out ρ2 σ2 f s3} SR=>?_;clear k;refine im SR λc3 g3 X3 I3 hf=>?_;have X23:ae (XS c env) {s with heap:=h1,toks:=tk} s3:=X12.trans X3;have g13:bH h1 c c3:=⟨g3.θ,g3.P,g3.pre,λb o e q=>al (X12.live b o e) λo' e'=>g3.fr b o' e' q,λb q=>(g3.fr' b q).imp id (eT X12.live),g3.ex,λb q=>(g3.ex' b q).imp id (eT X12.live),af g3.cells λnw e1 f1=>(ah nw e1 (λb q=>eT X12.live (f1 b q)))⟩;have kd3:b6 c3 h1 s3.heap:=λb o g nx so=>I1.solid_kept X23 g so λh=>nx (g3.ex b (I1.cfg.sub b h));have solidI:dK oI1:=by refine lr bI1 λnI hcI zz vsI dI=>?_;unfold dK;(refine aa dI ?_);intro e;rw[hcI]at e;injection e
 have hcI:I∉c.cells:=λh=>by
  refine al (I1.cells.mem h) λcl Ca=>dd Ca.seq λo' xs n' g' d=>lr bI1 λzz zz zz vsI dI=>?_;rw[gI1]at g';(injection g' with zi;subst zi);rw[dI]at d;injection d
 have gI3:=I1.solid_kept X23 gI1 solidI hcI;refine af g13.cells λnw e1 f1=>?_;have foot1:∀b∈fp,b∉c.cells/\∃o,h1.get? b=some o/\dK o:=λb hb=>by
  rcases H.foot b hb with rfl | ⟨q1,o,q2,q3⟩
  ·exact(fw hcI _ gI1 solidI)
  ·by_cases e:b=I
   ·refine aa e ?_;exact(fw hcI _ gI1 solidI)
   ·exact(fw q1 o (hkI b o e q2) q3)
 refine⟨c3,G.trans g13 X01.live,X01.stm G X23,I3,hf,⟨H.W,H.bare,λj u z hu hz=>?_,λb hb=>?_,?_,g3.ex _ H.exI,(al (X12.live _ _ gI1) λo' e'=>g3.fr _ o' e' H.frI),H.lo⟩⟩
 ·exact(((H.item j u z hu hz).keep kd1).le g13.le).keep kd3
 ·refine we (foot1 b hb) λq1 o q2 q3=>.inr (fw (λh=>?_) o (I1.solid_kept X23 q2 q3 q1) q3);rw[e1]at h;rcases Yv.mp h with h | h
  ·exact q1 h
  ·rw[f1 b h]at q2;exact aT q2
 ·refine H.W.frame _ _ _ st1 λb hb o g=>we (foot1 b hb) λq1 o' q2 q3=>?_;rw[g]at q2;cases q2;exact I1.solid_kept X23 g q3 q1
theorem zw{n:Nat}(Ps:k7 prog w K T m n)(ht:x.tab=T)(hs:aQ x env)(R:az (m+x.gen) A){tg:Expr}{body:List Stmt}{ts:List AV}{I:Addr}{fp:List Addr}{Pi:Nat->W2->Prop}{St:Nat->Heap->Prop} :
  ∀(k i:Nat)(c cs:aj)(ρ:ai)(σ:S)(o:bG)(ρ':ai)(σ':S)(s ss:Xd),ts.length=i+k->gn (uJ n x tg body) (ts.drop i) ρ σ=some (o,ρ',σ')->
   ak K c env ρ σ s->oq prog w A c s ts I fp Pi St i->bH ss.heap cs c->ae (XS cs env) ss s->ss.heap.get? I=none->(∀b,cs.ex b->∃o,ss.heap.get? b=some o)->
   Zq (Xe prog w) A (.forLoop tg (.ref I) body [] env) (λr s'=>∃f,r=.ok f/\bU K cs env ss o ρ' σ' f s') s
 | 0,i,c,cs,ρ,σ,o,ρ',σ',s,ss,hk,ho,Iv,H,G,X,dead,lv=>by
  refine Yr ?_;show Xf _ A ((forTurn tg (.ref I) body [] env).onRaise (λx=>do noteFrame x env;Y8 x)) _ _ s;refine aab ?_;have hi:ts.length=i:=hk;subst hi;rw[List.drop_length]at ho;cases (ho:some (.next,ρ,σ)=some (o,ρ',σ'));refine El (Yq (El (wpAny_onRaise (XJ Iv.tk (H.W.done s _ _ H.st λh' tk hk htk=>?_)))));refine Ev ⟨rfl,Yr ?_⟩;skip;exact El (wpAny_onRaise (ZW (Ev (ah _ rfl (zu Iv H G X dead lv hk htk)))))
 | k+1,i,c,cs,ρ,σ,o,ρ',σ',s,ss,hk,ho,Iv,H,G,X,dead,lv=>by
  refine Yr ?_;show Xf _ A ((forTurn tg (.ref I) body [] env).onRaise (λx=>do noteFrame x env;Y8 x)) _ _ s;refine aab ?_;have hi:i<ts.length:=hk▸Nat.lt_add_of_pos_right (Nat.succ_pos k);have ha:ts[i]?=some ts[i]:=Xo hi;rw[Z7 hi]at ho;refine uH ho λo1 ρ2 σ2 hst ho=>ab hst λρ1 hb h2=>?_;generalize ts[i]=a at ha hb hst;clear hst;refine El (Yq (El (wpAny_onRaise (XJ Iv.tk (H.W.item i s _ _ hi H.st λv h1 tk1 hv st1 hk1 htk1=>?_)))));refine zv Iv H G X dead ha hv st1 hk1 htk1 λoI1 gI1 bI1 I1 rv X01 step=>?_;rw[hs.1]at hb;refine af (qt (prog:=prog) (w:=w) (A:=A) hb I1 rv R.1) λxs hxs wb=>El (uq gI1 bI1 (El (KE wb (λ_ s2 zq3=>aw zq3 λX2 I2=>?_) no)));have X12:ae (XS c env) {s with heap:=h1,toks:=tk1} s2:=X2.weaken λb zq4=>af zq4 λX zz o=>XS.own o;refine El (KE (Ps ht hs h2 I2 R) (λf s3 r=>?_) no);refine ko (step X12 r) λc3 g3 X3 I3 hf H3=>?_;have again:gn (uJ n x tg body) (ts.drop (i+1)) ρ2 σ2=some (o,ρ',σ')->_:=λho=>zw Ps ht hs R k (i+1) c3 cs _ _ o ρ' σ' s3 ss (hk.trans (Nat.succ_add i k).symm) ho I3 H3 g3 X3 dead lv;cases o1 with
  | next=>exact aA (show f=.next from hf) (Ev ⟨rfl,again ho⟩)
  | cont=>exact aA (show f=.cont from hf) (Ev ⟨rfl,again ho⟩)
  | brk=>exact dN ho (aA (show f=.brk from hf) (Ev ⟨_,rfl,c3,g3,X3,I3,rfl⟩))
  | ret t=>exact dN ho (af hf λv e rv=>aA e (Ev ⟨_,rfl,c3,g3,X3,I3,v,rfl,rv⟩))
theorem KM{n:Nat}(P:ce prog w K T m n)(Ps:k7 prog w K T m n)(ht:x.tab=T)(hs:aQ x env){tg iter:Expr}{b:List Stmt}{p:Pos}{out:bG}(h:pex (n+1) x ρ σ (.For tg iter b [] p)=some (out,ρ',σ'))(I:ak K c env ρ σ s)(R:az (m+x.gen) A) :
  Xf (Xe prog w) A (exec (.For tg iter b [] p) env) (bU K c env s out ρ' σ') nr s:=by
 refine bT (x:=pe n x ρ σ iter) h λit σ1 hi h=>ab h λts hts h=>?_;have h':gn (uJ n x tg b) ts ρ σ1=some (out,ρ',σ'):=h;refine wpAny_For (KE (P ht hs hi I R) (λv s1 zq0=>da zq0 λX1 I1 r1=>KE (y8 hts r1 I1.cfg) (λit s2 hit=>?_) no) no) (uC hi);refine fc hit λfp Pi St zr3 IT st0 zc0=>af zc0 λoI zr7 hfreed=>aa zr3 ?_;subst zr7;have dead:s1.heap.get? s1.heap.objs.size=none:=XA (Xs _)
 let c0:aj:={c with ex:=λb=>c.ex b\/b=s1.heap.objs.size,fr:=λb=>c.fr b\/b=s1.heap.objs.size}
 have X0':ae X0 s1 {s1 with heap:=s1.heap.push oI}:=ae.push X0 s1 oI;have le0:aj.Le s1.heap c c0:=⟨rfl,rfl,rfl,λb o g nx q=>q.elim nx λe=>by clear X0' nx q;subst e;rw[dead]at g;cases g⟩;have I0:ak K c0 env ρ _ {s1 with heap:=s1.heap.push oI}:=I1.grow X0' I1.tk le0 rfl (λb q=>.inl q) (λb q=>by
  clear le0;rcases q with q | rfl
  ·refine al (I1.cfg.live b q) λo g=>?_;exact⟨o,X0'.all b o g⟩
  ·exact⟨_,Xl _ hfreed⟩) (λb q=>.inl q) (λb q=>q.imp id λe=>by clear I1 X0' le0 q;subst e;exact dead)
 have G0:bH s1.heap c c0:=⟨rfl,rfl,rfl,λb _ _ q=>.inl q,λb q=>q.imp id λe=>by refine aa e ?_;exact dead,λb q=>.inl q,λb q=>q.imp id λe=>by refine aa e ?_;exact dead,[],by simp[c0],λ_ h=>(nomatch h)⟩;refine aah (zw (cs:=c) (ss:=s1) Ps ht hs R ts.length 0 c0 ρ _ out ρ' σ' _ (ZL _).symm h' I0 ⟨IT.walks A R.1,IT.bare,λi v a hv ha=>((IT.item i v a hv ha).le le0).keep (.of0 X0'.all),λb hb=>?_,st0,.inr rfl,.inr rfl,I1.base.size⟩ G0 X0'.x0 dead I1.cfg.live) (λr s' q=>?_)
 ·rcases IT.foot b hb with q | ⟨q1,o,q2,q3⟩
  ·exact .inl q
  ·exact .inr (fw q1 o (X0'.all b o q2) q3)
 ·obtain⟨f,rfl,q⟩:=q;exact q.afterE X1
theorem ak.newCell(I:ak K c env ρ σ s){b:Addr}{cl:bE}{fr2:Addr->Prop}(f1:∀y o,s.heap.get? y=some o->c.fr y->fr2 y)(f2:∀y,fr2 y->c.fr y\/s.heap.get? y=none){X:ae X0 s s1}(tk:1<=s1.toks)(dead:s.heap.get? b=none)(live:∃o,s1.heap.get? b=some o)(lo:n₀<=b)
  (hC:bD {c with ex:=λy=>c.ex y\/y=b,cells:=c.cells++[b],fr:=fr2} s1.heap b cl) :
  bH s.heap c {c with ex:=λy=>c.ex y\/y=b,cells:=c.cells++[b],fr:=fr2}/\ak K {c with ex:=λy=>c.ex y\/y=b,cells:=c.cells++[b],fr:=fr2} env ρ (σ++[cl]) s1:=by
 have hnc:b∉c.cells:=λh=>by refine al (I.cfg.live b (I.cfg.sub b h)) λo g=>?_;rw[dead]at g;exact aT g
 have le0:aj.Le s.heap c {c with ex:=λy=>c.ex y\/y=b,cells:=c.cells++[b],fr:=fr2}:=⟨rfl,rfl,rfl,λy o g nx q=>q.elim nx λe=>by clear live lo hC hnc nx q;subst e;rw[dead]at g;cases g⟩;refine⟨⟨rfl,rfl,rfl,f1,f2,λ_ q=>.inl q,λy q=>q.imp id λe=>by clear le0 q;refine aa e ?_;exact dead,[b],rfl,λy q=>by rw[Xi.mp q];exact dead⟩,?_⟩;refine⟨I.base.keep0 X.all,⟨λa ha=>?_,?_,λa ha=>?_,λa q=>?_,I.cfg.theta⟩,?_,?_,tk⟩
 ·rcases Yv.mp ha with ha | ha
  ·exact .inl (I.cfg.sub a ha)
  ·exact .inr (Xi.mp ha)
 ·rw[List.nodup_append];exact(bR I.cfg.nodup (by simp) (λy hy z hz e=>by rw[Xi.mp hz]at e;subst e;exact hnc hy))
 ·rcases Yv.mp ha with ha | ha
  ·exact I.cfg.low a ha
  ·(refine aa (Xi.mp ha) ?_);exact lo
 ·rcases q with q | rfl
  ·refine al (I.cfg.live a q) λo g=>?_;exact⟨o,X.all a o g⟩
  ·exact live
 ·have E:=I.env;refine⟨E.kind,E.globals,E.builtins,λY t e=>?_,al E.ns λmm h=>⟨mm,h.keeps X.all⟩,λY e=>cw (E.cell Y e) λa v e1 e2=>(cx a v e1 (e2.keeps X.all)),E.apart,E.low,λy o=>?_⟩
  rotate_left
  ·obtain⟨o',g'⟩:∃o',s.heap.get? y=some o':=by
    rcases o with rfl | ⟨X,hk,hx⟩
    ·refine DA E.ns λmm oL zz zz gL zz=>?_;exact⟨oL,gL⟩
    ·refine mq (E.cell X hk) λa v e1 o' g' zz=>?_;rw[e1]at hx;cases hx;exact⟨o',g'⟩
   exact f1 y o' g' (E.fr y o)
  refine af (E.vars Y t e) λv hv r=>(ah v (hv.keep0 X.all) ?_);cases t with
  | val a=>exact(ao.le le0 r).keep (.of0 X.all)
  | cell i=>refine af r λa e1 e2=>?_;exact(ah a (by (refine aa (List.getElem?_append_left (Yh.mp e1).1) ?_);exact e1) e2)
  | app i=>refine io r λa mm e1 e2 e3 e4=>?_;exact⟨a,mm,by (refine aa (List.getElem?_append_left (Yh.mp e1).1) ?_);exact e1,e2,le0.ex _ _ e4 e3,X.all _ _ e4⟩
  | rng x y z=>refine lu r λmm t u w e1 e2 e3=>?_;exact⟨mm,t,u,w,e1,le0.ex _ _ e3 e2,X.all _ _ e3⟩
 ·have go:∀{as:List Addr}{σ:S},b8 c s.heap as σ->b8 {c with ex:=λy=>c.ex y\/y=b,cells:=c.cells++[b],fr:=fr2} s1.heap (as++[b]) (σ++[cl]):=by
   intro as;induction as with
   | nil=>intro σ C;cases σ with
    | nil=>exact⟨hC,trivial⟩
    | cons=>exact C.elim
   | cons a as ih=>
    intro σ C;cases σ with
    | nil=>exact C.elim
    | cons cl0 σ=>
     refine aw C λzn0 C2=>aw zn0 λz C1=>⟨⟨z,?_⟩,ih C2⟩;cases q:cl0.acc with
     | none=>rw[q]at C1;refine cw C1 λvs n g r=>?_;exact(cx vs n (X.all _ _ g) ((r.le le0).keep (.of0 X.all)))
     | some z=>rw[q]at C1;refine b5 C1 λvs n dx g r i lo f=>?_;exact(dS vs n dx (X.all _ _ g) ((r.le le0).keep (.of0 X.all)) (i.keep (X.all _)) lo (λh=>(f2 dx h).elim f λq=>by refine dd i λzz zz zz g' zz=>?_;rw[q]at g';exact aT g'))
  exact go I.cells
theorem KN(hs:aQ x env){X:Str}{xp lp p:Pos}(hr:eN x.sc ρ X (.cell σ.length)=some ρ1)(I:ak K c env ρ σ s) :
  Xf (Xe prog w) A (exec (.Assign [.Name X xp] (.List [] lp) p) env) (bU K c env s .next ρ1 (σ++[⟨none,[]⟩])) nr s:=by
 rw[hs.1]at hr;refine Zj (PySem.wpAny_List (wpAny_items_nil ⟨Y4 _,?_⟩));have X1:ae X0 s {s with heap:=s.heap.push {cls:=.type "list",data:=.seq ([]:List W2).toArray}}:=ae.push X0 s _;refine aw (I.newCell (fr2:=c.fr) (λ_ _ _ h=>h) (λ_ h=>.inl h) (X:=X1) (cl:=⟨none,[]⟩) I.tk (XA (Xs _)) ⟨_,Xl _ rfl⟩ I.base.size ⟨Y4 _,[],0,Xl _ rfl,aq.nil⟩) λG I1=>?_;have hlen:=I.cells.length;refine KE (gJ hr I1 (ah s.heap.objs.size (by rw[<-hlen];simp) rfl)) (λ_ s2 zq3=>aw zq3 λX2 I2=>(dH _ G (X1.x0.trans (X2.weaken λ_ h=>XS.own h)) I2 rfl)) no
theorem mT{b:Bool}(h:b=false):¬b=true:=λe=>YQ (h.symm.trans e)
noncomputable def zx(env:Env):Option (List Expr×List Expr)->Sem (Option (List Str))
 | some (ts,vs)=>
   if (!(ts.length==2||ts.length==3)||vs.length != ts.length||env.blockKind != .function)=true then pure none
   else if vs.any xK=true then pure none
   else if ((ts.filterMap (mF env.scope ((ts.head?.map (·.pos.line)).getD 0))).length != ts.length||(ts.filterMap (mF env.scope ((ts.head?.map (·.pos.line)).getD 0))).eraseDups.length != (ts.filterMap (mF env.scope ((ts.head?.map (·.pos.line)).getD 0))).length)=true then pure none
   else if vs.all (foldedForSure 8)=true then pure none
   else if vs.all (constantsAlone 8)=true then ((unsupported "assign.tuple-of-constant-expressions:order-of-the-stores":Sem PUnit) >>= λ_=>pure (some (ts.filterMap (mF env.scope ((ts.head?.map (·.pos.line)).getD 0)))))
   else pure (some (ts.filterMap (mF env.scope ((ts.head?.map (·.pos.line)).getD 0))))
 | none=>pure none
theorem KO(env:Env)(ts:List Expr)(v:Expr):swappedStores ts v env=zx env (xJ ts v):=by
 cases ts with
 | nil=>rfl
 | cons t ts=>cases ts with
  | cons=>cases t<;>rfl
  | nil=>cases t<;>first | rfl | (cases v<;>rfl)
theorem KP{env:Env}{ts:List Expr}{v:Expr}{r:Option (List Str)}(hb:env.blockKind=.function)(h:pW env.scope ts v=some r):swappedStores ts v env=pure r:=by
 have hb':(env.blockKind != ScopeKind.function)=false:=by (refine aa hb ?_);rfl
 refine(KO env ts v).trans ?_;refine dn h (λq hq h=>?_) λhn h=>aL h (by (refine aa hn ?_;rfl));refine aa hq ?_;clear hq;obtain⟨a,b⟩:=q;unfold zx;dsimp only;rw[hb',Bool.or_false];exact cQ h (λe h=>aL h (if_pos e)) λe h=>(if_neg (mT e)).trans (cQ h (λe h=>aL h (if_pos e)) λe h=>(if_neg (mT e)).trans (cQ h (λe h=>aL h (if_pos e)) λe h=>(if_neg (mT e)).trans
  (cQ h (λe h=>aL h (if_pos e)) λe h=>(if_neg (mT e)).trans (cQ h (λ_ h=>nomatch h) λe h=>aL h (if_neg (mT e))))))
theorem zy{l:Addr}{vs:List W2}{k:Int}{t:Tok}{v:W2}{j:Nat}{Q:Unit->Xd->Prop}(hl:s.heap.PlainList l ⟨vs⟩)(hlen:vs.length<=aD+1)(hj:j<vs.length)(h0:0<=k->j=k.toNat)(h1:k<0->j=(k+vs.length).toNat/\-(vs.length:Int)<=k)
  (hQ:∀h',h'.PlainList l ⟨vs.set j v⟩->XC l s.heap h'->Q () {s with heap:=h'}) :
  Xf (Xe prog w) A (setItem (.ref l) (.int k t) v) Q E s:=by
 have hm:aD=4096:=rfl;obtain⟨ne,ho⟩:=hl;have hl:s.heap.IsList l ⟨vs⟩:=(dl _ ho rfl _ rfl);have hx':(⟨vs⟩:Array W2)[j]?=some vs[j]:=by rw[jY];exact Xo hj
 have hfin:(s.heap.update l (Y2 (·.setIfInBounds j v))).PlainList l ⟨vs.set j v⟩:=by
  obtain⟨n',hd'⟩:=Obj.data_mapSeq (o:={cls:=.type "list",data:=.seq ⟨vs⟩ ne}) rfl (·.setIfInBounds j v);refine⟨n',?_⟩;rw[Zz _ ho (Obj.isFreed_of_seq hd')];have e:(Y2 (·.setIfInBounds j v) ({cls:=.type "list",data:=.seq ⟨vs⟩ ne}:Obj)).data=.seq ⟨vs.set j v⟩ n':=by rw[hd'];simp
  have e2:Y2 (·.setIfInBounds j v) ({cls:=.type "list",data:=.seq ⟨vs⟩ ne}:Obj)={cls:=.type "list",data:=(Y2 (·.setIfInBounds j v) ({cls:=.type "list",data:=.seq ⟨vs⟩ ne}:Obj)).data}:=rfl;rw[e2,e]
 unfold setItem
 try with_reducible refine XQ ?_
 first | refine El (Ev ?_) | skip
 refine El (wpAny_sequenceKey hl.typeIs (by decide) ?_);refine El (wpAny_callSpecial?_slot (name:=YA "__setitem__") hl.typeIs slot_list_setitem
  (wpAny_call_entry slot_list_setitem hl.typeIs entry_list_setitem ?_ (args_list_setitem _ _ _)))
 show Xf _ _ (Xp.List.listSubscript? (.int k t) >>= _) _ _ s;have fin:Xf (Xe prog w) A.in1 (setSeqItemAt l j v >>= λ_=>ret .none) (λf s'=>∃v,f=Fin.done (.ret v)/\Xf (Xe prog w) A (pure ()) Q E s') E s:=by
  refine El (wpAny_setSeqItemAt ho rfl ?_);exact Ev (ah (.none) rfl (Ev (hQ _ hfin (Yt ..))))
 by_cases hk:k<0
 ·obtain⟨e1,e2⟩:=h1 hk;refine El (wpAny_listSubscript_int (fitsIndex_neg hk (by exact GE hlen hm e2)) ?_);have hidx:=seqIndex_neg hk e2;obtain⟨q,rfl⟩:∃q:Nat,k=Int.negSucc q:=by
   clear h0 h1 e1 hidx;cases k with
   | ofNat n=>exact absurd hk (Int.not_lt.mpr (XM n))
   | negSucc n=>exact⟨n,rfl⟩
  show Xf _ _ ((Xp.List.listItems (.ref l) >>= λxs=>pure ((ZR (Int.negSucc q) xs.size).bind λi=>xs[i]?.map (i,·))) >>= _) _ _ s;refine El (El ?_);show Xf _ _ (seqItems? (.ref l) >>= _) _ _ s;refine El (YY ho rfl (Ev (Ev ?_)));refine aa (show(⟨vs⟩:Array W2).size=vs.length from rfl) (aa hidx (aS e1 ?_));simp only[Zt,hx',Option.map_some];exact fin
 ·have e1:=h0 (by exact nJ hk);refine El (wpAny_listSubscript_int (fitsIndex_of (by exact nJ hk) (by exact wU hlen hj hm e1)) ?_);obtain⟨q,rfl⟩:=Int.eq_ofNat_of_zero_le (show 0<=k by exact nJ hk);simp only[Int.toNat_natCast]at e1;clear hQ hfin h0 h1 hk;subst e1;show Xf _ _ ((seqItemAt l j >>= λr=>pure (r.map (j,·))) >>= _) _ _ s;refine El (El (wpAny_seqItemAt ho rfl (Ev ?_)));rw[hx'];exact fin
structure lV(prog:Y3)(w:aal)(K:Frag)(mg:Str->Option W2)(m:Nat):Prop where
 app:∀{s:Xd}{b:Addr}{vs:List W2}{n:Nat}{A:Zp},s.heap.get? b=some {cls:=.type "list",data:=.seq ⟨vs⟩ n}->A.handled=none->
  Xf (Xe prog w) A (getAttr (.ref b) "append" true) (λv s'=>∃d,v=.ref d/\ae X0 s s'/\s.heap.get? d=none/\s'.heap.get? d=some (jx b)) nr s
 acc:∃a,mg (⟨⟨kL⟩⟩:Str)=some (.ref a)/\∀{c:aj}{env:Env}{ρ:ai}{σ σ1:S}{s:Xd}{A:Zp}{z:Int}{p:Pos}{e:Expr},ak K c env ρ σ s->az m A->
  YD [e] env=[(false,eval e env)]->Xf (Xe prog w) A (eval e env) (bf K c env ρ s (.val (.int z)) σ1) nr s->
  Xf (Xe prog w) A (callWith p (.ref a) [] [(false,eval e env)] []) (λv s'=>∃b c',v=.ref b/\c'.cells=c.cells++[b]/\bH s.heap c c'/\ae (XE c) s s'/\ak K c' env ρ (σ1++[⟨some z,[]⟩]) s') nr s
theorem qA{X:Str}{q:Nat}(h:mG ρ X=some q):ax (nm X) eM=false/\aB ρ (nm X)=some (.cell q):=
 ab h λ_ hp h=>aK hp λhd hp=>⟨jZ hd,nV h▸hp⟩
theorem mU{q:Nat}{l:List AV}(h:lO σ q=some l):bP σ q=some ⟨none,l⟩:=by
 refine ab h λcl hc h=>?_;obtain⟨ac,l'⟩:=cl;cases ac with
 | none=>exact W9 h▸hc
 | some _=>exact aT (h:none=some l)
theorem KQ{e:Expr}{q:Str×Str}(h:to e=some q):∃rp ap,e=.Attribute (.Name q.1 rp) q.2 ap:=
 ab h λz hz h=>ab h λr hr h=>aL h (al (iS hr) λrp e=>(dZ rp z.2.2 (e▸sZ hz)))
theorem KR{e z:Expr}(h:tm ρ x e=some (some z))(hs:aQ x env):∃f fp cp,e=.Call (.Name f fp) [z] [] cp/\nm f=kL/\env.kindOf f=some .globalImplicit:=by
 refine dn h (λq hq h=>dn h (λf hf h=>ab h λy hy h=>aK h λg h=>?_) λ_ h=>by cases h) λ_ h=>by cases h
 cases h;have g:=W8.mp g;refine al (iS hf) λfp e=>?_;have hk:=qm (kT x.sc f▸g.2);rw[hs.1]at hk;exact⟨f,fp,q.2.2,by rw[xI hq,e,dT hy],aW.mp (W8.mp g.1).1,hk⟩
theorem zD{X:Str}{t:PV}{v:W2}{c':aj}(hr:eN env.scope ρ X t=some ρ1)(G:bH s.heap c c')(X1:ae (XS c env) s s1)(I1:ak K c' env ρ σ1 s1)(r:bN c' s1.heap t v):Xf (Xe prog w) A (storeName env X v) (λ_ s'=>bU K c env s .next ρ1 σ1 .next s') nr s1:=
 KE (gJ hr I1 r) (λ_ s2 q=>(dH c' G (X1.trans (q.1.weaken λ_ h=>XS.own h)) q.2 rfl)) no
theorem KS(N:lV prog w K mg m)(hs:aQ x env){X r M:Str}{xp rp ap p:Pos}{q:Nat}{l:List AV}(hq:mG ρ r=some q)(hm:nm M=jP)(hl:lO σ q=some l)(hr:eN x.sc ρ X (.app q)=some ρ1)(I:ak K c env ρ σ s)(R:az (m+x.gen) A) :
  Xf (Xe prog w) A (exec (.Assign [.Name X xp] (.Attribute (.Name r rp) M ap) p) env) (bU K c env s .next ρ1 σ) nr s:=by
 rw[hs.1]at hr;have hq:=qA hq;refine aa (show M="append" from cF hm) (Zj (PyProof.Rows.Attribute_name (KE (mQ hq.1 hq.2 I) (λv s1 q1=>?_) no)));refine af q1.2.2 λb hb e=>eQ (q1.2.1.cells.at (mU hl) hb) λzz vs n g zz=>aa (e) (KE (Ys q1.2.1.tk (N.app g R.1)) (λv s2 q2=>?_) λ_ _ f=>f.2.elim);exact Dx q2 λtk d e2 X2 dead gd=>aA e2 (zD hr (bH.refl _ _) ((q1.1.trans X2.x0).weaken λ_ h=>.inl h) (q1.2.1.keep0 X2 tk) ⟨b,d,hb,rfl,(λh=>by refine al (q1.2.1.cfg.live d h) λo e=>?_;injection (dead.symm.trans e)),gd⟩)
theorem KT(N:lV prog w K mg m)(O:dh prog w K mg T m){n:Nat}(P:ce prog w K T m n)(ht:x.tab=T)(hs:aQ x env){X:Str}{xp p:Pos}{e z:Expr}{i:Int}(ha:tm ρ x e=some (some z))
  (he:pe n x ρ σ z=some (.val (.int i),σ1))(hr:eN x.sc ρ X (.cell σ1.length)=some ρ1)(I:ak K c env ρ σ s)(R:az (m+x.gen) A) :
  Xf (Xe prog w) A (exec (.Assign [.Name X xp] e p) env) (bU K c env s .next ρ1 (σ1++[⟨some i,[]⟩])) nr s:=by
 rw[hs.1]at hr;refine fJ (KR ha hs) λf fp cp e1 hf hk=>?_;have hF:f=⟨⟨kL⟩⟩:=cF hf;rw[hF]at e1 hk;refine aa (e1) (af N.acc λa ha hN=>Zj ?_);show Xf _ A (do callWith cp (<-eval (.Name _ fp) env) [] (aae cp (YD [z] env)) []) _ _ s;have hst:YD [z] env=[(false,eval z env)]:=kW he;refine aa (hst) (El (Xx I.env.kind hk (YX (iw O I) ha (KE (hN I (R.mono (XX ..)) hst (P ht hs he I R)) (λv s1 q=>?_) no)) (by decide)));refine sj q λb c' ev hcs G X1 I1=>?_;have hlen:=I1.cells.length;rw[hcs,Om,Om]at hlen;exact aA ev (zD hr G (X1.weaken λ_ h=>.inl h) I1 (ah b (by rw[hcs,<-Nat.add_right_cancel hlen];simp) rfl))
theorem zE:∀{ys:List Str}{vs:List AV}{us:List W2}{ρ ρ1:ai}{s:Xd},ju env.scope ρ ys vs=some ρ1->ak K c env ρ σ1 s->aq c s.heap vs us->
  Xf (Xe prog w) A (assignInOrder (ys.map λn=>bindName env n) us) (λ_ s'=>ae (cy env) s s'/\ak K c env ρ1 σ1 s') nr s
 | [],vs,us,ρ,ρ1,s,h,I,r=>aK h λe h=>aL h (by
  rw[jv e,aq]at r;refine aa (r) ?_;exact wpAny_assignInOrder_none ⟨ae.refl _ _,I⟩)
 | Y::ys,vs,us,ρ,ρ1,s,h,I,r=>bT h λv ws e h=>ab h λρ2 h1 h=>by
  refine bb ((nW e▸r:aq c s.heap (v::ws) us)) λu us' e' p q=>aa (e') ?_;exact wpAny_assignInOrder_more (bindName_ (KE (gJ h1 I p) (λ_ s1 q1=>have X1:=q1.1.weaken λ_ o=>o.own;KE (zE h q1.2 (q.keep (I.kdOwn X1))) (λ_ s2 q2=>⟨X1.trans q2.1,q2.2⟩) no) no))
theorem KU(ts:List Expr)(k:Nat)(tp:Pos)(e:Expr)(l:Nat)(env:Env):swapsWithSole [.Tuple ts k tp] e l env=pure false:=by cases e<;>rfl
theorem KV{n:Nat}(P:ce prog w K T m n)(ht:x.tab=T)(hs:aQ x env){ts:List Expr}{k:Nat}{tp p:Pos}{e:Expr}{o:bG}(h:xQ n x ρ σ (.Tuple ts k tp) ts e=some (o,ρ',σ'))(I:ak K c env ρ σ s)(R:az (m+x.gen) A) :
  Xf (Xe prog w) A (exec (.Assign [.Tuple ts k tp] e p) env) (bU K c env s o ρ' σ') nr s:=by
 refine ab h λxs hx h=>cG h λa σ1 he h=>ab h λvs hv h=>ab h λsw hsw h=>?_;rw[hs.1]at hsw h;have hbk:env.blockKind=.function:=by unfold Env.blockKind;rw[I.env.kind];rfl
 have hsw':=KP hbk hsw;have hsole:=KU ts k tp e p.line env;cases sw with
 | none=>
  refine ab h λρ1 hr h=>dN h (Assign_Tuple (KE (P ht hs he I R) (λv s1 q1=>?_) no) hsole hsw');exact af (qt (prog:=prog) (w:=w) (A:=A) (tg:=.Tuple ts k tp) (a:=a) (ba hv (ba hx hr)) q1.2.1 q1.2.2 R.1) λys zz wb=>KE wb (λ_ s2 q2=>(dH c (bH.refl _ _) ((q1.1.weaken λ_ h=>.inl h).trans (q2.1.weaken λ_ zq2=>af zq2 λzz zz o=>XS.own o)) q2.2 rfl)) no
 | some names=>
  refine ab h λρ1 hr h=>dN h (Assign_Tuple_swapped (KE (P ht hs he I R) (λv s1 q1=>?_) no) hsole hsw');refine b5 (mN hv q1.2.2) λb us nn e hxb g hl rr=>?_;have hlen:=uu hr;rw[List.length_reverse,List.length_reverse]at hlen;refine aa (e) (aa (show names.length=(⟨us⟩:Array W2).size from hlen.trans rr.length.symm) (unpackItems_tuple R.1 (dl _ g rfl _ rfl) (λh' hs'=>?_)));have X2:ae X0 s1 {s1 with heap:=h'}:=ae.kept (λy o e=>hs' y o (XZ (Xm e)) e) rfl id;exact KE (zE hr (q1.2.1.keep0 X2 q1.2.1.tk) ((rr.keep (.of0 X2.all)).reverse)) (λ_ s3 q3=>(dH c (bH.refl _ _) (((q1.1.trans X2.x0).weaken λ_ h=>.inl h).trans (q3.1.weaken λ_ h=>.inr h)) q3.2 rfl)) no
theorem uK{q:Nat}{b:Addr}{l l':List AV}{vs':List W2}{h':Heap}(I1:ak K c env ρ σ1 s1)(X:ae (XE c) s s1)(hq:c.cells[q]?=some b)(hc:bP σ1 q=some ⟨none,l⟩)(hl:l'.length<=aD+1)(hp:h'.PlainList b ⟨vs'⟩)(hs:XC b s1.heap h')(rr:aq c s1.heap l' vs') :
  bU K c env s .next ρ (dg σ1 q ⟨none,l'⟩) .next {s1 with heap:=h'}:=
 have st:=I1.store (cl':=⟨none,l'⟩) hq hc hs (al hp λzz e=>⟨_,e⟩) (λkd=>al hp λny gy=>⟨hl,_,ny,gy,rr.keep kd⟩) s1.toks I1.tk
 (dH c (bH.refl _ _) ((X.trans st.1).weaken λ_ h=>.inl h) st.2 rfl)
theorem KW{n:Nat}(P:ce prog w K T m n)(ht:x.tab=T)(hs:aQ x env){X:Str}{xp sp p:Pos}{i e:Expr}{o:bG}(h:tu n x ρ σ X i e=some (o,ρ',σ'))(I:ak K c env ρ σ s)(R:az (m+x.gen) A) :
  Xf (Xe prog w) A (exec (.Assign [.Subscript (.Name X xp) i sp] e p) env) (bU K c env s o ρ' σ') nr s:=by
 refine ab h λq hq h=>cG h λv σ1 he h=>cG h λkv σ2 hi h=>ab h λk hk h=>ab h λl hl h=>aK h λhkl h=>dN h ?_;have hq:=qA hq;have hc:=mU hl;have hsw:swapsWith e (some (.Subscript (.Name X xp) i sp)) p.line env=pure false:=by clear he;cases e<;>rfl
 refine wpAny_Assign_Subscript (KE (P ht hs he I R) (λu s1 q1=>KE (mQ hq.1 hq.2 q1.2.1) (λov s2 q2=>KE (P ht hs hi q2.2.1 R) (λiv s3 q3=>?_) no) no) no) hsw;refine af q2.2.2 λb hb eb=>al (n7 hk q3.2.2) λt ei=>eQ (q3.2.1.cells.at hc hb) λhl vs nn g rr=>aa (eb) (aa (ei) ?_);exact zy ⟨nn,g⟩ (rr.length▸hl:vs.length<=aD+1) (rr.length▸Za.mp hkl:k<vs.length) (λ_=>rfl) (λh=>absurd h (Int.not_lt.mpr (XM _))) (λh' hp hsb=>
  uK q3.2.1 ((q1.1.trans q2.1).trans q3.1) hb hc ((tR ..).symm▸hl) hp hsb (rr.setAt (((q1.2.2:ao c s1.heap v u).keep (q1.2.1.kd q2.1)).keep (q2.2.1.kd q3.1))))
theorem KX{n:Nat}(P:ce prog w K T m n)(ht:x.tab=T)(hs:aQ x env){X:Str}{xp sp p:Pos}{i:Expr}{o:bG}(h:xU n x ρ σ X i=some (o,ρ',σ'))(I:ak K c env ρ σ s)(R:az (m+x.gen) A) :
  Xf (Xe prog w) A (exec (.Delete [.Subscript (.Name X xp) i sp] p) env) (bU K c env s o ρ' σ') nr s:=by
 refine ab h λq hq h=>cG h λkv σ1 hi h=>ab h λk hk h=>ab h λl hl h=>aK h λhkl h=>dN h ?_;have hq:=qA hq;have hc:=mU hl;rw[arm_exec_Delete];refine El (Yq (El ?_));skip;refine El (delete_Subscript (KE (mQ hq.1 hq.2 I) (λov s2 q2=>KE (P ht hs hi q2.2.1 R) (λiv s3 q3=>?_) no) no));refine af q2.2.2 λb hb eb=>al (n7 hk q3.2.2) λt ei=>eQ (q3.2.1.cells.at hc hb) λhl vs nn g rr=>?_;have hkv:k<vs.length:=rr.length▸Za.mp hkl;have hlv:vs.length<=aD+1:=rr.length▸hl;refine aa (eb) (aa (ei) (wpAny_delItem_plain (k:=k) ⟨nn,g⟩ (fitsIndex_of (XM _) (Y7.mpr (Yj hkv (W6 hlv (by decide))))) (ua hkv) (λh' hp hsb=>Ev (Ev ?_)) (W6 hlv (by decide))));have e1:(⟨vs⟩:Array W2).eraseIdxIfInBounds k=⟨vs.take k++vs.drop (k+1)⟩:=by
  unfold Array.eraseIdxIfInBounds;refine aa (dif_pos (show k<(⟨vs⟩:Array W2).size from hkv)) ?_;apply Array.ext';simp[List.eraseIdx_eq_take_drop_succ]
 rw[e1]at hp;exact uK q3.2.1 (q2.1.trans q3.1) hb hc (W6 (by rw[<-List.eraseIdx_eq_take_drop_succ];exact List.length_eraseIdx_le ..) hl) hp hsb ((rr.take k).append (rr.drop (k+1)))
theorem KY{n:Nat}{i:Expr}{t:PV}(h:pe n x ρ σ i=some (t,σ'))(ov iv new:W2):augStore i ov iv new=(do holding [new,ov,iv] (setItem ov iv new);release [new,ov,iv] [];pure .next):=by
 cases n with
 | zero=>exact aT (h:none=some (t,σ'))
 | succ n=>cases i<;>first | rfl | exact aT (h:none=some (t,σ'))
theorem KZ{n j:Nat}{k:Int}(h:xS n k=some j):(0<=k->j=k.toNat)/\(k<0->j=(k+n).toNat/\-(n:Int)<=k):=by
 cases k with
 | ofNat jj=>exact aL h ⟨λ_=>rfl,λh=>absurd h (Int.not_lt.mpr (XM _))⟩
 | negSucc mm=>
  refine aK h λhm h=>aL h ⟨λh=>absurd (Int.negSucc_lt_zero mm) (Int.not_lt.mpr h),λ_=>?_⟩;have hm:=Za.mp hm;rw[Int.negSucc_eq];exact GF hm
theorem K1{n:Nat}(P:ce prog w K T m n)(ht:x.tab=T)(hs:aQ x env){X:Str}{xp sp p:Pos}{i e:Expr}{op:Z8}{o:bG}(h:xT n x ρ σ X i op e=some (o,ρ',σ'))(I:ak K c env ρ σ s)(R:az (m+x.gen) A) :
  Xf (Xe prog w) A (exec (.AugAssign (.Subscript (.Name X xp) i sp) op e p) env) (bU K c env s o ρ' σ') nr s:=by
 refine ab h λq hq h=>cG h λkv σ1 hi h=>ab h λk hk h=>ab h λl hl h=>ab h λj hj h=>ab h λa ha h=>cG h λb σ2 he h=>ab h λv hb h=>ab h λl2 hl2 h=>aK h λhll h=>dN h ?_;have hq:=qA hq;have hjk:=KZ hj;have hjl:j<l.length:=(Yh.mp (kP l j▸ha:l[j]?=some a)).1;have hll:=XF hll;refine wpAny_AugAssign_Subscript_any (KE (mQ hq.1 hq.2 I) (λov s1 q1=>KE (P ht hs hi q1.2.1 R) (λiv s2 q2=>?_) no) no) (KY hi);refine af q1.2.2 λbd hbd eb=>al (fL hk q2.2.2) λt ei=>eQ (q2.2.1.cells.at (mU hl) hbd) λhl vs nn g rr=>af (rr.nth ha) λu hu ru=>?_;have hlen:vs.length=l.length:=rr.length;refine aa (eb) (aa (ei) (qh g (hlen▸hl) hu (hlen▸hjl) hjk.1 (hlen▸hjk.2) (KE (P ht hs he q2.2.1 R) (λz s3 q3=>KE (Ys q3.2.1.tk (zr (prog:=prog) (w:=w) (A:=A) hb (ru.keep (q2.2.1.kd q3.1)) q3.2.2)) (λy s4 q4=>?_) λ_ _ f=>f.2.elim) no)));have I4:=q3.2.1.keep0 q4.2.1 q4.1;refine eQ (I4.cells.at (mU hl2) hbd) λhl3 vs3 nn3 g3 rr3=>?_;have hlen3:vs3.length=l.length:=rr3.length.trans hll;exact zy ⟨nn3,g3⟩ (rr3.length▸hl3:vs3.length<=aD+1) (hlen3▸hjl) hjk.1 (hlen3▸hjk.2) (λh' hp hsb=>
  uK I4 (((q1.1.trans q2.1).trans q3.1).trans q4.2.1.x0) hbd (mU hl2) ((tR ..).symm▸hl3) hp hsb (rr3.setAt q4.2.2))
theorem zF{n:Nat}(all:∀n,fM prog w K T m n)(ht:x.tab=T)(hs:aQ x env){X:Str}{xp p:Pos}{e:Expr}{o:bG}(h:td n x ρ σ X e=some (o,ρ',σ'))(I:ak K c env ρ σ s)(R:az (m+x.gen) A) :
  Xf (Xe prog w) A (exec (.Assign [.Name X xp] e p) env) (bU K c env s o ρ' σ') nr s:=
 cG h λv σ1 he h=>ab h λρ1 hr h=>dN h (KH all ht hs he hr I R)
theorem K2{n:Nat}(O:dh prog w K mg T m)(N:lV prog w K mg m)(all:∀n,fM prog w K T m n)(ht:x.tab=T)(hs:aQ x env){X:Str}{xp p:Pos}{e:Expr}{o:bG}(h:xN n x ρ σ X e=some (o,ρ',σ'))(I:ak K c env ρ σ s)(R:az (m+x.gen) A) :
  Xf (Xe prog w) A (exec (.Assign [.Name X xp] e p) env) (bU K c env s o ρ' σ') nr s:=
 cQ h (λ_ h=>cQ h (λe h=>al (Ih e) λzz e=>ab h λρ1 hr h=>dN h (aA e (KN hs hr I)))
   λ_ h=>ab h λz hz h=>dn h (λz ez h=>cG h λa σ1 he h=>ab h λi ei h=>ab h λρ1 hr h=>dN h (KT N O (all n).pe ht hs (ez▸hz) (pU ei▸he) hr I R)) λ_ h=>zF all ht hs h I R)
  λ_ h=>dn h (λq hq h=>iH (KQ hq) λzz zz e=>ab h λk hk h=>aK h λhm h=>ab h λl hl h=>ab h λρ1 hr h=>dN h (aA e (KS N hs hk (aW.mp hm) hl hr I R))) λ_ h=>zF all ht hs h I R
theorem K3{n:Nat}(O:dh prog w K mg T m)(N:lV prog w K mg m)(all:∀n,fM prog w K T m n)(ht:x.tab=T)(hs:aQ x env){ts:List Expr}{e:Expr}{p:Pos}{o:bG}(h:pex (n+1) x ρ σ (.Assign ts e p)=some (o,ρ',σ'))(I:ak K c env ρ σ s)(R:az (m+x.gen) A) :
  Xf (Xe prog w) A (exec (.Assign ts e p) env) (bU K c env s o ρ' σ') nr s:=by
 refine ab h λt et h=>aa (dT et) ?_;have sub:∀{t},(bo (nZ t) λq=>tu n x ρ σ q.1 q.2 e)=some (o,ρ',σ')->Xf (Xe prog w) A (exec (.Assign [t] e p) env) (bU K c env s o ρ' σ') nr s:=λh=>ab h λq hq h=>iH (ty hq) λzz zz e=>aA e (KW (all n).pe ht hs h I R);cases t with
 | Name X xp=>exact K2 O N all ht hs h I R
 | Tuple es k tp=>exact KV (all n).pe ht hs h I R
 | Subscript=>exact sub h
 | _=>exact aT (h:none=some (o,ρ',σ'))
theorem K4{n:Nat}(all:∀n,fM prog w K T m n)(ht:x.tab=T)(hs:aQ x env){t e:Expr}{op:Z8}{p:Pos}{o:bG}(h:pex (n+1) x ρ σ (.AugAssign t op e p)=some (o,ρ',σ'))(I:ak K c env ρ σ s)(R:az (m+x.gen) A) :
  Xf (Xe prog w) A (exec (.AugAssign t op e p) env) (bU K c env s o ρ' σ') nr s:=
 dn h (λX hX h=>al (iS hX) λzz e=>aA e (ab h λhp hn h=>ab h λa ea h=>cG h λb σ1 he h=>ab h λv hb h=>ab h λρ1 hr h=>dN h (KL (all n).pe ht hs (jU ea▸hn) he hb hr I R)))
  λ_ h=>ab h λq hq h=>iH (ty hq) λzz zz e=>aA e (K1 (all n).pe ht hs h I R)
variable(prog w K T m) in
structure fD(n:Nat):Prop where
 pex:qy prog w K T m n
 pst:k7 prog w K T m n
 wh:uI prog w K T m n
theorem K5{n:Nat}(O:dh prog w K mg T m)(N:lV prog w K mg m)(all:∀n,fM prog w K T m n)(a:fD prog w K T m n):qy prog w K T m (n+1):=by
 intro x c env ρ σ st o ρ' σ' s A ht hs h I R;cases st with
 | Assign ts e p=>exact K3 O N all ht hs h I R
 | AugAssign t op e p=>exact K4 all ht hs h I R
 | Delete ts p=>exact ab h λt et h=>aA (dT et) (ab h λq hq h=>iH (ty hq) λzz zz e=>aA e (KX (all n).pe ht hs h I R))
 | If q b e p=>exact KC ((all n).pt) a.pst ht hs h I R
 | While q b e p=>
  cases e with
  | nil=>exact wpAny_While (aah (zq ((all n).pt) a.pst a.wh ht hs h I R) λr s' zq6=>af zq6 λf e q=>by refine aa e ?_;exact q)
  | cons=>exact aT (h:none=some (o,ρ',σ'))
 | For tg it b e p=>
  cases e with
  | nil=>exact KM ((all n).pe) a.pst ht hs h I R
  | cons=>exact aT (h:none=some (o,ρ',σ'))
 | Return e p=>exact KD ((all n).pe) ht hs h I R
 | Assert q e p=>exact KF ((all n).pt) ht hs h I R
 | Break p=>exact dN h (wpAny_Break (dH c (bH.refl _ _) (ae.refl _ s) I rfl))
 | Continue p=>exact dN h (wpAny_Continue (dH c (bH.refl _ _) (ae.refl _ s) I rfl))
 | Pass p=>exact dN h (wpAny_Pass (dH c (bH.refl _ _) (ae.refl _ s) I rfl))
 | Expr e p=>exact KK ((all n).pe) ht hs h I R
 | _=>exact aT (h:none=some (o,ρ',σ'))
theorem zG(O:dh prog w K mg T m)(N:lV prog w K mg m)(all:∀n,fM prog w K T m n):∀n,fD prog w K T m n
 | 0=>⟨λ_ _ h=>(nomatch h),λ_ _ h=>(nomatch h),λ_ _ h=>(nomatch h)⟩
 | n+1=>
  have a:=zG O N all n
  ⟨K5 O N all a,KB a.pex a.pst,zq ((all n).pt) a.pst a.wh⟩
structure j5(K:Frag)(fd:Yz)(body:List Stmt):Prop where
 stmts:fd.body=.stmts body
 closure:fd.closure=[]
 globals:fd.globals=Xj
 builtins:fd.builtins=Yi
 kind:fd.scope.kind=.function
 once:once fd.scope.names=true
 free:gY fd.scope.names=true
 co:fd.scope.isCoroutine=false
 gen:fd.scope.isGenerator=false
 code:∃cd o vs t,fd.code=.ref cd/\K.lookup cd=some o/\¬aG cd/\o.data=.fields vs/\vs[1]?=some (.str fd.qualname t)
 bind:∀us:List W2,us.length=fd.params.args.length->bindArgs fd ⟨us,[]⟩=pure ((fd.params.args.map (·.arg)).zip us)
 own:∀y∈fd.params.args,(fd.scope.names.lookup y.arg=some .local\/fd.scope.names.lookup y.arg=some .cell)
 apart:(fd.params.args.map (·.arg)).Nodup
theorem K6{names:List (Str×Yl)}{X:Str}(h:gY names=true):(X,NameKind.free)∉names:=λhm=>absurd (YP.mp h _ hm) (by decide:¬(!nP NameKind.free)=true)
theorem zH{kindOf:Str->Option Yl}{X:Str}{v:W2}:∀{binds:List (Str×W2)}{mm:Str->Option W2},(binds.map (·.1)).Nodup->(X,v)∈binds->kindOf X=some .local->bindL kindOf binds mm X=some v
 | (n,u)::r,mm,nd,hm,hk=>by
  rw[YE,List.nodup_cons]at nd;dsimp only[bindL];rcases Xk.mp hm with e | e
  ·cases e;refine aa (if_pos hk) ?_;have keep:∀{r:List (Str×W2)}{m2:Str->Option W2},X∉r.map (·.1)->bindL kindOf r m2 X=m2 X:=by
    intro r;induction r with
    | nil=>intro m2 _;rfl
    | cons p r ih=>
     intro m2 hn;obtain⟨y,z⟩:=p;rw[YE,Xk,not_or]at hn;skip;refine aa (ih hn.2) ?_;split
     ·show(if X=y then _ else _)=_;rw[if_neg hn.1]
     ·rfl
   refine aa (keep nd.1) ?_;show(if X=X then some v else mm X)=_;rw[if_pos rfl]
  ·exact zH nd.2 e hk
theorem zJ{kindOf:Str->Option Yl}{X:Str}{v:W2}:∀{binds:List (Str×W2)}{mm:Str->Option W2},(binds.map (·.1)).Nodup->(X,v)∈binds->kindOf X≠some .local->bindC kindOf binds mm X=some v
 | (n,u)::r,mm,nd,hm,hk=>by
  rw[YE,List.nodup_cons]at nd;dsimp only[bindC];rcases Xk.mp hm with e | e
  ·cases e;refine aa (if_neg hk) ?_;have keep:∀{r:List (Str×W2)}{m2:Str->Option W2},X∉r.map (·.1)->bindC kindOf r m2 X=m2 X:=by
    intro r;induction r with
    | nil=>intro m2 _;rfl
    | cons p r ih=>
     intro m2 hn;obtain⟨y,z⟩:=p;rw[YE,Xk,not_or]at hn;skip;refine aa (ih hn.2) ?_;split
     ·rfl
     ·show(if X=y then _ else _)=_;rw[if_neg hn.1]
   refine aa (keep nd.1) ?_;show(if X=X then some v else mm X)=_;rw[if_pos rfl]
  ·exact zJ nd.2 e hk
noncomputable def fg:List Arg->List PV->ai
 | a::as,t::ts=>(nm a.arg,t)::fg as ts
 | _,_=>[]
theorem zK{h:Heap}:∀{as:List Arg}{ts:List PV}{us:List W2}{X:Str}{t:PV},dM c h ts us->aB (fg as ts) (nm X)=some t->∃v,(X,v)∈(as.map (·.arg)).zip us/\bN c h t v/\∃a∈as,a.arg=X
 | [],_,_,_,_,_,e=>aT e
 | _::_,[],_,_,_,_,e=>aT e
 | a::as,t0::ts,us,X,t,zp1,e=>by
  refine bb zp1 λv r e1 p q=>aa e1 ?_;show ∃v',(X,v')∈(a.arg,v)::(as.map (·.arg)).zip r/\_;refine fA (p:=(nm a.arg,t0)) e (λh1 e=>?_) λe=>?_
  ·cases W9 e;exact cF (aW.mp h1)▸⟨v,Xh,p,a,Xh,rfl⟩
  ·exact wg (zK q e) λv' h1 h2 a' h3 h4=>⟨v',Xc _ h1,h2,a',Xc _ h3,h4⟩
theorem uL{fd:Yz}{body:List Stmt}(D:j5 K fd body){a:Addr}{ts:List PV}{us:List W2}{cN:aj}(B:aC K s.heap)(hlen:us.length=fd.params.args.length)(tk:1<=s1.toks)
  (X:InCallC s (Xz fd s.heap.objs.size a).locals (bindL (Xz fd s.heap.objs.size a).kindOf ((fd.params.args.map (·.arg)).zip us) λ_=>none) (Xz fd s.heap.objs.size a).cells
    (bindC (Xz fd s.heap.objs.size a).kindOf ((fd.params.args.map (·.arg)).zip us) λ_=>none) s1)
  (C:bW cN s.heap)(hr:dM cN s.heap ts us)(hcells:b8 cN s.heap cN.cells σ)(hfr:∀b,cy (Xz fd s.heap.objs.size a) b->cN.fr b) :
  ae X0 s s1/\ak K cN (Xz fd s.heap.objs.size a) (fg fd.params.args ts) σ s1:=by
 obtain⟨⟨h',tkk,e⟩,_,keep,_⟩:=id X.toInCall;have X0':ae X0 s s1:=ae.kept keep (by rw[e]) (by rw[e];exact id);have hk:(Xz fd s.heap.objs.size a).scope=fd.scope:=rfl;have hL:(Xz fd s.heap.objs.size a).locals=s.heap.objs.size:=rfl;have hcl:(Xz fd s.heap.objs.size a).cells=YZ (s.heap.objs.size+1) fd.scope.names []:=rfl;have nd:(((fd.params.args.map (·.arg)).zip us).map (·.1)).Nodup:=by
  refine aa (List.map_fst_zip (by rw[W7,hlen];exact Xs _)) ?_;exact D.apart
 refine⟨X0',⟨B.keep0 X0'.all,C.keep X0'.live,⟨D.kind,D.globals,D.builtins,λY t ht=>?_,⟨_,X.toInCall.ns⟩,λY hY=>?_,λY Z b h1 h2=>?_,⟨B.size,λY b h=>?_⟩,hfr⟩,hcells.keep0 X0'.all,tk⟩⟩
 ·refine wg (zK hr ht) λv hm hp y hy zr5=>?_;subst zr5;refine(ah v ?_ (hp.keep (.of0 X0'.all)));rcases D.own y hy with hloc | hcell
  ·exact .inl (fw hloc _ X.toInCall.ns (zH nd hm hloc))
  ·have hne:(Xz fd s.heap.objs.size a).kindOf y.arg≠some .local:=by
    intro q;have q':fd.scope.names.lookup y.arg=some .local:=q;rw[hcell]at q';exact absurd q' (by decide)
   refine al (j0 (n:=s.heap.objs.size+1) (mem_of_lookup hcell)) λb hb=>?_;have hb':(Xz fd s.heap.objs.size a).cells.lookup y.arg=some b:=by (refine aa hcl ?_);exact hb
   have:=X.cell _ _ hb';rw[zJ nd hm hne]at this;exact .inr (fw (.inl hcell) b hb' this)
 ·have hY':fd.scope.names.lookup Y=some .cell:=hY;refine al (j0 (n:=s.heap.objs.size+1) (mem_of_lookup hY')) λb hb=>?_;have hb':(Xz fd s.heap.objs.size a).cells.lookup Y=some b:=by (refine aa hcl ?_);exact hb
  exact(cx b _ hb' (X.cell _ _ hb'))
 ·exact name_of_addr X.apart (mem_of_lookup h1) (mem_of_lookup h2)
 ·have:=X.above _ _ (mem_of_lookup h);rw[hL]at this;exact W6 B.size (Yo this)
theorem ot{h:Heap}:∀{vs:List AV}{us:List W2},aq c h vs us->dM c h (vs.map PV.val) us
 | [],_,r=>r
 | _::_,_,zp1=>by
  exact bb zp1 λv r e p q=>(bM v r e p (ot q))
theorem zL(allP:∀n,fD prog w K T m n){fd:Yz}{body:List Stmt}(D:j5 K fd body){a:Addr}{o:Obj}(ho:K.lookup a=some o)(hd:o.data=.func fd)(hnt:¬aG a)
  {n g:Nat}{own:List (List Nat)}{ts:List PV}{us:List W2}{t:PV}{cN:aj}(hg:g≠0->∃q,GT q/\fd.code=.ref q.1)
  (he:pst n {tab:=T,sc:=fd.scope,own:=own,gen:=g} (fg fd.params.args ts) σ body=some (.ret t,ρ',σ'))
  (B:aC K s.heap)(C:bW cN s.heap)(hr:dM cN s.heap ts us)(hlen:us.length=fd.params.args.length)(hcells:b8 cN s.heap cN.cells σ)(hfr:∀b,cy (Xz fd s.heap.objs.size a) b->cN.fr b)
  (tk:1<=s.toks)(R:az (m+g+1) A) :
  Xf (Xe prog w) A (call (.ref a) us) (λv s'=>∃c',bH s.heap cN c'/\ae (XE cN) s s'/\aC K s'.heap/\b8 c' s'.heap c'.cells σ'/\bN c' s'.heap t v) nr s:=by
 have hcd:s.heap.CodeRec fd.code fd.qualname:=by
  exact jh D.code λcd oc vs tq zc0=>km zc0 λe1 e2 e3 e4 e5=>⟨cd,oc,vs,tq,e1,B.stat cd oc e2 e3,e4,e5⟩
 have hbind:=D.bind us hlen;refine Zr (codeAny_call_function R.depth (B.stat a o ho hnt) hd D.co D.gen D.stmts hcd ?_);refine aa hbind (aa D.closure (Ev (XJ tk (wpAny_newFunctionEnv_cells D.kind (λy hy=>?_) λenv he0 s1 X tk1=>?_))))
 ·refine aw (List.of_mem_zip hy) λh1 zz=>af (Yp.mp h1) λag hag e=>aS e ?_;rcases D.own ag hag with q | q
  ·exact .inl q
  ·refine .inr ⟨q,?_⟩;refine al (j0 (n:=s.heap.objs.size+1) (mem_of_lookup q)) λb hb=>?_
   (refine aa hb ?_);rfl
 ·subst he0;refine⟨B.lim.keeps X.toInCall.keep,codeAny_func ?_⟩;refine aw (uL D B hlen tk1 X C hr hcells hfr) λX1 I1=>?_;have hs:aQ {tab:=T,sc:=fd.scope,own:=own,gen:=g} (Xz fd s.heap.objs.size a):=⟨rfl,hg⟩;refine KE ((allP n).pst rfl hs he I1 R.deeper) (λf s2 r=>?_) no;refine pC r λc' G X2 I2 v zr5 rv=>?_;subst zr5;have newOwn:∀b,cy (Xz fd s.heap.objs.size a) b->s.heap.get? b=none:=λb o=>by
   rcases o with rfl | ⟨Y,_,ea⟩
   ·exact XA (Xs _)
   ·exact XA (Yo (X.above _ _ (mem_of_lookup ea)))
  have G':bH s.heap cN c':=⟨G.θ,G.P,G.pre,λb o e q=>al (X1.live b o e) λo' e'=>G.fr b o' e' q,λb q=>(G.fr' b q).imp id (eT X1.live),G.ex,λb q=>(G.ex' b q).imp id (eT X1.live),af G.cells λnw e1 f1=>(ah nw e1 (λb q=>eT X1.live (f1 b q)))⟩;refine⟨c',G',⟨λb o g nx=>X2.keep b o (X1.all b o g) ?_,λb o g=>X2.live b o (X1.all b o g),X2.os.trans X1.os,X2.gens∘X1.gens⟩,I2.base,I2.cells,rv⟩;rintro(q | q)
  ·exact nx q
  ·rw[newOwn b q]at g;exact aT g
noncomputable def uM(t:PV)(σ:S):Option AV:=oc (ir t) some (bo (kx t) λq=>bo (bP σ q) λc=>gd c.acc.isNone (nL c.items))
theorem K7(allP:∀n,fD prog w K T m n){fd:Yz}{body:List Stmt}(D:j5 K fd body){a:Addr}{o:Obj}(ho:K.lookup a=some o)(hd:o.data=.func fd)(hnt:¬aG a)
  {n g:Nat}{own:List (List Nat)}{vs:List AV}{t:PV}{r:AV}(hg:g≠0->∃q,GT q/\fd.code=.ref q.1)(hlen:vs.length=fd.params.args.length)
  (he:pst n {tab:=T,sc:=fd.scope,own:=own,gen:=g} (fg fd.params.args (vs.map .val)) [] body=some (.ret t,ρ',σ'))(hout:uM t σ'=some r)
  (c:aj)(s:Xd)(us:List W2)(A:Zp)(B:aC K s.heap)(C:bW c s.heap)(hr:aq c s.heap vs us)(tk:1<=s.toks)(R:az (m+g+1) A) :
  Xf (Xe prog w) A (call (.ref a) us) (λv s'=>ae aG s s'/\aC K s'.heap/\ao c s'.heap r v) nr s:=by
 let cN:aj:={c with cells:=[],fr:=λb=>cy (Xz fd s.heap.objs.size a) b}
 have le:aj.Le s.heap c cN:=⟨rfl,rfl,rfl,λ_ _ _ h=>h⟩;have CN:bW cN s.heap:=⟨λ_ h=>(nomatch h),List.nodup_nil,λ_ h=>(nomatch h),C.live,C.theta⟩;refine KE (zL (cN:=cN) (σ:=[]) allP D ho hd hnt hg he B CN (ot (hr.le le)) (by (refine aa hr.length ?_;refine aa hlen ?_;rfl)) trivial (λb h=>h) tk R) (λv s' q=>?_) no;refine ko q λc' G X B' Cs rv=>?_;have back:∀h,aj.Le h c' c:=λh=>⟨G.θ.symm,G.P.symm,G.pre.symm,λb o _ nx q=>nx (G.ex b q)⟩;refine(bR (X.weaken λb h=>h.elim (λh=>(nomatch h)) id) B' ?_);refine dn hout (λa ha hout=>?_) λhn hout=>ab hout λi hi hout=>ab hout λcl hl hout=>aK hout λhz hout=>?_
 ·clear he q;cases jU ha;exact aL hout (ao.le (back s'.heap) rv)
 ·clear he hn;cases bS (P:=λq=>t=.cell q) hi;obtain⟨ac,l⟩:=cl;cases ac with
  | some z=>exact YQ hz
  | none=>
   refine aw (tT hout) λhlen2 zr1=>?_;clear hout;subst zr1;refine af rv λb hb zr2=>?_;clear q rv;subst zr2;refine eQ (Cs.at hl hb) λzz ws k gb rr=>(dS b ws k rfl (λh=>?_) gb hlen2 (rr.le (back s'.heap)));refine af G.cells λnw e1 f1=>?_;have hm:b∈nw:=by
    have:=YB hb;rw[e1]at this;exact(Yv.mp this).elim (λh=>(nomatch h)) id
   refine al (C.live b h) λo' g'=>?_;rw[f1 b hm]at g';exact aT g'
theorem K8(allP:∀n,fD prog w K T m n){fd:Yz}{body:List Stmt}(D:j5 K fd body){a:Addr}{o:Obj}(ho:K.lookup a=some o)(hd:o.data=.func fd)(hnt:¬aG a)
  {n g:Nat}{own:List (List Nat)}{vs:List AV}{r:AV}{cl cl':bE}{rest:List bE}(hg:g≠0->∃q,GT q/\fd.code=.ref q.1)(hlen:vs.length+1=fd.params.args.length)
  (he:pst n {tab:=T,sc:=fd.scope,own:=own,gen:=g} (fg fd.params.args (.cell 0::vs.map .val)) [cl] body=some (.ret (.val r),ρ',cl'::rest))
  (c:aj)(s:Xd)(us:List W2)(b:Addr)(A:Zp)(B:aC K s.heap)(C:bW c s.heap)(hr:aq c s.heap vs us)(hb:b∈c.cells){z0:Int}(hz0:cl.acc=some z0)(hcl:bD c s.heap b cl)(tk:1<=s.toks)(R:az (m+g+1) A) :
  Xf (Xe prog w) A (call (.ref a) (.ref b::us)) (λv s'=>ae (λx=>x=b\/aG x) s s'/\aC K s'.heap/\bD c s'.heap b cl'/\ao c s'.heap r v) nr s:=by
 obtain⟨dx0,lo0,f0⟩:∃dx0,(n₀<=dx0/\dx0+1=b)/\¬c.fr dx0:=by
  refine aw hcl λzz C1=>?_;rw[hz0]at C1;exact b5 C1 λzz zz dx zz zz zz lo f=>(ah dx lo f)
 let cN:aj:={c with cells:=[b],fr:=λy=>c.fr y\/cy (Xz fd s.heap.objs.size a) y}
 have le:aj.Le s.heap c cN:=⟨rfl,rfl,rfl,λ_ _ _ h=>h⟩;have CN:bW cN s.heap:=⟨λy h=>by rw[Xi.mp h];exact C.sub b hb,by show [b].Nodup;simp,λy h=>by rw[Xi.mp h];exact C.low b hb,C.live,C.theta⟩;have hcl':bD cN s.heap b cl:=by
  refine aw hcl λz C1=>⟨z,?_⟩;cases q:cl.acc with
  | none=>rw[q]at C1;refine cw C1 λvs n g r=>?_;exact(cx vs n g (r.le le))
  | some z=>
   rw[q]at C1;refine b5 C1 λvs n dx g r i lo f=>(dS vs n dx g (r.le le) i lo (λh=>h.elim f λo=>?_));have hlt:dx<s.heap.objs.size:=dd i λzz zz zz g zz=>Xm g;rcases o with e | ⟨Y,_,ea⟩
   ·exact absurd hlt (by (refine aa e ?_);exact XR _)
   ·have ok:=cellsFrom_ok fd.scope.names (s.heap.push {cls:=.type "frame",data:=.dict #[]}) (s.heap.objs.size+1) [] ⟨λ_ _ hm=>(nomatch hm),List.Pairwise.nil⟩ (by rw[XV];exact Xs _);rw[XV]at ok;have:=(ok.empty _ _ (mem_of_lookup ea)).2;exact absurd (Yj hlt (Yo this)) (XR _)
 refine KE (zL (cN:=cN) (σ:=[cl]) (ts:=.cell 0::vs.map .val) allP D ho hd hnt hg he B CN (bM (.ref b) us rfl (ah b rfl rfl) (ot (hr.le le))) (by rw[W5,hr.length,hlen]) ⟨hcl',trivial⟩ (λb h=>.inr h) tk R) (λv s' q=>?_) no;refine ko q λc' G X B' Cs rv=>?_;have back:∀h,aj.Le h c' c:=λh=>⟨G.θ.symm,G.P.symm,G.pre.symm,λb o _ nx q=>nx (G.ex b q)⟩;refine(iJ (X.weaken λy h=>h.elim (λh=>.inl (Xi.mp h)) .inr) B' ?_ (ao.le (back s'.heap) rv));refine af G.cells λnw e1 f1=>?_;have e2:c'.cells=b::nw:=e1;rw[e2]at Cs;refine aw Cs λzn0 zz=>aw zn0 λz C1=>⟨z,?_⟩;cases q:cl'.acc with
 | none=>rw[q]at C1;refine cw C1 λvs n g r=>?_;exact(cx vs n g (r.le (back s'.heap)))
 | some z=>
  rw[q]at C1;exact b5 C1 λvs n dx g r i lo f=>(dS vs n dx g (r.le (back s'.heap)) i lo (λh=>f0 (by rw[Nat.succ.inj (lo0.2.trans lo.2.symm)];exact h)))
theorem K9{fd:Yz}{body:List Stmt}(D:j5 K fd body){a:Addr}{o:Obj}(ho:K.lookup a=some o)(hd:o.data=.func fd)(hnt:¬aG a)
  {ts:List PV}{us:List W2}{cN:aj}{Q:W2->Xd->Prop}
  (B:aC K s.heap)(C:bW cN s.heap)(hr:dM cN s.heap ts us)(hlen:us.length=fd.params.args.length)(hcells:b8 cN s.heap cN.cells σ)(hfr:∀b,cy (Xz fd s.heap.objs.size a) b->cN.fr b)
  (tk:1<=s.toks)(R:az (m+1) A)
  (h:∀s1,ae X0 s s1->ak K cN (Xz fd s.heap.objs.size a) (fg fd.params.args ts) σ s1->(∀b,cy (Xz fd s.heap.objs.size a) b->s.heap.get? b=none)->
   ∀A1,az m A1->Xf (Xe prog w) A1 (execs body (Xz fd s.heap.objs.size a)) (λf s2=>∃v,f=.ret v/\Q v s2) nr s1) :
  Xf (Xe prog w) A (call (.ref a) us) Q nr s:=by
 have hcd:s.heap.CodeRec fd.code fd.qualname:=by
  exact jh D.code λcd oc vs tq zc0=>km zc0 λe1 e2 e3 e4 e5=>⟨cd,oc,vs,tq,e1,B.stat cd oc e2 e3,e4,e5⟩
 have hbind:=D.bind us hlen;refine Zr (codeAny_call_function R.depth (B.stat a o ho hnt) hd D.co D.gen D.stmts hcd ?_);refine aa hbind (aa D.closure (Ev (XJ tk (wpAny_newFunctionEnv_cells D.kind (λy hy=>?_) λenv he0 s1 X tk1=>?_))))
 ·refine aw (List.of_mem_zip hy) λh1 zz=>af (Yp.mp h1) λag hag e=>aS (e) ?_;rcases D.own ag hag with q | q
  ·exact .inl q
  ·refine .inr ⟨q,?_⟩;refine al (j0 (n:=s.heap.objs.size+1) (mem_of_lookup q)) λb hb=>?_;rw[hb];rfl
 ·subst he0;refine⟨B.lim.keeps X.toInCall.keep,codeAny_func ?_⟩;refine aw (uL D B hlen tk1 X C hr hcells hfr) λX1 I1=>?_;have newOwn:∀b,cy (Xz fd s.heap.objs.size a) b->s.heap.get? b=none:=λb o=>by
   clear ho hd hnt C hr hcells hfr tk h hcd hbind X1 I1;rcases o with rfl | ⟨Y,_,ea⟩
   ·exact XA (Xs _)
   ·exact XA (Yo (X.above _ _ (mem_of_lookup ea)))
  refine KE (h s1 X1 I1 newOwn _ R.deeper) (λf s2 r=>?_) no;refine af r λv zr1 rv=>?_;clear r;subst zr1;exact rv
theorem ou{fd:Yz}{body:List Stmt}(D:j5 K fd body){a:Addr}{o:Obj}(ho:K.lookup a=some o)(hd:o.data=.func fd)(hnt:¬aG a){vs:List AV}{us:List W2}{Q:W2->Xd->Prop}
  (B:aC K s.heap)(C:bW c s.heap)(hr:aq c s.heap vs us)(hlen:vs.length=fd.params.args.length)(tk:1<=s.toks)(R:az (m+1) A)
  (h:∀(cN:aj) s1,cN.θ=c.θ->cN.cells=[]->cN.ex=c.ex->aj.Le s.heap cN c->ae X0 s s1->ak K cN (Xz fd s.heap.objs.size a) (fg fd.params.args (vs.map .val)) [] s1->(∀b,cy (Xz fd s.heap.objs.size a) b->s.heap.get? b=none)->
   ∀A1,az m A1->Xf (Xe prog w) A1 (execs body (Xz fd s.heap.objs.size a)) (λf s2=>∃v,f=.ret v/\Q v s2) nr s1) :
  Xf (Xe prog w) A (call (.ref a) us) Q nr s:=by
 let cN:aj:={c with cells:=[],fr:=λb=>cy (Xz fd s.heap.objs.size a) b}
 have le:aj.Le s.heap c cN:=⟨rfl,rfl,rfl,λ_ _ _ h=>h⟩;have le':aj.Le s.heap cN c:=⟨rfl,rfl,rfl,λ_ _ _ h=>h⟩;have CN:bW cN s.heap:=⟨λ_ h=>(nomatch h),List.nodup_nil,λ_ h=>(nomatch h),C.live,C.theta⟩;exact K9 (cN:=cN) (σ:=[]) D ho hd hnt B CN (ot (hr.le le)) (by rw[hr.length,hlen]) trivial (λb h=>h) tk R (λs1 X I nw A1 R1=>h cN s1 rfl rfl rfl le' X I nw A1 R1)
theorem iz{n:Nat}(P:qy prog w K T m n)(ht:x.tab=T)(hs:aQ x env){st:Stmt}{rest:List Stmt}{Q:Flow->Xd->Prop}(h1:pex n x ρ σ st=some (.next,ρ',σ'))(I:ak K c env ρ σ s)(R:az (m+x.gen) A)
  (h:∀c1 s2,bH s.heap c c1->ae (XS c env) s s2->ak K c1 env ρ' σ' s2->Xf (Xe prog w) A (execs rest env) Q nr s2):Xf (Xe prog w) A (execs (st::rest) env) Q nr s:=by
 refine Yw (KE (P ht hs h1 I R) (λf s1 r=>?_) no);refine im r λc1 g1 X1 I1 zr4=>?_;clear r;subst zr4;exact h c1 s1 g1 X1 I1
theorem La{n:Nat}(Pt:gH prog w K T m n)(Ps:k7 prog w K T m n)(ht:x.tab=T)(hs:aQ x env){q:Expr}{b:List Stmt}{Q:Result->Xd->Prop}(h1:pt n x ρ σ q=some (true,σ))(h2:pst n x ρ σ b=some (.next,ρ',σ'))(I:ak K c env ρ σ s)(R:az (m+x.gen) A)
  (h:∀c1 s2,bH s.heap c c1->ae (XS c env) s s2->ak K c1 env ρ' σ' s2->Zq (Xe prog w) A (.whileLoop q b [] env) Q s2):Zq (Xe prog w) A (.whileLoop q b [] env) Q s:=by
 refine Yr ?_;show Xf _ A ((whileTurn q b [] env).onRaise (λx=>do noteFrame x env;Y8 x)) _ _ s;refine aab ?_;skip;refine El (KE (Pt ht hs h1 I R) (λv s1 zq0=>da zq0 λe X1 I1=>?_) no);subst e;skip;refine El (KE (Ps ht hs h2 I1 R) (λf s2 r=>?_) no);refine im (r.afterE X1) λc1 g1 X2 I2 hf=>?_;clear r;cases hf;exact Ev ⟨rfl,h c1 s2 g1 X2 I2⟩
theorem Lb{n:Nat}(Pt:gH prog w K T m n)(ht:x.tab=T)(hs:aQ x env){q:Expr}{b:List Stmt}{Q:Result->Xd->Prop}(h1:pt n x ρ σ q=some (false,σ))(I:ak K c env ρ σ s)(R:az (m+x.gen) A)
  (h:∀s1,ae (XE c) s s1->ak K c env ρ σ s1->Q (.ok .next) s1):Zq (Xe prog w) A (.whileLoop q b [] env) Q s:=by
 refine Yr ?_;show Xf _ A ((whileTurn q b [] env).onRaise (λx=>do noteFrame x env;Y8 x)) _ _ s;refine aab ?_;skip;refine El (KE (Pt ht hs h1 I R) (λv s1 zq1=>da zq1 λe X1 I1=>?_) no);subst e;skip;exact El (ZW (Ev (h s1 X1 I1)))
mutual
noncomputable def jC(f:Nat->Bool):AV->Bool
 | .op k=>f k
 | .idx _=>false
 | .pat _=>false
 | .lpat _=>false
 | .tup l=>fE f l
 | .lst l=>fE f l
 | _=>true
noncomputable def fE(f:Nat->Bool):List AV->Bool
 | []=>true
 | a::l=>jC f a&&fE f l
end
mutual
theorem ao.conv{f:Nat->Bool}{c c':aj}{h:Heap}(hθ:∀k,f k=true->c'.θ k=c.θ k)(hx:∀b o,h.get? b=some o->¬c.ex b->¬c'.ex b):∀{t:AV}{v:W2},jC f t=true->ao c h t v->ao c' h t v
 | .none,_,_,r=>r
 | .bool _,_,_,r=>r
 | .int _,_,_,r=>r
 | .str _,_,_,r=>r
 | .tup _,_,k,zp1=>by
  exact b5 zp1 λa vs n e x g z r=>(dS a vs n e (hx _ _ g x) g z (aq.conv hθ hx k r))
 | .lst _,_,k,zp2=>by
  exact b5 zp2 λa vs n e x g z r=>(dS a vs n e (hx _ _ g x) g z (aq.conv hθ hx k r))
 | .op _,_,k,r=>ZY r (hθ _ k).symm
 | .idx _,_,k,_=>by exact eE k
 | .pat _,_,k,_=>by exact eE k
 | .lpat _,_,k,_=>by exact eE k
theorem aq.conv{f:Nat->Bool}{c c':aj}{h:Heap}(hθ:∀k,f k=true->c'.θ k=c.θ k)(hx:∀b o,h.get? b=some o->¬c.ex b->¬c'.ex b):∀{ts:List AV}{vs:List W2},fE f ts=true->aq c h ts vs->aq c' h ts vs
 | [],_,_,r=>r
 | _::_,_,k,zp3=>by
  refine bb zp3 λv r e p q=>?_;have k':=W8.mp k;exact(bM v r e (ao.conv hθ hx k'.1 p) (aq.conv hθ hx k'.2 q))
end
noncomputable def mV(f:Nat->Bool):PV->Bool
 | .val a=>jC f a
 | _=>true
theorem bN.conv{f:Nat->Bool}{c c':aj}{h:Heap}(hθ:∀k,f k=true->c'.θ k=c.θ k)(hx:∀b o,h.get? b=some o->¬c.ex b->¬c'.ex b)(hc:∀(i:Nat)(a:Addr),c.cells[i]?=some a->c'.cells[i]?=some a):∀{t:PV}{v:W2},mV f t=true->bN c h t v->bN c' h t v
 | .val _,_,k,r=>ao.conv hθ hx k r
 | .cell _,_,_,zp4=>by
  exact af zp4 λa e q=>(ah a (hc _ _ e) q)
 | .app _,_,_,zp5=>by
  exact io zp5 λa m e f x g=>⟨a,m,hc _ _ e,f,hx _ _ g x,g⟩
 | .rng _ _ _,_,_,zp6=>by
  refine lu zp6 λm t u w e x g=>?_;obtain⟨y,z⟩:∃o,h.get? m=some o:=⟨_,g⟩;exact⟨m,t,u,w,e,hx _ _ z x,g⟩
theorem bD.conv{f:Nat->Bool}{c c':aj}{h:Heap}{a:Addr}{l:List AV}(hθ:∀k,f k=true->c'.θ k=c.θ k)(hx:∀b o,h.get? b=some o->¬c.ex b->¬c'.ex b)(k:fE f l=true)(B:bD c h a ⟨none,l⟩):bD c' h a ⟨none,l⟩:=by
 exact eQ B λz vs n g r=>⟨z,vs,n,g,aq.conv hθ hx k r⟩
theorem fW.names{c:aj}{env:Env}{ρ ρ':ai}{h:Heap}(B:fW c env ρ h){c':aj}(hv:∀X t,aB ρ' (nm X)=some t->∃t0,aB ρ (nm X)=some t0/\∀v,bN c h t0 v->bN c' h t v)(hf:∀b,c.fr b->c'.fr b):fW c' env ρ' h where
 kind:=B.kind
 globals:=B.globals
 builtins:=B.builtins
 vars:=λX t e=>by
  exact af (hv X t e) λt0 e0 k=>af (B.vars X t0 e0) λv a b=>(ah v a (k v b))
 ns:=B.ns
 cell:=B.cell
 apart:=B.apart
 low:=B.low
 fr:=λb o=>hf b (B.fr b o)
section
open Builtin
theorem Lc:aaf (.type "method_descriptor") "__get__"=pure (some (.builtin "method_descriptor.__get__")):=by rw[YN,Yg];rfl'
theorem Ld:aaf (.type "method_descriptor") "__set__"=pure none:=by rw[YN,Yg];rfl'
theorem Lf:aaf (.type "method_descriptor") "__delete__"=pure none:=by rw[YN,Yg];rfl'
theorem uN:Slot "method_descriptor" "__get__" "method_descriptor.__get__":=
 .of (owner:="method_descriptor") (n:="__get__") (by rw[YN,Yg];rfl') (by decide +kernel) (by decide +kernel) (by decide +kernel)
  (by first | exact .inl (by decide +kernel) | exact .inr (by decide +kernel)) (by rw[ZC];rfl')
theorem zO:aak table "method_descriptor.__get__"=some Xp.«method_descriptor.__get__»:=Zf (by rfl')
theorem zP(a b c:W2):ZD "method_descriptor.__get__" ⟨[a,b,c],[]⟩:=by unfold ZD;rfl'
theorem Lg{P:Fin->Xd->Prop}{a:Addr}{xs:Array W2}{k:Nat}(hx:s.heap.get? a=some {cls:=.type "list",dict:=none,data:=.seq xs k})(h:P (.done (.ret (.ref s.heap.objs.size))) {s with heap:=s.heap.push (jx a)}) :
  Xf (Xe prog w) A (Xp.«method_descriptor.__get__» ⟨[.builtin "list.append",.ref a,.type "list"],[]⟩) P E s:=by
 obtain⟨hp,g,d,tk,os⟩:=s;have hT:(⟨hp,g,d,tk,os⟩:Xd).TypeIs (.ref a) "list":=(ah _ hx rfl);have f2:=F.type_list_append;unfold Xp.«method_descriptor.__get__»;refine El (XG (a:=(.builtin "list.append",some (.ref a),some (.type "list"))) (by first | rfl | rfl') ?_);dsimp only;refine Z0 rfl (El (El (XG (a:=(YA "append",Value.type "list")) (by first | rfl' | rfl) ?_)));refine El (Zs hT sub_list_self ?_);exact Z0 rfl (Ev (El (Y5 (Ev h))))
theorem Lh(a:Addr)(u:Tok)(xs:Array W2)(k:Nat) :
  MeetsIn prog w (Xp.«object.__getattribute__» ⟨[.ref a,.str "append" u],[]⟩) (λ_ R s=>s.heap.get? a=some {cls:=.type "list",dict:=none,data:=.seq xs k}/\R (.ok (.ret (.ref s.heap.objs.size))) {s with heap:=s.heap.push (jx a)}):=
 .of_wp λA R s hs=>by
  obtain⟨hp,g,d,tk,os⟩:=s;refine aw hs λhx hs=>?_;have hT:(⟨hp,g,d,tk,os⟩:Xd).TypeIs (.ref a) "list":=(ah _ hx rfl);have f1:=F.slot_list_append.lookup;have f2:=F.type_list_append;have f3:=Lc;have f4:=Ld;have f5:=Lf;unfold Xp.«object.__getattribute__»
  repeat (any_goals (first | assumption | wp_step))
  have ht0:(⟨hp,g,d,tk,os⟩:Xd).TypeIs (.builtin "list.append") "method_descriptor":=f2;refine ZF uN.plain zO (uN.check _ _ _ _ _ _ _ _ ht0 (zP _ _ _) ?_);exact Lg hx (Ev (ah _ rfl hs))
theorem Li{a:Addr}{xs:Array W2}{k:Nat}{Q:W2->Xd->Prop}(hx:s.heap.get? a=some {cls:=.type "list",dict:=none,data:=.seq xs k})
  (h:∀tk,Q (.ref s.heap.objs.size) {s with heap:=s.heap.push (jx a),toks:=tk}):Xf (Xe prog w) A (getAttr (.ref a) "append" true) Q E s:=by
 obtain⟨hp,g,d,tk,os⟩:=s;have hT:∀tk',(⟨hp,g,d,tk',os⟩:Xd).TypeIs (.ref a) "list":=λ_=>(ah _ hx rfl);have f3:=F.slot_list_getattribute.lookup;have f4:=F.slot_list_getattribute.bind (.ref a);have f5:=am_list_getattr_none;skip
 repeat (any_goals (first | assumption | exact hT _ | wp_step))
 have key:Zq (Xe prog w) A (Code.call (Value.builtin "list.__getattribute__") {pos:=[Value.ref a]++[Value.str (YA "append") tk]})
   (λr s'=>r=.ok (.ret (.ref hp.objs.size))/\s'=⟨hp.push (jx a),g,d,tk+1,os⟩) ⟨hp,g,d,tk+1,os⟩:=
  ZF F.slot_list_getattribute.plain am_entry_list_getattribute (F.slot_list_getattribute.check _ _ _ _ _ _ _ _ (hT _) (F.args_list_getattribute_2 _ _)
   (Lh a tk xs k A (λr s'=>r=.ok (.ret (.ref hp.objs.size))/\s'=⟨hp.push (jx a),g,d,tk+1,os⟩) ⟨hp,g,d,tk+1,os⟩ (bR hx rfl rfl)))
 refine aah key λr s' zq0=>aw zq0 λe1 e2=>?_;subst e1 e2;exact Ev (h _)
theorem Lj{b:Addr}{vs:List W2}{n:Nat}(g:s.heap.get? b=some {cls:=.type "list",data:=.seq ⟨vs⟩ n}) :
  Xf (Xe prog w) A (getAttr (.ref b) "append" true) (λv s'=>∃d,v=.ref d/\ae X0 s s'/\s.heap.get? d=none/\s'.heap.get? d=some (jx b)) nr s:=
 Li g λtk=>(dH _ rfl (ae.pushT X0 s _ tk) (XA (Xs _)) (Xl _ rfl))
end
section
open Builtin
theorem Lk:ZA "list.__new__"=some .builtinFn:=by decide +kernel
theorem Ll:splitId "list.__new__"=some ("list","__new__"):=by decide +kernel
structure ow(M:Model)(h:Heap)(C:Addr):Prop where
 obj:∃oc od cd sl,h.get? C=some ⟨oc,od,.cls cd,sl⟩/\cd.abstract=false/\cd.hasDel=false/\cd.mro.isEmpty=false
 made:aaj M h (Bind.madeBy (.ref C)) (some "list.__new__")
 base:aaj M h (Bind.staticBase (.ref C)) (.ref C)
 self:aaj M h (isSubtype (.ref C) (.ref C)) true
 top:aaj M h (isSubtype (.ref C) (.type "list")) true
 call:aaj M h (specialOf (.ref C) "__call__") (some (.builtin "type.__call__"))
 typ:aaj M h (isInstance (.ref C) (.type "type")) true
noncomputable abbrev iX(C dx:Addr):Obj:={cls:=.ref C,dict:=some dx,data:=.seq #[]}
theorem Lm{K:Frag}{M:Model}{h:Heap}(X:K.In h){C:Addr}(e:tz K C=true):ow M h C:=by
 refine al (Zd.mp e) λ_ e=>ab e λo ho e=>ab e λcd hcd e=>aK e λe _=>?_;obtain⟨oc,od,dt,sl⟩:=o;cases bS (P:=λx=>dt=.cls x) hcd
 ·simp only[YK,ZK,beq_iff_eq]at e;obtain⟨⟨⟨⟨⟨⟨⟨e1,e2⟩,e3⟩,e4⟩,e5⟩,e6⟩,e7⟩,e8⟩:=e;have hc:clsIn K C=some cd:=by unfold clsIn;(refine aa ho ?_;rfl)
  have hm:aaj M h (mroOf (.ref C)) cd.mro:=(looks_clsIn X hc).andThen .now;obtain⟨c,l,hl⟩:∃c l,cd.mro=c::l:=by cases q:cd.mro with | nil=>rw[q]at e4;exact sm e4 | cons c l=>exact(dZ c l rfl)
  have made:aaj M h (Bind.madeBy (.ref C)) (some "list.__new__"):=by
   intro A Q E s k q;skip;refine El (hm A _ E s k ?_);rw[hl,List.forIn_cons];refine El (El (El (El (Z4 (k _ _ (X _ _ ho)) (Ev ?_)))));skip;refine aS (Array.getElem?_toList) ?_;exact aa e3 (Ev (Ev (Ev q)))
  refine⟨⟨oc,od,cd,sl,X _ _ ho,e1,e2,e4⟩,made,?_,looks_mroIn X ?_,looks_mroIn X ?_,looks_specialIn X e7,looks_instIn X e8⟩
  ·intro A Q E s k q;skip;refine El (hm A _ E s k ?_);rw[hl,List.forIn_cons];exact El (El (El (made A _ E s k (Ev (Ev (Ev q))))))
  ·unfold mroIn;rw[hc,Zt,if_neg (by rw[e4];decide),e5]
  ·unfold mroIn;rw[hc,Zt,if_neg (by rw[e4];decide),e6]
section
variable{C:Addr}{R:Result->Xd->Prop}{h:Heap}{g:Array GenState}{d:Drawn}{t:Nat}{os:OsState}
theorem Ln(C:Addr)(rest:List W2):ZD "list.__new__" ⟨.ref C::rest,[]⟩:=by unfold ZD;rfl'
theorem Lo{Q:Unit->Xd->Prop}{E:W2->Xd->Prop}{s:Xd}{rest:List W2}(ht:aaj (Xe prog w) s.heap (isType (.ref C)) true)(Y:ow (Xe prog w) s.heap C)(hq:Q () s) :
  Xf (Xe prog w) A (checkBuiltinCall "list.__new__" ⟨.ref C::rest,[]⟩) Q E s:=by
 have hok:=Ln C rest;unfold ZD at hok;unfold checkBuiltinCall;refine aa Lk (aa Ll ?_);refine El (ht A _ E s (λ_ _ e=>e) (Yu rfl (El (Y.top A _ E s (λ_ _ e=>e) (Yu rfl (El (Y.base A _ E s (λ_ _ e=>e) (El (Y.made A _ E s (λ_ _ e=>e) (Yu (by decide +kernel) ?_))))))))));clear ht Y;generalize aad "list.__new__"=sg at hok ⊢;cases sg with
 | none=>exact Ev hq
 | some sig=>
  have hok':Z6 "list.__new__" sig ⟨.ref C::rest,[]⟩=pure ():=hok;show Xf _ A (Z6 "list.__new__" sig ⟨.ref C::rest,[]⟩) Q E s;exact aa hok' (Ev hq)
theorem Lp{rest:List W2}(ht:aaj (Xe prog w) h (isType (.ref C)) true)(Y:ow (Xe prog w) h C)
  (hq:R (.ok (.ret (.ref (h.objs.size+1)))) ⟨(h.push Zk).push (iX C h.objs.size),g,d,t,os⟩) :
  Zq (Xe prog w) A (.builtin "list.__new__" ⟨.ref C::rest,[]⟩) R ⟨h,g,d,t,os⟩:=by
 refine lw Y.obj λoc od cd sl hC e1 e2 e4=>codeAny_builtin_stack F.entry_list_new rfl λp st=>aa (Around.under_plainId F.plain_list_new _) (El (ht _ _ _ _ (λ_ _ e=>e) (Yu rfl ?_)));refine aa owner_list_new (El (Y.top _ _ _ _ (λ_ _ e=>e) (Yu rfl (El (Ev (Yu rfl ?_))))));clear ht Y
 repeat lk
 refine wpAny_load (Xg _ (Xg _ hC)) (Ev ?_);refine aa e2 (Ev (Ev ?_));show R _ _;rw[XV];exact hq
theorem Lq{rest:List W2}(Y:ow (Xe prog w) h C)
  (hq:R (.ok (.ret (.ref (h.objs.size+1)))) ⟨(h.push Zk).push (iX C h.objs.size),g,d,t,os⟩) :
  Zq (Xe prog w) A (.call (.builtin "list.__new__") ⟨.ref C::rest,[]⟩) R ⟨h,g,d,t,os⟩:=by
 refine lw Y.obj λoc od cd sl hC e1 e2 e4=>?_;have ht:aaj (Xe prog w) h (isType (.ref C)) true:=(aaj.ld (part:=none) hC).andThen .now;refine Yr ?_;skip;exact El (Lo ht Y (Ev ⟨plainId_quiet F.plain_list_new _,Lp ht Y hq⟩))
theorem Lr{rest:List W2}{init:W2}(Y:ow (Xe prog w) h C)(hi:aaj (Xe prog w) h (aaf (.ref C) "__init__") (some init))
  (hb:∀self,aaj (Xe prog w) h (bindSpecial init self) (init,[self]))
  (hq:Zq (Xe prog w) (A.under (.builtin "type.__call__" ⟨.ref C::rest,[]⟩)) (.call init ⟨.ref (h.objs.size+1)::rest,[]⟩) (InitBack (h.objs.size+1) R) ⟨(h.push Zk).push (iX C h.objs.size),g,d,t,os⟩) :
  Zq (Xe prog w) A (.call (.ref C) ⟨rest,[]⟩) R ⟨h,g,d,t,os⟩:=by
 have Y':=Y;obtain⟨⟨oc,od,cd,sl,hC,e1,e2,e4⟩,made,base,self,top,call,typ⟩:=Y;refine Yr ?_;skip;refine nd_load hC ?_;show Xf _ _ (callAny.viaDunder (.ref C) _) _ _ _;skip;refine El (call.at ?_);dsimp only;rw[tc_bind];refine El (Ev (El (Ev ?_)));refine Ev (a:=Fin.again (.call (.builtin "type.__call__") ⟨.ref C::rest,[]⟩)) (And.intro rfl ?_);refine codeAny_call_builtin_at (Code.quiet_builtin _ (by decide +kernel)) entry_typeCall (check_slot tc_kind tc_split typ (tc_args _ _ _) ?_);unfold Xp.«type.__call__»;have hm:aaj (Xe prog w) h (mroOf (.ref C)) cd.mro:=((aaj.ld (part:=none) hC).andThen .now).andThen .now
 repeat (first | with_reducible refine Zr ?_ | refine Yu (by first | rfl | (rw[e4];rfl)) ?_ | lk)
 refine Lq Y' ?_;have k:∀b o,h.get? b=some o->((h.push Zk).push (iX C h.objs.size)).get? b=some o:=λb o e=>Xg _ (Xg _ e);have hx:((h.push Zk).push (iX C h.objs.size)).get? (h.objs.size+1)=some (iX C h.objs.size):=by heap_get
 have t1:aaj (Xe prog w) ((h.push Zk).push (iX C h.objs.size)) (typeOf (.ref (h.objs.size+1))) (.ref C):=(aaj.ld hx).andThen .now;have s1:=self.keeps k;have i1:=hi.keeps k;have b1:=(hb (.ref (h.objs.size+1))).keeps k;unfold isInstance callSpecial? specialOf
 repeat (first | with_reducible refine Zr ?_ | lk)
 refine aah hq λr s' z=>?_;rcases r with e | (v | _ | _ | _)<;>first | exact z | exact z.elim | skip
 obtain⟨rfl,z⟩:=z;exact Ev (Ev z)
end
end
section
open Builtin
theorem zQ{a:Addr}:(XI a 80||XI a 87||XI a 148||XI a 193)=true↔aG a:=by
 skip;simp only[Bool.or_eq_true,Nat.beq_eq];constructor
 ·rintro(((h | h) | h) | h)
  ·exact .inl h
  ·exact .inr (.inl h)
  ·exact .inr (.inr (.inl h))
  ·exact .inr (.inr (.inr h))
 ·rintro(h | h | h | h)
  ·exact .inl (.inl (.inl h))
  ·exact .inl (.inl (.inr h))
  ·exact .inl (.inr h)
  ·exact .inr h
theorem fN{a:Addr}{o:Obj}:∀{K:Frag},(Kn K).lookup a=some o->K.lookup a=some o/\¬aG a
 | [],e=>by cases e
 | (b,x)::r,e=>by
  unfold Kn at e;rw[List.filter_cons]at e;split at e
  ·rename_i hb;rw[Yy]at e ⊢;cases h:a==b with
   | true=>
    rw[h]at e;refine⟨e,λt=>?_⟩;rw[beq_iff_eq]at h;subst h;dsimp only at hb;rw[zQ.mpr t]at hb;exact eE hb
   | false=>
    rw[h]at e;exact fN e
  ·rename_i hb;refine aw (fN (K:=r) e) λe1 e2=>?_;rw[Yy];cases h:a==b with
   | true=>
    exfalso;rw[beq_iff_eq]at h;subst h;apply hb;dsimp only;cases q:(XI a 80||XI a 87||XI a 148||XI a 193) with
    | true=>exact absurd (zQ.mp q) e2
    | false=>rfl
   | false=>exact⟨e1,e2⟩
theorem aC.kn{K:Frag}{h:Heap}(B:aC K h):(Kn K).In h:=λa o e=>aw (fN e) λe1 e2=>B.stat a o e1 e2
section
variable{x C:Addr}{ox:Obj}{od:Option Obj}{name:Str}{pl:Sem Bool}{Q:W2×List W2->Xd->Prop}
theorem Ls:(Manifest.canonical "list.__getattribute__" != "object.__getattribute__")=false:=by decide +kernel
theorem Lu{f ft:W2}(X:K.In s.heap)(I:InstAt s.heap x ox C od)(hga:YS K (.ref C) "__getattribute__"=some (some (.builtin "list.__getattribute__")))(hk:YS K (.ref C) "__getattr__"=some none)
  (hf:YS K (.ref C) name=some (some f))(ht:typeIn K f=some ft)(hft:(ft != .type "function"&&ft != .type "method_descriptor"&&ft != .type "wrapper_descriptor")=false)(hs:shadowIn od name=some false)(h:Q (f,[.ref x]) s) :
  Xf (Xe prog w) A (getMethod (.ref x) name pl) Q E s:=by
 have hcan:=Ls;skip;refine El (El (I.type.here ((Zw X hga).here ?_)));dsimp only;rw[hcan,if_neg (by decide)];refine El (El (I.type.here ((Zw X hk).here ?_)));refine El (El (I.type.here ((Zw X hf).here (El ((looks_typeIn X ht).here ?_)))));rw[if_neg (by (refine aa hft ?_);decide)];refine El (Z4 I.at_ ?_);have hd:=I.dict;cases e:ox.dict with
 | none=>exact El (ZZ (Ev h))
 | some dx=>
  cases od with
  | none=>rw[e]at hd;exact hd.elim
  | some o=>
   rw[e]at hd;refine af (Option.map_eq_some_iff.mp hs) λr a b=>El (El (Z4 hd ?_));exact aa (nsLook_of a) (Ev (aa b (El (ZZ (Ev h)))))
theorem uO{f ft:W2}{e:Expr}{env:Env}(X:K.In s.heap)(I:InstAt s.heap x ox C od)(hga:YS K (.ref C) "__getattribute__"=some (some (.builtin "list.__getattribute__")))(hk:YS K (.ref C) "__getattr__"=some none)
  (hf:YS K (.ref C) name=some (some f))(ht:typeIn K f=some ft)(hft:(ft != .type "function"&&ft != .type "method_descriptor"&&ft != .type "wrapper_descriptor")=false)(hs:shadowIn od name=some false)(h:Q (f,[.ref x]) s) :
  Xf (Xe prog w) A (calleeOf true e env (.ref x) name) Q E s:=Lu X I hga hk hf ht hft hs h
end
end
section
open Builtin
theorem zS:Slot "wrapper_descriptor" "__get__" "wrapper_descriptor.__get__":=
 .of (owner:="wrapper_descriptor") (n:="__get__") (by rw[YN,Yg];rfl') (by decide +kernel) (by decide +kernel) (by decide +kernel)
  (by first | exact .inl (by decide +kernel) | exact .inr (by decide +kernel)) (by rw[ZC];rfl')
theorem zU:aak table "wrapper_descriptor.__get__"=some Xp.«wrapper_descriptor.__get__»:=Zf (by rfl')
theorem zV(a b c:W2):ZD "wrapper_descriptor.__get__" ⟨[a,b,c],[]⟩:=by unfold ZD;rfl'
theorem Lv:typeOf (.builtin "list.pop")=pure (.type "method_descriptor"):=by show builtinType _=_;rw[builtinType_eq_fast];rfl'
theorem Lw:typeOf (.builtin "list.__len__")=pure (.type "wrapper_descriptor"):=by show builtinType _=_;rw[builtinType_eq_fast];rfl'
theorem Lx:typeOf (.builtin "list.__init__")=pure (.type "wrapper_descriptor"):=by show builtinType _=_;rw[builtinType_eq_fast];rfl'
section
variable{h:Heap}{g:Array GenState}{d:Drawn}{t:Nat}{os:OsState}{C x D so:Addr}
noncomputable abbrev mW(T f:String)(x:Addr):Obj:={cls:=.type T,data:=.fields #[.builtin f,.ref x]}
structure fO(M:Model)(h:Heap)(x C:Addr):Prop where
 typ:aaj M h (typeOf (.ref x)) (.ref C)
 sub:aaj M h (isSubtype (.ref C) (.type "list")) true
theorem fO.inst{M:Model}(L:fO M h x C):aaj M h (isInstance (.ref x) (.type "list")) true:=L.typ.andThen L.sub
theorem Ly{P:Fin->Xd->Prop}(L:fO (Xe prog w) h x C)(q:P (.done (.ret (.ref h.objs.size))) ⟨h.push (mW "builtin_function_or_method" "list.pop" x),g,d,t,os⟩) :
  Xf (Xe prog w) A (Xp.«method_descriptor.__get__» ⟨[.builtin "list.pop",.ref x,.ref C],[]⟩) P E ⟨h,g,d,t,os⟩:=by
 have L1:=L.inst;unfold Xp.«method_descriptor.__get__»;refine El (XG (a:=(.builtin "list.pop",some (.ref x),some (.ref C))) (by first | rfl | rfl') ?_);skip;refine Z0 rfl (El (El (XG (a:=(YA "pop",Value.type "list")) (by first | rfl' | rfl) ?_)));refine El (L1.at ?_);exact Z0 rfl (Ev (El (Y5 (Ev q))))
theorem zW{f n:String}{P:Fin->Xd->Prop}(L:fO (Xe prog w) h x C)(hn:f="list.__len__"/\n="__len__"\/f="list.__init__"/\n="__init__")(q:P (.done (.ret (.ref h.objs.size))) ⟨h.push (mW "method-wrapper" f x),g,d,t,os⟩) :
  Xf (Xe prog w) A (Xp.«wrapper_descriptor.__get__» ⟨[.builtin f,.ref x,.ref C],[]⟩) P E ⟨h,g,d,t,os⟩:=by
 have L1:=L.inst;unfold Xp.«wrapper_descriptor.__get__»;refine El (XG (a:=(.builtin f,some (.ref x),some (.ref C))) (by first | rfl | rfl') ?_);refine El ?_;refine El (XG (a:=(YA n,Value.type "list")) (by clear q;rcases hn with ⟨rfl,rfl⟩ | ⟨rfl,rfl⟩<;>rfl') ?_);refine El (L1.at ?_);exact Z0 rfl (Ev (El (Y5 (Ev q))))
theorem Lz{K:Frag}{f tf gi:String}{Bi:Xp}{l₀ l:List W2}{name:Str}{tk:Tok}{Q:Fin->Xd->Prop}
  (hso:h.get? so=some {cls:=.type "super",dict:=none,data:=.fields #[.ref D,.ref x,.ref C],slots:=#[]})(hno:aaj (Xe prog w) h (opaqueClassAbove (.ref C)) none)
  (hC:aaj (Xe prog w) h (mroOf (.ref C)) l₀)(hl:(l₀.dropWhile (· != .ref D)).drop 1=l)(X:K.In h)
  (hf:alongIn K name l=some (some (.builtin f)))(hT:typeOf (.builtin f)=pure (.type tf))(Sg:Slot tf "__get__" gi)(hB:aak table gi=some Bi)(hargs:ZD gi ⟨[.builtin f,.ref x,.ref C],[]⟩)
  (hxC:x≠C)(hn:(name==("__class__":Str))=false)
  (hrun:∀A',Xf (Xe prog w) A' (Bi ⟨[.builtin f,.ref x,.ref C],[]⟩) (λv s'=>∃v',v=.done (.ret v')/\Q (.done (.ret v')) s') (λ_ _=>False) ⟨h,g,d,t,os⟩) :
  Xf (Xe prog w) A (Xp.«super.__getattribute__» ⟨[.ref so,.str name tk],[]⟩) Q E ⟨h,g,d,t,os⟩:=by
 have hlk:=Sg.lookup;have hne:(Value.ref x==Value.ref C)=false:=by simp[hxC]
 have hTf:(⟨h,g,d,t,os⟩:Xd).TypeIs (.builtin f) tf:=hT;have hdt:({cls:=.type "super",dict:=none,data:=.fields #[.ref D,.ref x,.ref C],slots:=#[]}:Obj).data=.fields #[.ref D,.ref x,.ref C]:=rfl;have f0:(#[.ref D,.ref x,.ref C]:Array W2)[0]?=some (.ref D):=rfl;have f1:(#[.ref D,.ref x,.ref C]:Array W2)[1]?=some (.ref x):=rfl;have f2:(#[.ref D,.ref x,.ref C]:Array W2)[2]?=some (.ref C):=rfl;unfold Xp.«super.__getattribute__»
 repeat (first
  | (with_reducible refine Zl hso hdt f0 ?_) | (with_reducible refine Zl hso hdt f1 ?_) | (with_reducible refine Zl hso hdt f2 ?_)
  | (with_reducible refine ks_wpAny_notOpaque hno ?_)
  | (with_reducible refine aaj.at hC ?_;rw[hl])
  | (refine ks_forIn_along X (λ_ _=>rfl) rfl ?_ hf)
  | (with_reducible refine aag hTf ?_)
  | (refine Yu (by first | rfl | (rw[hn];rfl) | (rw[hne];rfl)) ?_)
  | wp_step
  | (simp only[hn,hne,Bool.or_false,Bool.false_eq_true,if_false])
  | dsimp only)
 refine ZF Sg.plain hB (Sg.check _ _ _ _ _ _ _ _ hTf hargs (KE (hrun _) (λv s' q=>?_) λ_ _ z=>z.elim));obtain⟨v',rfl,q⟩:=q;exact El (Ev (Ev (Ev q)))
theorem LA{K:Frag}{f tf gi:String}{Bi:Xp}{l₀ l:List W2}{name:Str}{pl:Sem Bool}{o:Obj}{Q:W2×List W2->Xd->Prop}
  (hso:h.get? so=some {cls:=.type "super",dict:=none,data:=.fields #[.ref D,.ref x,.ref C],slots:=#[]})(hno:aaj (Xe prog w) h (opaqueClassAbove (.ref C)) none)
  (hC:aaj (Xe prog w) h (mroOf (.ref C)) l₀)(hl:(l₀.dropWhile (· != .ref D)).drop 1=l)(X:K.In h)
  (hf:alongIn K name l=some (some (.builtin f)))(hT:typeOf (.builtin f)=pure (.type tf))(Sg:Slot tf "__get__" gi)(hB:aak table gi=some Bi)(hargs:ZD gi ⟨[.builtin f,.ref x,.ref C],[]⟩)
  (hxC:x≠C)(hn:(name==("__class__":Str))=false)
  (hrun:∀A' t',Xf (Xe prog w) A' (Bi ⟨[.builtin f,.ref x,.ref C],[]⟩) (λv s'=>v=.done (.ret (.ref h.objs.size))/\s'=⟨h.push o,g,d,t',os⟩) (λ_ _=>False) ⟨h,g,d,t',os⟩)
  (hq:Q (.ref h.objs.size,[]) ⟨h.push o,g,d,t+1,os⟩) :
  Xf (Xe prog w) A (getMethod (.ref so) name pl) Q E ⟨h,g,d,t,os⟩:=by
 have hlk:=F.ks_slot_super_ga.lookup;have hcan:=F.ks_canon_super_ga;have hT':∀t',(⟨h,g,d,t',os⟩:Xd).TypeIs (.ref so) "super":=λ_=>(ah _ hso rfl);skip;refine El (wpAny_specialOf (hT' _) hlk ?_);skip;refine wpAny_ite_true rfl ?_;skip;refine El (El (wpAny_mkText (XQ (El (aag (hT' _) (El (XG hlk ?_)))))));skip;skip;refine El (XG (show(if onTheHeap (.type "super") then aaf (.type "super") "__getattr__" else pure none)=pure none from rfl) ?_);refine El (wpAny_attempt (XQ ?_));skip;refine El (XG (F.ks_slot_super_ga.bind _) ?_);refine KE (Q:=λv s'=>v=.ref h.objs.size/\s'=⟨h.push o,g,d,t+1,os⟩) (E:=λ_ _=>False)
  (wpAny_call_entry F.ks_slot_super_ga (hT' _) F.ks_entry_super_ga (Lz hso hno hC hl X hf hT Sg hB hargs hxC hn λA'=>KE (hrun A' (t+1)) (λv s' q=>⟨_,q.1,_,rfl,rfl,q.2⟩) λ_ _ z=>z) (F.ks_gaArgs_super _ _)) (λv s' hv=>?_) λ_ _ z=>z.elim
 obtain⟨rfl,rfl⟩:=hv;exact Ev (Ev hq)
theorem uP{T f:String}{b:Addr}{x:W2}{pos:List W2}{Bi:Xp}{s:Xd}{R:Result->Xd->Prop}(hb:s.heap.get? b=some {cls:=.type T,dict:=none,data:=.fields #[.builtin f,x],slots:=#[]})
  (hT:T="builtin_function_or_method"\/T="method-wrapper")(hc:∀A',Xf (Xe prog w) A' (ZO f ⟨x::pos,[]⟩) (λ_ s'=>s'=s) (λ_ _=>False) s)(hp:plainId f=true)(hB:aak table f=some Bi)
  (hr:Xf (Xe prog w) A.in1 (Bi ⟨x::pos,[]⟩) (λfin s'=>match fin with | .done f=>R (.ok f) s' | .again c'=>c'.quiet=true/\Zq (Xe prog w) A c' R s') (λe s'=>R (.error e) s') s) :
  Zq (Xe prog w) A (.call (.ref b) ⟨pos,[]⟩) R s:=by
 refine Yr ?_;skip;skip;refine El (wpAny_load hb ?_);have fin:Xf (Xe prog w) A.in1 (do ZO f ⟨x::pos,[]⟩;again (.builtin f ⟨x::pos,[]⟩)) (λfin s'=>match fin with | .done f=>R (.ok f) s' | .again c'=>c'.quiet=true/\Zq (Xe prog w) A c' R s') (λe s'=>R (.error e) s') s:=by
  refine El (KE (hc _) (λ_ s' e=>?_) λ_ _ z=>z.elim);clear hb hc;refine aa e (Ev ⟨plainId_quiet hp _,codeAny_builtin hB ?_⟩);exact aa (Around.under_plainId hp _) hr
 clear hb;rcases hT with rfl | rfl
 ·exact fin
 ·exact fin
end
end
section
open Builtin Builtin.List
theorem LB:plainId "list.pop"=true:=by decide +kernel
theorem LC:plainId "list.__len__"=true:=by decide +kernel
theorem LD:plainId "list.__init__"=true:=by decide +kernel
theorem LE:plainId "list.append"=true:=by decide +kernel
theorem zX:plainId "list.__getitem__"=true:=by decide +kernel
theorem LG:plainId "list.__setitem__"=true:=by decide +kernel
theorem LH:ZA "list.__len__"=some .slot:=by decide +kernel
theorem LI:ZA "list.__init__"=some .slot:=by decide +kernel
theorem LJ:ZA "list.append"=some .method:=by decide +kernel
theorem LK:aak table "list.pop"=some Xp.«list.pop»:=Zf (by rfl')
theorem LL:aak table "list.append"=some Xp.«list.append»:=Zf (by rfl')
theorem zY:aak table "list.__getitem__"=some Xp.«list.__getitem__»:=Zf (by rfl')
theorem LM:aak table "list.__setitem__"=some Xp.«list.__setitem__»:=Zf (by rfl')
theorem LN(a:W2):ZD "list.__len__" ⟨[a],[]⟩:=by unfold ZD;rfl'
theorem LO(a:W2):ZD "list.__init__" ⟨[a],[]⟩:=by unfold ZD;rfl'
theorem LP:splitId "list.append"=some ("list","append"):=by decide +kernel
theorem LQ(a b:W2):ZD "list.append" ⟨[a,b],[]⟩:=by unfold ZD;rfl'
section
variable{M:Model}{h:Heap}{g:Array GenState}{d:Drawn}{t:Nat}{os:OsState}{C x:Addr}{o:Obj}{xs:List W2}
theorem zZ{f:String}{x:W2}(hk:ZA f=some .slot)(ha:ZD f ⟨[x],[]⟩):Xf M A (ZO f ⟨[x],[]⟩) (λ_ s'=>s'=s) E s:=by
 dsimp only[ZO];unfold ZD at ha;cases hs:aad f with
 | none=>exact Ev rfl
 | some sig=>
  rw[hs]at ha;have ha':Z6 f sig ⟨[x],[]⟩=pure ():=ha;simp only[hk,ha'];exact Ev rfl
theorem LR{P:Fin->Xd->Prop}(hx:h.get? x=some o)(hd:o.data=.seq ⟨xs⟩ n)(hf:xs.length<=8192)(q:∀tk t',P (.done (.ret (.int (xs.length:Nat) tk))) ⟨h,g,d,t',os⟩) :
  Xf (Xe prog w) A (Xp.«list.__len__» ⟨[.ref x],[]⟩) P E ⟨h,g,d,t,os⟩:=by
 unfold Xp.«list.__len__» slotArgs;skip
 repeat (first | lk | wp_step)
 all_goals (obtain⟨oc,od,oda,osl⟩:=o;dsimp only at hd;clear hf hx;subst hd)
 repeat (first | lk | wp_step)
 exact q _ _
theorem LS{P:Fin->Xd->Prop}{v:W2}(hx:h.get? x=some o)(hd:o.data=.seq ⟨xs⟩ n)(hf:xs.length<=8192)(q:P (.done (.ret .none)) ⟨h.update x (Y2 (·.push v)),g,d,t,os⟩) :
  Xf (Xe prog w) A (Xp.«list.append» ⟨[.ref x,v],[]⟩) P E ⟨h,g,d,t,os⟩:=by
 unfold Xp.«list.append» selfAndOne listUpdate;have hz:(⟨xs⟩:Array W2).size<=sizeLine:=by rw[Ze];simp only[List.size_toArray];exact pH hf
 repeat (first | with_reducible refine ZV hx hd ?_ hz ?_ | lk | wp_step)
 ·exact q
 ·rw[Ze];simp only[Array.size_push,List.size_toArray];exact DH hf
theorem LT{P:Fin->Xd->Prop}{v:W2}(hx:h.get? x=some o)(hd:o.data=.seq ⟨xs++[v]⟩ n)(hf:xs.length<=8192)(q:P (.done (.ret v)) ⟨h.update x (Y2 (·.eraseIdxIfInBounds xs.length)),g,d,t,os⟩) :
  Xf (Xe prog w) A (Xp.«list.pop» ⟨[.ref x],[]⟩) P E ⟨h,g,d,t,os⟩:=by
 unfold Xp.«list.pop» selfAndSome listUpdate;have hz:(⟨xs++[v]⟩:Array W2).size<=sizeLine:=by rw[Ze];simp only[List.size_toArray,Om,List.length_singleton];exact DG hf
 repeat (first | with_reducible refine ZV hx hd ?_ hz ?_ | with_reducible refine YY hx hd ?_ | lk | wp_step)
 have e1:(ZR (-1) (⟨xs++[v]⟩:Array W2).size).bind (λk=>Option.map (λx=>(k,x)) (⟨xs++[v]⟩:Array W2)[k]?)=some (xs.length,v):=by
  have hs:(⟨xs++[v]⟩:Array W2).size=xs.length+1:=by simp
  have e2:ZR (-1) (xs.length+1)=some xs.length:=by
   unfold ZR;skip;have:(-1:Int)+((xs.length+1:Nat):Int)=(xs.length:Int):=by exact DI
   refine aa (this) ?_;rw[if_pos (by simp only[YK,decide_eq_true_eq];exact DJ)];simp
  rw[hs,e2];simp
 rw[e1]
 repeat (first | with_reducible refine ZV hx hd ?_ hz ?_ | lk | wp_step)
 ·exact q
 ·rw[Ze];have:((⟨xs++[v]⟩:Array W2).eraseIdxIfInBounds xs.length).size<=xs.length+1:=by
   unfold Array.eraseIdxIfInBounds;split
   ·rw[Array.size_eraseIdx];simp
   ·simp
  exact DK hf this
theorem LU{P:Fin->Xd->Prop}(hx:h.get? x=some o)(hd:o.data=.seq ⟨xs⟩ n)(hf:xs.length<=8192)(q:P (.done (.ret .none)) ⟨h.update x (Y2 λ_=>#[]),g,d,t,os⟩) :
  Xf (Xe prog w) A (Xp.«list.__init__» ⟨[.ref x],[]⟩) P E ⟨h,g,d,t,os⟩:=by
 unfold Xp.«list.__init__» listUpdate listItems;have hz:(⟨xs⟩:Array W2).size<=sizeLine:=by rw[Ze];simp only[List.size_toArray];exact pH hf
 repeat (first | with_reducible refine ZV hx hd ?_ hz ?_ | with_reducible refine YY hx hd ?_ | with_reducible refine wpAny_letGo ?_ | lk | wp_step)
 ·exact q
 ·rw[Ze];simp
end
end
section
open Builtin Builtin.List
structure eU(K:Frag):Prop where
 make:tz K aN=true
 ga:YS K (.ref aN) "__getattribute__"=some (some (.builtin "list.__getattribute__"))
 noga:YS K (.ref aN) "__getattr__"=some none
 sub:mroIn K aN (.type "list")=some true
 subo:mroIn K aN (.type "object")=some true
 noSeq:noSeq K aN=true
 getitem:YS K (.ref aN) "__getitem__"=some (some (.builtin "list.__getitem__"))
 setitem:YS K (.ref aN) "__setitem__"=some (some (.builtin "list.__setitem__"))
 append:YS K (.ref aN) "append"=some (some (.builtin "list.append"))
 setattr:YS K (.ref aN) "__setattr__"=some (some (.builtin "object.__setattr__"))
 init:YS K (.ref aN) "__init__"=some (some (.ref 55))
 push:YS K (.ref aN) "push"=some (some (.ref 62))
 popFrom:YS K (.ref aN) "pop_from"=some (some (.ref 70))
 pop:YS K (.ref aN) "pop"=some (some (.ref 78))
 len:YS K (.ref aN) "__len__"=some (some (.ref 85))
 str:YS K (.ref aN) "__str__"=some (some (.ref 92))
 partCount:YS K (.ref aN) "part_count"=some (some (.ref 115))
 iter:YS K (.ref aN) "__iter__"=some (some (.builtin "list.__iter__"))
 size:YS K (.ref aN) d8=some none
 fns:∀f,f=55\/f=62\/f=70\/f=78\/f=85\/f=92\/f=115->typeIn K (.ref f)=some (.type "function")
 noOpaque:nsIn K cStatics "thirdparty.any"=some none
 cls:∃cd,clsIn K aN=some cd/\cd.mro=[.ref aN,.type "list",.type "object"]/\cd.hasDict=true/\cd.hasDel=false/\cd.qualname=YA "_Accumulator"
 metac:typeIn K (.ref aN)=some (.type "type")
 suPop:alongIn K "pop" [.type "list",.type "object"]=some (some (.builtin "list.pop"))
 suLen:alongIn K "__len__" [.type "list",.type "object"]=some (some (.builtin "list.__len__"))
 suInit:alongIn K "__init__" [.type "list",.type "object"]=some (some (.builtin "list.__init__"))
 cell:∃oc,K.lookup 42=some oc/\oc.data=.cell (some (.ref aN))
section
variable{M:Model}{h:Heap}{g:Array GenState}{d:Drawn}{t:Nat}{os:OsState}{C x:Addr}{o:Obj}{xs:List W2}
theorem LV{i owner n:String}{self:W2}{rest:List W2}{Q:Unit->Xd->Prop}
  (hk:ZA i=some .slot\/ZA i=some .method)(hs:splitId i=some (owner,n))(hi:aaj M s.heap (isInstance self (.type owner)) true)(ha:ZD i ⟨self::rest,[]⟩)(q:Q () s) :
  Xf M A (checkBuiltinCall i ⟨self::rest,[]⟩) Q E s:=by
 rcases hk with hk | hk
 ·exact check_slot hk hs hi ha q
 ·rw[checkBuiltinCall,hk,hs];refine El (hi.here ?_);refine Yu rfl ?_;cases hsig:aad i with
  | none=>exact Ev q
  | some sig=>
   simp only[ZD,hsig]at ha;have h2:Z6 i sig ⟨self::rest,[]⟩=pure ():=ha;show Xf M A (Z6 i sig ⟨self::rest,[]⟩) Q E s
   (refine aa h2 ?_);exact Ev q
theorem mX{f nme:String}{Bi:Xp}{rest:List W2}{Q:W2->Xd->Prop}(L:fO (Xe prog w) s.heap x C)(hk:ZA f=some .slot\/ZA f=some .method)(hs:splitId f=some ("list",nme))
  (ha:ZD f ⟨.ref x::rest,[]⟩)(hp:plainId f=true)(hB:aak table f=some Bi)
  (hr:∀A',Xf (Xe prog w) A' (Bi ⟨.ref x::rest,[]⟩) (λv s'=>∃v',v=.done (.ret v')/\Q v' s') (λ_ _=>False) s) :
  Xf (Xe prog w) A (call (.builtin f) (.ref x::rest)) Q E s:=by
 refine Zr (ZF hp hB (LV hk hs L.inst ha (KE (hr _) (λv s' q=>?_) λ_ _ z=>z.elim)));obtain⟨v',rfl,q⟩:=q;exact q
theorem z2{f:String}{name:Str}{args:List W2}{Q:Option W2->Xd->Prop}(L:fO (Xe prog w) s.heap x C)(hf:aaj (Xe prog w) s.heap (aaf (.ref C) name) (some (.builtin f)))
  (hb:bindSpecial (.builtin f) (.ref x)=pure (.builtin f,[.ref x]))(h:Xf (Xe prog w) A (call (.builtin f) (.ref x::args)) (λv=>Q (some v)) E s) :
  Xf (Xe prog w) A (callSpecial? (.ref x) name args) Q E s:=by
 refine El (El (L.typ.here (hf.here (XQ (El ?_)))));rw[hb];exact Ev (El (KE h (λ_ _ z=>Ev z) λ_ _ z=>z))
theorem z3{K:Frag}{k:W2}{name:Str}{Q:W2->Xd->Prop}(X:K.In s.heap)(L:fO (Xe prog w) s.heap x C)(hq:noSeq K C=true)(h:Q k s):Xf (Xe prog w) A (sequenceKey (.ref x) k name) Q E s:=by
 skip;refine El (L.typ.here (El ((anyM_none X hq).here ?_)));rw[if_pos (show(!false)=true from rfl)];exact Ev h
theorem LW(v:W2):bindSpecial (.builtin "list.__getitem__") v=pure (.builtin "list.__getitem__",[v]):=F.slot_list_getitem.bind v
theorem z4(a b:W2):ZD "list.__getitem__" ⟨[a,b],[]⟩:=by unfold ZD;rfl'
theorem LX(a b c:W2):ZD "list.__setitem__" ⟨[a,b,c],[]⟩:=by unfold ZD;rfl'
theorem z5:ZA "list.__getitem__"=some .method:=by decide +kernel
theorem LY:ZA "list.__setitem__"=some .slot:=by decide +kernel
theorem z6:splitId "list.__getitem__"=some ("list","__getitem__"):=by decide +kernel
theorem LZ:splitId "list.__setitem__"=some ("list","__setitem__"):=by decide +kernel
theorem Ma:Slot "list" "__setitem__" "list.__setitem__":=
 .of (owner:="list") (n:="__setitem__") (by rw[YN,Yg];rfl') (by decide +kernel) (by decide +kernel) (by decide +kernel)
  (by first | exact .inl (by decide +kernel) | exact .inr (by decide +kernel)) (by rw[ZC];rfl')
theorem Mb{i:Int}{tk:Tok}{k:Nat}{v:W2}{P:Fin->Xd->Prop}(hx:h.get? x=some o)(hd:o.data=.seq ⟨xs⟩ n)(hf:xs.length<=8192)(hi:ZR i xs.length=some k)(hk:xs[k]?=some v)(hpos:0<=i->k=i.toNat)
  (hneg:i<0->-(xs.length:Int)<=i)(q:P (.done (.ret v)) ⟨h,g,d,t,os⟩) :
  Xf (Xe prog w) A (Xp.«list.__getitem__» ⟨[.ref x,.int i tk],[]⟩) P E ⟨h,g,d,t,os⟩:=by
 have hlt:k<xs.length:=by
  have:=Yh.mp hk;exact this.1
 have hfit:Xp.List.listFitsIndex i=true:=by
  unfold listFitsIndex;simp only[YK,decide_eq_true_eq];by_cases h0:0<=i
  ·have:=hpos h0;exact D4 hf hlt h0 this
  ·have:=hneg (by exact D5 h0);exact D6 hf h0 this
 unfold Xp.«list.__getitem__»;refine El (XG (a:=(Value.ref x,Value.int i tk)) rfl ?_);dsimp only;refine El (wpAny_listSubscript_int hfit ?_);clear hneg hfit;cases i with
 | ofNat m=>
  have hkm:k=m:=hpos (XM m);clear hlt;refine aS hkm ?_;show Xf _ _ ((seqItemAt x k >>= λr=>pure (r.map (k,·))) >>= _) _ _ _;refine El (El (wpAny_seqItemAt hx hd (Ev ?_)));have:(⟨xs⟩:Array W2)[k]?=some v:=by simpa using hk
  rw[this]
  first
   | exact El (Ev (Ev q))
   | exact Ev (Ev q)
   | exact Ev q
 | negSucc m=>
  show Xf _ _ ((listItems (.ref x) >>= λxs=>pure ((ZR (Int.negSucc m) xs.size).bind λj=>xs[j]?.map (j,·))) >>= _) _ _ _;skip;refine El (El (El (YY hx hd (Ev (Ev ?_)))));have e:((ZR (Int.negSucc m) (⟨xs⟩:Array W2).size).bind λj=>(⟨xs⟩:Array W2)[j]?.map (j,·))=some (k,v):=by
   rw[show(⟨xs⟩:Array W2).size=xs.length from rfl,hi];have:(⟨xs⟩:Array W2)[k]?=some v:=by simpa using hk
   rw[Zt,this];rfl
  rw[e]
  first
   | exact El (Ev (Ev q))
   | exact Ev (Ev q)
   | exact Ev q
theorem Mc{sl:Addr}{vl vu vs:W2}{lo hi st:Option Int}{P:Fin->Xd->Prop}(hx:h.get? x=some o)(hd:o.data=.seq ⟨xs⟩ n)(hf:xs.length<=8192)
  (hs:h.IsSliceOf sl vl vu vs)(pl:IsPart vl lo)(pu:IsPart vu hi)(ps:IsPart vs st)(h0:st≠some 0)
  (q:P (.done (.ret (.ref h.objs.size))) ⟨h.push {cls:=.type "list",data:=.seq (slicePick ⟨xs⟩ lo hi st)},g,d,t,os⟩) :
  Xf (Xe prog w) A (Xp.«list.__getitem__» ⟨[.ref x,.ref sl],[]⟩) P E ⟨h,g,d,t,os⟩:=by
 refine dY (id hs) λoo hos hcs hds=>?_;have hTs:(⟨h,g,d,t,os⟩:Xd).TypeIs (.ref sl) "slice":=(ah oo hos hcs);unfold Xp.«list.__getitem__»;refine El (XG (a:=(Value.ref x,Value.ref sl)) rfl ?_);dsimp only;refine El ?_;unfold listSubscript?;refine El (wpAny_specialOf hTs slice_no_index ?_);skip;refine Ev ?_;show Xf _ _ (typeOf (.ref sl) >>= _) _ _ _;refine El (aag hTs ?_);rw[if_neg (by decide)];rw[listSliceParts_eq];have hstep:¬((rawPart st==rawInt 0)=true):=by
  clear ps q;cases st with
  | none=>exact Y1
  | some c=>
   intro hh;have:c=0:=by simpa [rawPart,rawInt] using hh
   exact h0 (by rw[this])
 refine El (El (Zl hos hds (x:=vs) rfl (El (wpAny_listPart ps ?_))));rw[if_neg hstep];refine El (Zl hos hds (x:=vl) rfl (El (wpAny_listPart pl ?_)));refine El (Zl hos hds (x:=vu) rfl (El (wpAny_listPart pu (Ev ?_))));refine El (m:=listItems (.ref x)) ?_;skip;refine El (YY hx hd (Ev ?_));refine El (XG (sliceIndices_raw lo hi st (⟨xs⟩:Array W2).size h0) ?_);refine El (Y5 (Ev q) (W6 (slicePick_size_le ⟨xs⟩ lo hi st) (by rw[Ze];show xs.length<=_;exact pH hf)))
theorem Md{sl e:Addr}{vl:W2}{i:Nat}{m:Nat}{P:Fin->Xd->Prop}(hx:h.get? x=some o)(hd:o.data=.seq ⟨xs⟩ n)(hf:xs.length<=8192)
  (hs:h.IsSliceOf sl vl .none .none)(pl:IsPart vl (some (i:Int)))(he:h.get? e=some {cls:=.type "list",data:=.seq #[] m})(hne:x≠e)
  (q:∀f:Array W2->Array W2,f ⟨xs⟩=⟨xs.take i⟩->P (.done (.ret .none)) ⟨h.update x (Y2 f),g,d,t,os⟩) :
  Xf (Xe prog w) A (Xp.«list.__setitem__» ⟨[.ref x,.ref sl,.ref e],[]⟩) P E ⟨h,g,d,t,os⟩:=by
 refine dY (id hs) λoo hos hcs hds=>?_;have hTs:(⟨h,g,d,t,os⟩:Xd).TypeIs (.ref sl) "slice":=(ah oo hos hcs);have hTe:(⟨h,g,d,t,os⟩:Xd).TypeIs (.ref e) "list":=(ah _ he rfl);unfold Xp.«list.__setitem__»;refine El (XG (a:=(Value.ref x,[Value.ref sl,Value.ref e])) rfl ?_);dsimp only;refine El ?_;unfold listSubscript?;refine El (wpAny_specialOf hTs slice_no_index ?_);skip;refine Ev ?_;show Xf _ _ (typeOf (.ref sl) >>= _) _ _ _;refine El (aag hTs ?_);rw[if_neg (by decide)];rw[listSliceParts_eq];have hstep:¬((rawPart none==rawInt 0)=true):=Y1;refine El (El (Zl hos hds (x:=.none) rfl (El (wpAny_listPart .none ?_))));rw[if_neg hstep];refine El (Zl hos hds (x:=vl) rfl (El (wpAny_listPart pl ?_)));refine El (Zl hos hds (x:=.none) rfl (El (wpAny_listPart .none (Ev ?_))));have hsame:listSameRef (.ref x) (.ref e)=false:=by simp[listSameRef,hne]
 dsimp only;rw[hsame];refine El (m:=listAllItems (.ref e) "must assign iterable to extended slice") ?_;skip;refine El (aag hTe ?_);refine aa (if_pos (by decide)) (El (YY he rfl (Ev ?_)));refine El (El (YY hx hd (Ev ?_)));refine El (XG (sliceIndices_raw (some (i:Int)) none none (⟨xs⟩:Array W2).size (by simp)) ?_);rw[sliceBounds_plain];dsimp only;refine aa (if_pos (by decide)) (El (ZZ ?_));have hz:(⟨xs⟩:Array W2).size<=sizeLine:=by (refine aa Ze ?_);show xs.length<=_;exact pH hf
 have hl:¬(listTooLong ((⟨xs⟩:Array W2).size+(#[]:Array W2).size)=true):=by
  skip;refine aa decide_eq_true_eq (aa Ze ?_);show ¬(xs.length+0 > _);exact D7 hf
 refine aa (if_neg hl) ?_;skip;have hn:(ZQ xs.length (i:Int))=min i xs.length:=clipAt_nat _ _;refine El (ZV hx hd ?_ hz ?_)
 ·refine El (wpAny_letGo (Ev (q _ ?_)));show(⟨xs⟩:Array W2).extract 0 _++#[]++(⟨xs⟩:Array W2).extract _ _=_;have h1:(Max.max (Nat.cast (ZQ xs.length (i:Int)):Int) (Nat.cast xs.length:Int)).toNat=xs.length:=by rw[hn];exact wt
  simp[h1];exact aa hn D8
 ·have h1:(Max.max (Nat.cast (ZQ xs.length (i:Int)):Int) (Nat.cast xs.length:Int)).toNat=xs.length:=by rw[hn];exact wt
  show((⟨xs⟩:Array W2).extract 0 (Nat.cast (ZQ xs.length (i:Int)):Int).toNat++#[]++(⟨xs⟩:Array W2).extract (Max.max (Nat.cast (ZQ xs.length (i:Int)):Int) (Nat.cast xs.length:Int)).toNat).size<=_;refine aa h1 (aa Ze ?_);simp only[Array.size_append,Array.size_extract,List.size_toArray,Xq];exact D9 hf
end
end
section
set_option backward.match.sparseCases true
open Builtin Builtin.List
structure dD(prog:Y3)(K:Frag)(a:Addr)(st:Stmt)(cl:List (Str×Addr))(dflt:W2->Prop):Prop where
 ex:∃o fd cd oc vs t file tf,K.lookup a=some o/\o.cls=.type "function"/\o.data=.func fd/\fd.body=.stmts (bt st)/\fd.params=aU st/\fd.scope=aF st/\fd.closure=cl/\fd.globals=Xj/\fd.builtins=Yi/\
  dflt fd.defaults/\fd.code=.ref cd/\K.lookup cd=some oc/\oc.data=.fields vs/\vs[1]?=some (.str fd.qualname t)/\vs[2]?=some (.str file tf)/\(prog.main.file==file)=true
section
variable{a:Addr}{st:Stmt}{cl:List (Str×Addr)}{dflt:W2->Prop}
theorem z7{us:List W2}{Q:W2->Xd->Prop}(F:dD prog K a st cl dflt)(X:K.In s.heap)(hlim:s.heap.NoLimit)(hroom:A.depth<YH)
  (hk:(aF st).kind=.function)(hco:(aF st).isCoroutine=false)(hgen:(aF st).isGenerator=false)(hcell:∀x∈(aF st).names,x.2≠.cell)
  (hloc:∀y∈(aU st).args,(aF st).names.lookup y.arg=some .local)
  (hbind:∀fd:Yz,fd.params=aU st->dflt fd.defaults->BindsTo s fd ⟨us,[]⟩ (((aU st).args.map (·.arg)).zip us))
  (h:∀fd:Yz,∀oF cd oc vs t file tf,s.heap.get? a=some oF->oF.data=.func fd->fd.params=aU st->fd.scope=aF st->fd.closure=cl->fd.globals=Xj->fd.builtins=Yi->fd.code=.ref cd->s.heap.get? cd=some oc->oc.data=.fields vs->vs[2]?=some (.str file tf)->(prog.main.file==file)=true->
   vs[1]?=some (.str fd.qualname t)->∀h₀,h₀.Ns s.heap.objs.size (λx=>(((aU st).args.map (·.arg)).zip us).reverse.lookup x)->(∀b o,s.heap.get? b=some o->h₀.get? b=some o)->
   _root_.PySem.wpAt (Xe prog w) (A.deeper (YL fd s.heap.objs.size a)) (.func (bt st) (YL fd s.heap.objs.size a)) (execs (bt st) (YL fd s.heap.objs.size a)) (λf s'=>Q (match f with | .ret v=>v | _=>.none) s') (λ_ _=>False)
    {s with heap:=h₀,toks:=s.toks+(((aU st).args.map (·.arg)).zip us).length}) :
  Zq (Xe prog w) A (.call (.ref a) ⟨us,[]⟩) (λr s'=>match r with | .ok (.ret v)=>Q v s' | .ok _=>False | .error e=>nr e s') s:=by
 refine lx F.ex λo fd cd oc vs t file tf zc0=>mr zc0 λe1 e2 e3 e4 e5 e6 zc1=>mr zc1 λe7 e8 e9 e10 e11 e12 zc2=>gV zc2 λe13 e14 e15 e16=>(ks_codeAny_call_defAt (fd:=fd) (body:=bt st) (binds:=((aU st).args.map (·.arg)).zip us) hroom (X _ _ e1) e3 hlim ⟨cd,oc,vs,t,e11,X _ _ e12,e13,e14⟩ e4 (hbind fd e5 e10) (by (refine aa e6 ?_);exact hcell) (λx hx=>?_) (λh₀ hns hk₀=>?_) (by (refine aa e6 ?_);exact hco) (by (refine aa e6 ?_);exact hgen) (by (refine aa e6 ?_);exact hk))
 ·exact af (Yp.mp (List.of_mem_zip hx).1) λy hy e=>aa e6 (aS e (hloc y hy))
 ·exact ks_wpAt_mono (h fd o cd oc vs t file tf (X _ _ e1) e3 e5 e6 e7 e8 e9 e11 (X _ _ e12) e13 e15 e16 e14 h₀ hns hk₀) (λf s' q=>q) λ_ _ z=>z.elim
theorem mY{us:List W2}{Q:W2->Xd->Prop}(F:dD prog K a st cl dflt)(X:K.In s.heap)(hlim:s.heap.NoLimit)(hroom:A.depth<YH)
  (hk:(aF st).kind=.function)(hco:(aF st).isCoroutine=false)(hgen:(aF st).isGenerator=false)(hcell:∀x∈(aF st).names,x.2≠.cell)
  (hloc:∀y∈(aU st).args,(aF st).names.lookup y.arg=some .local)
  (hbind:∀fd:Yz,fd.params=aU st->dflt fd.defaults->BindsTo s fd ⟨us,[]⟩ (((aU st).args.map (·.arg)).zip us))
  (h:∀fd:Yz,∀oF cd oc vs t file tf,s.heap.get? a=some oF->oF.data=.func fd->fd.params=aU st->fd.scope=aF st->fd.closure=cl->fd.globals=Xj->fd.builtins=Yi->fd.code=.ref cd->s.heap.get? cd=some oc->oc.data=.fields vs->vs[2]?=some (.str file tf)->(prog.main.file==file)=true->
   vs[1]?=some (.str fd.qualname t)->∀h₀,h₀.Ns s.heap.objs.size (λx=>(((aU st).args.map (·.arg)).zip us).reverse.lookup x)->(∀b o,s.heap.get? b=some o->h₀.get? b=some o)->
   _root_.PySem.wpAt (Xe prog w) (A.deeper (YL fd s.heap.objs.size a)) (.func (bt st) (YL fd s.heap.objs.size a)) (execs (bt st) (YL fd s.heap.objs.size a)) (λf s'=>Q (match f with | .ret v=>v | _=>.none) s') (λ_ _=>False)
    {s with heap:=h₀,toks:=s.toks+(((aU st).args.map (·.arg)).zip us).length}) :
  Xf (Xe prog w) A (call (.ref a) us) Q nr s:=
 Zr (z7 F X hlim hroom hk hco hgen hcell hloc hbind h)
theorem Me(fd:Yz)(h:fd.params=aU (bc 1))(hd:fd.defaults=.none)(u1 u2 u3:W2):bindArgs fd ⟨[u1,u2,u3],[]⟩=pure (((aU (bc 1)).args.map (·.arg)).zip [u1,u2,u3]):=by
 obtain⟨n,q,p,b,sc,g,cl,df,kd,dc,pm,an,cd,ct,bi⟩:=fd;dsimp only at h hd;subst h hd
 rfl'
end
open Builtin Builtin.List
noncomputable abbrev ew(dx:Addr)(vs:List W2)(n:Nat):Obj:={cls:=.ref aN,dict:=some dx,data:=.seq ⟨vs⟩ n}
section
variable{b dx:Addr}{vs vs':List W2}{n':Nat}{z:Int}{l l':List AV}{h':Heap}
theorem aC.set{h:Heap}{o:Obj}{xs:Array W2}(B:aC K h)(lo:n₀<=b)(g:h.get? b=some o)(d:o.data=.seq xs n)(hs:XC b h h'):aC K h':=by
 have ne:∀a,a<n₀->a≠b:=λa h e=>by subst e;exact absurd h (XN.mpr lo)
 refine⟨λa o e t=>?_,?_,λp hp=>?_,?_,B.old,B.lim.at λo e=>hs.extBut _ o (ne _ kQ) e⟩
 ·refine hs.extBut a o ?_ (B.stat a o e t);rintro rfl;exact absurd (B.old _ _ e) (XN.mpr lo)
 ·exact af B.bns λmb a1 a2=>(ah mb (a1.at' λo e=>hs.extBut _ o (ug (h':=h) a1 g d) e) a2)
 ·refine dY (B.tab p hp) λps e1 e2 e3=>(de ps (hs.extBut _ _ (ne _ ?_) e1) e2 e3);apply dp;simp only[cz,Xk,Xw,or_false]at hp;clear e1 e3;rcases hp with rfl | rfl | rfl | rfl<;>simp[aG]
 ·exact al B.top λo e=>⟨o,hs.extBut _ o (ne _ (by decide)) e⟩
theorem bD.acc{h:Heap}(C:bD c h b ⟨some z,l⟩):l.length<=aD+1/\∃vs n dx,h.get? b=some (ew dx vs n)/\aq c h l vs/\eS h dx z/\(n₀<=dx/\dx+1=b)/\¬c.fr dx:=C
theorem Mf{h:Heap}(g:h.get? b=some (ew dx vs n))(i:eS h dx z):dx≠b:=by
 rintro rfl;refine dd i λe t ep g' zz=>?_;rw[g]at g';clear i g zz;cases g'
theorem uQ(B:aC K s.heap)(C:bW c s.heap)(hb:b∈c.cells)(X:ae X0 s s1)(g:s.heap.get? b=some (ew dx vs n))(i:eS s.heap dx z)(lo:n₀<=dx/\dx+1=b)(nf:¬c.fr dx)
  (hs:XC b s1.heap h')(g':h'.get? b=some (ew dx vs' n'))(hl:l'.length<=aD+1)(rr:b6 c s.heap h'->aq c h' l' vs')(tk:Nat) :
  ae (λx=>x=b\/aG x) s {s1 with heap:=h',toks:=tk}/\aC K h'/\bD c h' b ⟨some z,l'⟩:=by
 have B1:=B.keep0 X.all;have k:∀y o,s.heap.get? y=some o->y≠b->h'.get? y=some o:=λy o e ne=>hs.extBut y o ne (X.all y o e);have kd:b6 c s.heap h':=B.keepData C λy o e nx=>k y o e λq=>nx (.inl (q▸hb));refine⟨⟨λy o e nx=>k y o e λq=>nx (.inl q),λy o e=>?_,X.os,X.gens⟩,B1.set (C.low b hb) (X.all _ _ g) rfl hs,hl,vs',n',dx,g',rr kd,i.keep λo e=>k dx o e (Mf g i),lo,nf⟩;by_cases q:y=b
 ·clear g lo e;refine aa q ?_;exact⟨_,g'⟩
 ·exact⟨o,k y o e q⟩
theorem z8{od:Obj}{e:ZS}{ep:Nat}{u:Tok}{name:Str}(h:od={cls:=.type "dict",data:=.dict #[e] ep})(hk:e.key=.str d8 u):lookIn name od=some (if (d8==name)=true then some e.val else none):=by
 subst h;obtain⟨hh,k,v⟩:=e;dsimp only at hk;refine aa hk ?_;dsimp only[lookIn];have:(Value.str d8 u).isStr name=(d8==name):=by first | rfl | (simp[Value.isStr])
 refine aa (List.find?_cons) ?_;refine aa (this) ?_;cases d8==name<;>rfl
theorem iY{h:Heap}(g:h.get? b=some (ew dx vs n))(i:eS h dx z):∃od e t,InstAt h b (ew dx vs n) aN (some od)/\e=Value.int z t/\(∀name:Str,(d8==name)=false->shadowIn (some od) name=some false)/\lookIn d8 od=some (some e):=by
 refine fJ i λe t ep gd zn4 hv=>al zn4 λu hk=>⟨_,e.val,t,⟨g,rfl,rfl,gd⟩,hv,λname hn=>?_,?_⟩
 ·unfold shadowIn;dsimp only;refine aa (z8 rfl hk) (aa (hn) ?_);rfl
 ·rw[z8 rfl hk,beq_self_eq_true];rfl
theorem jD{M:Model}{h:Heap}{od:Option Obj}(F:eU (Kn K))(B:aC K h)(I:InstAt h b (ew dx vs n) aN od):fO M h b aN:=⟨I.type,looks_mroIn B.kn F.sub⟩
theorem iZ{fd:Yz}{L a:Addr}{X:Str}{pos:Pos}{m:Str->Option W2}{v:W2}{Q:W2->Xd->Prop}{M:Model}(hk:fd.scope.kind=.function)
  (hl:fd.scope.names.lookup X=some .local)(hn:s.heap.Ns L m)(hv:m X=some v)(h:Q v s)(hd:(X==("__debug__":Str))=false) :
  Xf M A (eval (.Name X pos) (YL fd L a)) Q E s:=ldc hk hl hn hv h hd
end
set_option backward.match.sparseCases false
end
section
open Builtin Builtin.List
noncomputable def cA(v:W2):Prop:=v=.none
section
variable{b dx:Addr}{vs vs':List W2}{n':Nat}{z:Int}{l l':List AV}{h':Heap}
theorem qB{h:Heap}{f:Array W2->Array W2}{ys:List W2}(g:h.get? b=some (ew dx vs n))(e:f ⟨vs⟩=⟨ys⟩):∃n',(h.update b (Y2 f)).get? b=some (ew dx ys n'):=by
 refine al (Obj.data_mapSeq (o:=ew dx vs n) rfl f) λn' hd'=>⟨n',?_⟩;refine aa (Zz _ g (Obj.isFreed_of_seq hd')) ?_;have e2:Y2 f (ew dx vs n)={cls:=.ref aN,dict:=some dx,data:=(Y2 f (ew dx vs n)).data}:=rfl;rw[e2,hd',e]
theorem uR{h h':Heap}{x C:Addr}{ox:Obj}{od:Option Obj}(I:InstAt h x ox C od)(k:∀b o,h.get? b=some o->h'.get? b=some o):InstAt h' x ox C od:=by
 obtain⟨a,b,c,d⟩:=I;refine⟨k _ _ a,b,c,?_⟩;revert d;cases ox.dict<;>cases od<;>first | exact id | exact λe=>k _ _ e
theorem z9:∃P:Pos×Pos×Pos×Pos×Pos×Pos×Pos×Nat,bt (bc 1)=[.Expr (.Call (.Attribute (.Name "self" (P.1)) "append" (P.2.1)) [.Tuple [.Name "fws" (P.2.2.1),.Name "string" (P.2.2.2.1)] (P.2.2.2.2.2.2.2) (P.2.2.2.2.1)] [] (P.2.2.2.2.2.1)) (P.2.2.2.2.2.2.1)]/\(P.2.1.endLine==P.2.2.2.2.2.1.line)=true:=(ah (_,_,_,_,_,_,_,_) rfl rfl)
noncomputable def dU:Pos×Pos×Pos×Pos×Pos×Pos×Pos×Nat:=ZN z9
theorem Mg:bt (bc 1)=[.Expr (.Call (.Attribute (.Name "self" (dU.1)) "append" (dU.2.1)) [.Tuple [.Name "fws" (dU.2.2.1),.Name "string" (dU.2.2.2.1)] (dU.2.2.2.2.2.2.2) (dU.2.2.2.2.1)] [] (dU.2.2.2.2.2.1)) (dU.2.2.2.2.2.2.1)]/\(dU.2.1.endLine==dU.2.2.2.2.2.1.line)=true:=Y9 z9
theorem Mh(F:eU (Kn K))(P:dD prog (Kn K) 62 (bc 1) [] cA){us:List W2}{a1 a2:List Nat}(B:aC K s.heap)(C:bW c s.heap)(hb:b∈c.cells)(hc:bD c s.heap b ⟨some z,l⟩)(hl:l.length<=aD)
  (hr:aq c s.heap [.str a1,.str a2] us)(tk:1<=s.toks)(R:az m A) :
  Xf (Xe prog w) A (call (.ref 62) (.ref b::us)) (λv s'=>ae (λx=>x=b\/aG x) s s'/\aC K s'.heap/\bD c s'.heap b ⟨some z,l++[.tup [.str a1,.str a2]]⟩/\ao c s'.heap .none v) nr s:=by
 refine ji hc.acc λzz vs n dx g rr i lo nf=>nG hr λu1 zz zr2 r1 u2 zz zc0=>da zc0 λzr6 r2 zr8=>?_;clear hr zc0;subst zr2;subst zr6;subst zr8;refine mY P B.kn B.lim R.depth (by rfl') (by rfl') (by rfl') (by decide +kernel) (by decide +kernel) (λfd e1 e2=>.of_eq (Me fd e1 e2 _ _ _)) (λfd oF cd oc fs t file tf e1 e2 e3 e4 e5 e6 e7 e8 e9 e10 e11 e12 e13 h₀ hns hk=>?_);refine aw Mg λhbody hline=>aa hbody ?_;obtain⟨h,gg,d,t0,os⟩:=s;have g0:=hk _ _ g;have i0:=i.keep λo e=>hk dx o e;refine fc (iY g0 i0) λod ev te I zr4 hsh hlk=>?_;clear hc i0 hlk;subst zr4;have B0:=B.keep0 hk;have hs4:fd.scope.kind=.function:=by (refine aa e4 ?_);rfl'
 have hint:interactive (YL fd h.objs.size 62)=false:=by unfold interactive;(refine aa (show(YL fd h.objs.size 62).scope.kind=.function from hs4) ?_);rfl
 refine YF (Y6 (wpAny_Expr_any ?_ hint rfl));have few:((aae dU.2.2.2.2.2.1 (YD [.Tuple [.Name "fws" dU.2.2.1,.Name "string" dU.2.2.2.1] dU.2.2.2.2.2.2.2 dU.2.2.2.2.1] (YL fd h.objs.size 62))).all (λx=>!x.1)&&(backToKw dU.2.2.2.2.2.1 (keywordEach [] (YL fd h.objs.size 62))).all (λx=>x.1.isSome)
   &&decide ([Expr.Tuple [.Name "fws" dU.2.2.1,.Name "string" dU.2.2.2.1] dU.2.2.2.2.2.2.2 dU.2.2.2.2.1].length+([]:List Keyword).length+(if ([]:List Keyword).isEmpty then 0 else 1)<30))=true:=gK rfl rfl
 refine uE (g9 rfl _) few hline (iZ hs4 (by rw[e4];decide +kernel) hns rfl ?_ (by decide +kernel));refine uO B0.kn I F.ga F.noga F.append (ft:=.type "method_descriptor") (by rfl') (by decide) (hsh _ (by decide +kernel)) ?_;have tup:∀A' E,Xf (Xe prog w) A' (eval (.Tuple [.Name "fws" dU.2.2.1,.Name "string" dU.2.2.2.1] dU.2.2.2.2.2.2.2 dU.2.2.2.2.1) (YL fd h.objs.size 62)) (λv s'=>v=.ref h₀.objs.size/\s'=⟨h₀.push {cls:=.type "tuple",data:=.seq #[u1,u2]},gg,d,t0+3,os⟩) E ⟨h₀,gg,d,t0+3,os⟩:=λA' E=>by
  refine Tuple_ (XK (iZ hs4 (by rw[e4];decide +kernel) hns rfl (XK (iZ hs4 (by rw[e4];decide +kernel) hns rfl (YC ?_) (by decide +kernel))) (by decide +kernel)));exact wpAny_newTuple ⟨rfl,rfl⟩
 refine XW rfl (YI (XK (KE (tup _ _) (λv s' q=>YC ?_) λ_ _ z=>z)));refine aw q λzr0 zr1=>aa zr0 (aa zr1 ?_);have kp:∀y o,h₀.get? y=some o->(h₀.push {cls:=.type "tuple",data:=.seq #[u1,u2]}).get? y=some o:=λy o e=>Xg _ e;have g1:=kp _ _ g0;have L:=jD (M:=Xe prog w) F (B0.keep0 kp) (uR I kp);have hlen:vs.length<=8192:=by have:=rr.length;have:aD=4096:=rfl;omega
 refine mX L (.inr LJ) LP (LQ _ _) LE LL λA'=>LS g1 rfl hlen (ah _ rfl ?_);skip;refine Y6 (Ev ?_);refine al (qB (f:=(·.push (.ref h₀.objs.size))) (ys:=vs++[.ref h₀.objs.size]) g1 (by simp)) λn' g2=>?_;have X:ae X0 (⟨h,gg,d,t0,os⟩:Xd) ⟨h₀.push {cls:=.type "tuple",data:=.seq #[u1,u2]},gg,d,t0+3,os⟩:=ae.kept (λy o e=>kp y o (hk y o e)) rfl id;have fin:=uQ (s1:=⟨h₀.push {cls:=.type "tuple",data:=.seq #[u1,u2]},gg,d,t0+3,os⟩) (l':=l++[.tup [.str a1,.str a2]]) B C hb X g i lo nf (Yt ..) g2 (by (refine aa Om ?_);show l.length+1<=_;exact wu hl) (λkd=>?_) (t0+3)
 ·exact(iJ fin.1 fin.2.1 fin.2.2 rfl)
 ·have hnb:h₀.objs.size≠b:=λe=>absurd (Xm g0) (by (refine aS e ?_);exact XR _);have old:∀y,c.ex y->y<h₀.objs.size:=λy hy=>al (C.live y hy) λo e=>Xm (hk y o e);refine(rr.keep kd).append (aq.cons (dS h₀.objs.size ([u1,u2]) 0 rfl (λhx=>absurd (old _ hx) (XR _)) ?_ (by show 2<=4096;decide) (aq.cons (r1.keep kd) (aq.cons (r2.keep kd) aq.nil))) aq.nil);exact(Yt ..).extBut _ _ hnb (Xl _ rfl)
theorem Aa{C x:Addr}{value slice:Expr}{i:W2}{Q:W2->Xd->Prop}(X:(Kn K).In s.heap)(L:fO (Xe prog w) s.heap x C)(hq:noSeq (Kn K) C=true)(hf:YS (Kn K) (.ref C) "__getitem__"=some (some (.builtin "list.__getitem__")))
  (h:Xf (Xe prog w) A (call (.builtin "list.__getitem__") [.ref x,i]) Q E s):Xf (Xe prog w) A (Z2 value slice (.ref x) i) Q E s:=by
 have LF:=Zw (M:=Xe prog w) X hf;have gi:Xf (Xe prog w) A (getItem (.ref x) i) Q E s:=by
  skip;refine XQ (El (z3 X L hq (El (z2 (args:=[i]) L LF (LW _) (KE h (λv s' q=>Ev q) λ_ _ z=>z)))))
 skip;refine El ?_;skip;refine El (El (L.typ.here (LF.here ?_)));exact Ev (El (yz gi))
theorem Mi(F:eU (Kn K)){i:Int}{t:Tok}{r:AV}{e1 e2:Expr}(B:aC K s.heap)(hc:bD c s.heap b ⟨some z,l⟩)(h:is l i=some r) :
  Xf (Xe prog w) A (Z2 e1 e2 (.ref b) (.int i t)) (ff c s r) nr s:=by
 refine ji hc.acc λhl vs n dx g rr ia lo nf=>fc (iY g ia) λod ev te I zr4 hsh hlk=>?_;clear hc ia hlk;subst zr4;refine iI (qg h rr) λv k rv hk hlt hi h0 h1=>?_;have hm:aD=4096:=rfl;have L:=jD (M:=Xe prog w) F B I;refine Aa B.kn L F.noSeq F.getitem (mX L (.inr z5) z6 (z4 _ _) zX zY λA'=>?_);obtain⟨h,gg,d,t0,os⟩:=s;exact Mb g rfl (by rw[rr.length];exact Ea hl hm) hi hk h0 (λq=>(h1 q).2) (de _ rfl (ae.refl _ _) rv)
end
end
section
open Builtin Builtin.List
noncomputable def fQ(K:Frag)(d:Addr)(v:W2):Prop:=v=.ref d/\∃c od x n sl,K.lookup d=some ⟨c,od,.seq #[x] n,sl⟩
section
variable{b dx:Addr}{vs vs':List W2}{n':Nat}{z:Int}{l l':List AV}{h':Heap}
theorem uS{h:Heap}{d:Addr}{o:Obj}(e:h.get? d=some o):Frag.In [(d,o)] h:=λa o' q=>by
 rw[Yy]at q;cases p:a==d with
 | true=>rw[p]at q;(injection q with zi;subst zi);(refine aa (beq_iff_eq.mp p) ?_);exact e
 | false=>rw[p]at q;exact aT q
theorem Mj(h:(Kn K).In s.heap)(fd:Yz)(hp:fd.params=aU (bc 2))(hd:fQ (Kn K) 63 fd.defaults)(u1 u2:W2):BindsTo s fd ⟨[u1,u2],[]⟩ (((aU (bc 2)).args.map (·.arg)).zip [u1,u2]):=by
 refine si hd λe1 cc od x n sl e2=>kp_binds (uS (h _ _ e2)) λS=>?_;obtain⟨n,q,p,bo,sc,g,cl,df,kd,dc,pm,an,cd,ct,bi⟩:=fd;dsimp only at hp e1;subst hp e1
 rfl'
theorem Mk(h:(Kn K).In s.heap)(fd:Yz)(hp:fd.params=aU (bc 0))(hd:fQ (Kn K) 47 fd.defaults)(u1 u2:W2):BindsTo s fd ⟨[u1,u2],[]⟩ (((aU (bc 0)).args.map (·.arg)).zip [u1,u2]):=by
 refine si hd λe1 cc od x n sl e2=>kp_binds (uS (h _ _ e2)) λS=>?_;obtain⟨n,q,p,bo,sc,g,cl,df,kd,dc,pm,an,cd,ct,bi⟩:=fd;dsimp only at hp e1;subst hp e1
 rfl'
theorem Ab{i:Nat}(hi:i=3\/i=4\/i=5\/i=8)(fd:Yz)(hp:fd.params=aU (bc i))(hd:fd.defaults=.none)(u1:W2):bindArgs fd ⟨[u1],[]⟩=pure (((aU (bc i)).args.map (·.arg)).zip [u1]):=by
 obtain⟨n,q,p,b,sc,g,cl,df,kd,dc,pm,an,cd,ct,bi⟩:=fd;dsimp only at hp hd;subst hp hd;rcases hi with rfl | rfl | rfl | rfl<;>rfl'
theorem Ac:∃P:Pos×Pos×Pos×Pos×Pos×Pos×Pos×Pos×Pos×Pos×Pos×Pos×Pos×Pos,bt (bc 2)=[.Assign [.Name "popped" (P.1)] (.Subscript (.Name "self" (P.2.1)) (.Slice (some (.Name "i" (P.2.2.1))) none none (P.2.2.2.1)) (P.2.2.2.2.1)) (P.2.2.2.2.2.1),
  .Assign [.Subscript (.Name "self" (P.2.2.2.2.2.2.1)) (.Slice (some (.Name "i" (P.2.2.2.2.2.2.2.1))) none none (P.2.2.2.2.2.2.2.2.1)) (P.2.2.2.2.2.2.2.2.2.1)] (.List [] (P.2.2.2.2.2.2.2.2.2.2.1)) (P.2.2.2.2.2.2.2.2.2.2.2.1),.Return (some (.Name "popped" (P.2.2.2.2.2.2.2.2.2.2.2.2.1))) (P.2.2.2.2.2.2.2.2.2.2.2.2.2)]:=⟨(_,_,_,_,_,_,_,_,_,_,_,_,_,_),rfl⟩
noncomputable def gM:Pos×Pos×Pos×Pos×Pos×Pos×Pos×Pos×Pos×Pos×Pos×Pos×Pos×Pos:=ZN Ac
theorem Ml:bt (bc 2)=[.Assign [.Name "popped" (gM.1)] (.Subscript (.Name "self" (gM.2.1)) (.Slice (some (.Name "i" (gM.2.2.1))) none none (gM.2.2.2.1)) (gM.2.2.2.2.1)) (gM.2.2.2.2.2.1),
  .Assign [.Subscript (.Name "self" (gM.2.2.2.2.2.2.1)) (.Slice (some (.Name "i" (gM.2.2.2.2.2.2.2.1))) none none (gM.2.2.2.2.2.2.2.2.1)) (gM.2.2.2.2.2.2.2.2.2.1)] (.List [] (gM.2.2.2.2.2.2.2.2.2.2.1)) (gM.2.2.2.2.2.2.2.2.2.2.2.1),.Return (some (.Name "popped" (gM.2.2.2.2.2.2.2.2.2.2.2.2.1))) (gM.2.2.2.2.2.2.2.2.2.2.2.2.2)]:=Y9 Ac
theorem Mm{C x:Addr}{i v:W2}{Q:Unit->Xd->Prop}(X:(Kn K).In s.heap)(L:fO (Xe prog w) s.heap x C)(hq:noSeq (Kn K) C=true)(hf:YS (Kn K) (.ref C) "__setitem__"=some (some (.builtin "list.__setitem__")))
  (h:Xf (Xe prog w) A (call (.builtin "list.__setitem__") [.ref x,i,v]) (λ_=>Q ()) E s):Xf (Xe prog w) A (setItem (.ref x) i v) Q E s:=by
 have LF:=Zw (M:=Xe prog w) X hf;exact XQ (El (z3 X L hq (El (z2 (args:=[i,v]) L LF (Ma.bind _) (KE h (λv s' q=>Ev q) λ_ _ z=>z)))))
theorem Mn(F:eU (Kn K))(P:dD prog (Kn K) 70 (bc 2) [] (fQ (Kn K) 63)){us:List W2}{j:Nat}(B:aC K s.heap)(C:bW c s.heap)(hb:b∈c.cells)(hc:bD c s.heap b ⟨some z,l⟩)
  (hlm:l.length<=aD)(hr:aq c s.heap [.int (.ofNat j)] us)(tk:1<=s.toks)(R:az m A) :
  Xf (Xe prog w) A (call (.ref 70) (.ref b::us)) (λv s'=>ae (λx=>x=b\/aG x) s s'/\aC K s'.heap/\bD c s'.heap b ⟨some z,l.take j⟩/\ao c s'.heap (.lst (l.drop j)) v) nr s:=by
 refine ji hc.acc λhl vs n dx g rr i lo nf=>bb hr λu1 zz zr2 zn3 zr4=>aa zr2 ?_;obtain⟨ti,rfl⟩:=zn3;refine aa zr4 ?_;have hm:aD=4096:=rfl;have hlen:vs.length<=8192:=by have:=rr.length;exact Eb hlm hm this
 refine mY P B.kn B.lim R.depth (by rfl') (by rfl') (by rfl') (by decide +kernel) (by decide +kernel) (λfd e1 e2=>Mj B.kn fd e1 e2 _ _) (λfd oF cd oc fs t file tf e1 e2 e3 e4 e5 e6 e7 e8 e9 e10 e11 e12 e13 h₀ hns hk=>?_);have hbody:=Ml;refine aa hbody ?_;obtain⟨h,gg,d,t0,os⟩:=s;have g0:=hk _ _ g;have i0:=i.keep λo e=>hk dx o e;refine fc (iY g0 i0) λod ev te I zr4 hsh hlk=>aa zr4 ?_;have B0:=B.keep0 hk;have hs4:fd.scope.kind=.function:=by (refine aa e4 ?_);rfl'
 have L:=jD (M:=Xe prog w) F B0 I;dsimp only at hns hk g0 i0 B0 I L;refine YF (Y6 (Zj (PyProof.Rows.Subscript_ (iZ hs4 (by (refine aa e4 ?_);decide +kernel) hns rfl (wpAny_Slice ?_) (by decide +kernel))) rfl));refine iZ hs4 (by (refine aa e4 ?_);decide +kernel) hns rfl ?_ (by decide +kernel);rw[evalPart_none];refine Ev (Ev ?_);have hsl:=Heap.IsSliceOf.new h₀ (.int (Int.ofNat j) ti) .none .none;have k1:∀y o,h₀.get? y=some o->(h₀.push {cls:=.type "slice",data:=.fields #[.int (Int.ofNat j) ti,.none,.none]}).get? y=some o:=λy o e=>Xg _ e;have e0:Xp.List.listFitsIndex 0=true:=by decide
 refine Aa (B0.keep0 k1).kn ⟨L.typ.keeps k1,L.sub.keeps k1⟩ F.noSeq F.getitem (mX ⟨L.typ.keeps k1,L.sub.keeps k1⟩ (.inr z5) z6 (z4 _ _) zX zY λA'=>
  Mc (k1 _ _ g0) rfl hlen hsl (.int _ _) .none .none (by simp) (ah _ rfl ?_))
 have hpick:slicePick ⟨vs⟩ (some (Int.ofNat j)) none none=(⟨vs.drop j⟩:Array W2):=by
  rw[slicePick_plain];show((vs.drop (ZQ vs.length (j:Int))).take _).toArray=_;rw[clipAt_nat];rw[Zo (by
   refine aa Zu ?_;show vs.length-min j vs.length<=vs.length-ZQ vs.length (j:Int);rw[clipAt_nat];exact Xs _)]
  by_cases hj:j<=vs.length
  ·refine aa (Nat.min_eq_left hj) ?_;rfl
  ·refine aa (Nat.min_eq_right (by exact wv hj)) (aa List.drop_length (aa (List.drop_eq_nil_of_le (by exact wv hj)) ?_));rfl
 refine aa hpick ?_;rw[XV];generalize hh1:h₀.push {cls:=.type "slice",data:=.fields #[.int (Int.ofNat j) ti,.none,.none]}=h1 at k1;have s1:h1.objs.size=h₀.objs.size+1:=by rw[<-hh1,XV]
 have k2:∀y o,h1.get? y=some o->(h1.push {cls:=.type "list",data:=.seq (⟨vs.drop j⟩:Array W2)}).get? y=some o:=λy o e=>Xg _ e;have gl:(h1.push {cls:=.type "list",data:=.seq (⟨vs.drop j⟩:Array W2)}).get? (h₀.objs.size+1)=some {cls:=.type "list",data:=.seq (⟨vs.drop j⟩:Array W2)}:=by (refine aS s1 ?_);exact Xl _ rfl
 generalize hh2:h1.push {cls:=.type "list",data:=.seq (⟨vs.drop j⟩:Array W2)}=h2 at k2 gl;have s2:h2.objs.size=h₀.objs.size+2:=by rw[<-hh2,XV,s1]
 have k02:∀y o,h₀.get? y=some o->h2.get? y=some o:=λy o e=>k2 y o (k1 y o e);refine wpAny_storeName_local (env:=YL fd h.objs.size 70) (show fd.scope.names.lookup _=_ by (refine aa e4 ?_);decide +kernel) (hns.keeps k02) (λh3 hn3 hs3=>?_) (by show(fd.scope.kind == .class||(fd.scope.kind == .module&&_))=false;(refine aa hs4 ?_);rfl);replace hs3:XC h.objs.size h2 h3:=hs3;replace hn3:h3.Ns h.objs.size (λx=>if x=YA "popped" then some (.ref (h₀.objs.size+1)) else List.lookup x ((List.map (λx=>x.arg) (aU (bc 2)).args).zip [Value.ref b,Value.int (Int.ofNat j) ti]).reverse):=hn3;have neL:∀y o,h.get? y=some o->y≠h.objs.size:=λy o e q=>absurd (Xm e) (by (refine aa q ?_);exact XR _);have gL:h.objs.size<h₀.objs.size:=dd hns λo zz zz e zz=>Xm e;have k3:∀y o,h.get? y=some o->h3.get? y=some o:=λy o e=>hs3.extBut y o (neL y o e) (k02 y o (hk y o e));have gl3:h3.get? (h₀.objs.size+1)=some {cls:=.type "list",data:=.seq (⟨vs.drop j⟩:Array W2)}:=hs3.extBut _ _ (aai (Ym gL)) gl;have B3:=B.keep0 k3;have g3:=k3 _ _ g;have I3:W.InstAt h3 b (ew dx vs n) aN (some od):=⟨g3,rfl,rfl,by
  have:=I.dict;exact hs3.extBut _ _ (dd i λzz zz zz e zz=>neL dx _ e) (k02 _ _ this)⟩
 have L3:=jD (M:=Xe prog w) F B3 I3;refine YF (Y6 (wpAny_Assign_Subscript (PyProof.Rows.List_ (YC (wpAny_newList ?_))) rfl));have k4:∀y o,h3.get? y=some o->(h3.push {cls:=.type "list",data:=.seq ([]:List W2).toArray}).get? y=some o:=λy o e=>Xg _ e;have ge:(h3.push {cls:=.type "list",data:=.seq ([]:List W2).toArray}).get? h3.objs.size=some {cls:=.type "list",data:=.seq #[]}:=Xl _ rfl;dsimp only at k4 ge ⊢;generalize hh4:h3.push {cls:=.type "list",data:=.seq ([]:List W2).toArray}=h4 at k4 ge;refine iZ hs4 (by (refine aa e4 ?_);decide +kernel) (hn3.keeps k4) rfl (wpAny_Slice (iZ hs4 (by (refine aa e4 ?_);decide +kernel) (hn3.keeps k4) rfl ?_ (by decide +kernel))) (by decide +kernel);rw[evalPart_none];refine Ev (Ev ?_);have hsl5:=Heap.IsSliceOf.new h4 (.int (Int.ofNat j) ti) .none .none;have k5:∀y o,h4.get? y=some o->(h4.push {cls:=.type "slice",data:=.fields #[.int (Int.ofNat j) ti,.none,.none]}).get? y=some o:=λy o e=>Xg _ e;dsimp only at k5 hsl5 ⊢;generalize hh5:h4.push {cls:=.type "slice",data:=.fields #[.int (Int.ofNat j) ti,.none,.none]}=h5 at k5 hsl5;have k35:∀y o,h3.get? y=some o->h5.get? y=some o:=λy o e=>k5 y o (k4 y o e);have L5:fO (Xe prog w) h5 b aN:=⟨L3.typ.keeps k35,L3.sub.keeps k35⟩;have hbe:b≠h3.objs.size:=λe=>absurd (Xm g3) (by (refine aS e ?_);exact XR _);refine Mm (B3.keep0 k35).kn L5 F.noSeq F.setitem (mX L5 (.inl LY) LZ (LX _ _ _) LG LM λA'=>
  Md (k35 _ _ g3) rfl hlen hsl5 (.int _ _) (k5 _ _ ge) hbe λf hf=>(ah _ rfl ?_))
 refine al (qB (f:=f) (ys:=vs.take j) (k35 _ _ g3) hf) λn' g6=>?_;have hs6:XC b h5 (h5.update b (Y2 f)):=Yt ..;generalize hh6:h5.update b (Y2 f)=h6 at g6 hs6;have hLb:h.objs.size≠b:=λe=>absurd (Xm g) (by (refine aS e ?_);exact XR _);have hn6:h6.Ns h.objs.size (λx=>if x=YA "popped" then some (.ref (h₀.objs.size+1)) else List.lookup x ((List.map (λx=>x.arg) (aU (bc 2)).args).zip [Value.ref b,Value.int (Int.ofNat j) ti]).reverse):=
  (hn3.keeps k35).at' λo e=>hs6.extBut _ o hLb e
 refine YF (Y6 (wpAny_Return_some (iZ hs4 (by (refine aa e4 ?_);decide +kernel) hn6 rfl ?_ (by decide +kernel))));have X:ae X0 (⟨h,gg,d,t0,os⟩:Xd) ⟨h5,gg,d,t0+3,os⟩:=ae.kept (λy o e=>k35 y o (k3 y o e)) rfl id;have fin:=uQ (s1:=⟨h5,gg,d,t0+3,os⟩) (l':=l.take j) B C hb X g i lo nf hs6 g6 (by (refine aa Xy ?_);exact Ec hlm) (λkd=>(rr.keep kd).take j) (t0+3);refine⟨fin.1,fin.2.1,fin.2.2,h₀.objs.size+1,vs.drop j,0,rfl,λhx=>?_,?_,by (refine aa Zu ?_);exact Ed hlm,?_⟩
 ·exact al (C.live _ hx) λo e=>absurd (Xm (hk _ o e)) (XN.mpr (XH _))
 ·exact hs6.extBut _ _ (λe=>absurd (Nat.lt_trans (Xm g) gL) (by (refine aS e ?_);exact XN.mpr (XH _))) (k35 _ _ gl3)
 ·have kd:b6 c h h6:=B.keepData C λy o e nx=>hs6.extBut y o (λq=>nx (.inl (q▸hb))) (k35 y o (k3 y o e));exact(rr.keep kd).drop j
end
end
section
open Builtin Builtin.List
section
variable{b dx:Addr}{vs vs':List W2}{n':Nat}{z:Int}{l l':List AV}{h':Heap}
theorem Mo{pos:Pos}{u b:Addr}{T f:String}{env:Env}{Q:W2->Xd->Prop}(hT:T="builtin_function_or_method"\/T="method-wrapper")(ho:s.heap.get? u=some (mW T f b))
  (h:Xf (Xe prog w) A (call (.ref u) []) Q E s):Xf (Xe prog w) A (callWith pos (.ref u) [] (aae pos (YD [] env)) []) Q E s:=by
 skip;refine El (XQ (PyProof.Rows.evalArgs_none (El (Yq ?_))));refine El (m:=keeperOf (.ref u)) ?_;skip;refine El (wpAny_load ho ?_);clear ho;rcases hT with rfl | rfl
 ·skip;exact Ev (El (KE h (λr s₂ hr=>El (XQ (wpAny_point (Ev hr)))) λ_ _ x=>x))
 ·skip;exact Ev (El (KE h (λr s₂ hr=>El (XQ (wpAny_point (Ev hr)))) λ_ _ x=>x))
theorem Mp{code:Code}{env:Env}{o:Expr}{name:Str}{apos pos:Pos}{Q:W2->Xd->Prop}
  (hline:(apos.endLine==pos.line)=true)
  (h:_root_.PySem.wpAt (Xe prog w) A code (attributeBase o name env (eval o env)) (λov s₁=>Xf (Xe prog w) A (calleeOf true o env ov name) (λp s2=>Xf (Xe prog w) A (callWith pos p.1 p.2 (aae pos (YD [] env)) []) Q E s2) E s₁) E s) :
  _root_.PySem.wpAt (Xe prog w) A code (eval (.Call (.Attribute o name apos) [] [] pos) env) Q E s:=by
 skip;refine _root_.PySem.wpAt_bind (ks_wpAt_mono h (λov s₁ h₁=>Y6 ?_) λ_ _ e=>e);refine El (Yq ?_);have hform:methodCallForm (([]:List Expr).length+([]:List Keyword).length) (aae pos (YD [] env)) (backToKw pos (keywordEach [] env))=true:=rfl;have hpos:methodCallPos true o env apos pos=pure pos:=by unfold methodCallPos;simp[hline]
 skip;refine aa hform (El (XQ (KE h₁ (λp s2 h2=>?_) λ_ _ e=>e)));exact El (XG hpos h2)
structure mZ(prog:Y3)(K:Frag)(h:Heap)(fd:Yz)(L a:Addr)(b:Addr)(mg:Str->Option W2):Prop where
 kind:fd.scope.kind=.function
 sup:fd.scope.names.lookup ("super":Str)=some .globalImplicit
 cls:fd.scope.names.lookup ("__class__":Str)=some .free
 self:fd.scope.names.lookup ("self":Str)=some .local
 clo:fd.closure=[(("__class__":Str),42)]
 glob:fd.globals=Xj
 blt:fd.builtins=Yi
 head:∃ar,(fd.params.posonlyargs++fd.params.args).head?=some ar/\ar.arg=("self":Str)
 fn:∃oF,h.get? a=some oF/\oF.data=.func fd
 code:∃cd oc vs file tf,fd.code=.ref cd/\h.get? cd=some oc/\oc.data=.fields vs/\vs[2]?=some (.str file tf)/\(prog.main.file==file)=true
 top:(prog.main.scope.names.lookup ("super":Str)).isSome=false
 main:h.Ns Xj mg
 none:mg "super"=Option.none
 ns:∃m,h.Ns L m/\m ("self":Str)=some (.ref b)
theorem mZ.keep{h h':Heap}{fd:Yz}{L a:Addr}(S:mZ prog K h fd L a b mg)(k:∀y o,h.get? y=some o->h'.get? y=some o):mZ prog K h' fd L a b mg:=
 ⟨S.kind,S.sup,S.cls,S.self,S.clo,S.glob,S.blt,S.head,(af S.fn λo e f=>(ah o (k _ _ e) f)),(let ⟨cd,oc,vs,fi,tf,e1,e2,e3⟩:=S.code;⟨cd,oc,vs,fi,tf,e1,k _ _ e2,e3⟩),S.top,S.main.keeps k,S.none,af S.ns λm e f=>(ah m (e.keeps k) f)⟩
theorem Mq{N:Frag}{a:Addr}{cd:ClassData}(h:clsIn N a=some cd):∃o,N.lookup a=some o/\o.data=.cls cd:=by
 unfold clsIn at h;cases q:N.lookup a with
 | none=>rw[q]at h;exact aT h
 | some o=>
  rw[q]at h;obtain⟨c,d,dt,sl⟩:=o;cases dt with
  | cls x=>exact⟨_,rfl,congrArg Data.cls (W9 h)⟩
  | _=>exact aT h
theorem uT(F:eU (Kn K)){fd:Yz}{L a:Addr}{body:List Stmt}{p0 p1 ap p:Pos}{name:Str}{f T tf gi:String}{Bi:Xp}{h:Heap}{g:Array GenState}{d:Drawn}{t:Nat}{os:OsState}{Q:W2->Xd->Prop}
  (hline:(ap.endLine==p.line)=true)(S:mZ prog K h fd L a b mg)(B:aC K h)(ga:h.get? b=some (ew dx vs n))(ia:eS h dx z)
  (hat:(name==("__class__":Str))=false)(hal:alongIn (Kn K) name [.type "list",.type "object"]=some (some (.builtin f)))
  (hTf:typeOf (.builtin f)=pure (.type tf))(Sg:Slot tf "__get__" gi)(hB:aak table gi=some Bi)(hargs:ZD gi ⟨[.builtin f,.ref b,.ref aN],[]⟩)(hT:T="builtin_function_or_method"\/T="method-wrapper")
  (hrun:∀A' h' t',fO (Xe prog w) h' b aN->Xf (Xe prog w) A' (Bi ⟨[.builtin f,.ref b,.ref aN],[]⟩) (λv s'=>v=.done (.ret (.ref h'.objs.size))/\s'=⟨h'.push (mW T f b),g,d,t',os⟩) (λ_ _=>False) ⟨h',g,d,t',os⟩)
  (hq:∀h2 t2 u,(∀y o,h.get? y=some o->h2.get? y=some o)->h2.get? u=some (mW T f b)->Xf (Xe prog w) A (call (.ref u) []) Q E ⟨h2,g,d,t2,os⟩) :
  _root_.PySem.wpAt (Xe prog w) A (.func body (YL fd L a)) (eval (.Call (.Attribute (.Call (.Name "super" p0) [] [] p1) name ap) [] [] p) (YL fd L a)) Q E ⟨h,g,d,t,os⟩:=by
 refine af S.head λar har harg=>af S.fn λoF gF dF=>DB S.code λcd oc fs file tfi zc0=>km zc0 λe1 e2 e3 e4 e5=>af S.ns λm hns hself=>fc (iY ga ia) λod ev te I zr4 hsh hlk=>?_;clear ia hlk;subst zr4;refine af B.bns λmb hmb hboot=>ko F.cls λcl hcl hmro hhd hdel hqn=>af (Mq hcl) λoC hC0 hC2=>?_;have hC1:=B.kn _ _ hC0;have hkn:(YL fd L a).scope.kind=.function:=S.kind;refine Mp hline (ks_wpAt_super_base (env:=YL fd L a) S.sup S.cls hat rfl gF dF har e1 e2 e3 e4 e5 S.top ?_)
 ·refine ks_loadName_global hkn S.sup (Zc (env:=YL fd L a) (by (refine aa (show(YL fd L a).globals=Xj from S.glob) ?_);exact S.main) S.none (by (refine aa (show(YL fd L a).builtins=Yi from S.blt) ?_);exact hmb) ((hboot _ (by decide +kernel)).trans PyProof.Rows.Boot.«super») ⟨rfl,?_⟩);refine af F.cell λocell hc1 hc2=>wpAny_loadName_free hkn S.cls (by show fd.closure.lookup _=_;(refine aa S.clo ?_);rfl) (ah _ (B.kn _ _ hc1) hc2) ?_;refine aa harg (ZE hkn S.self hns hself (ks_wpAny_isType_cls hC1 hC2 ⟨rfl,?_⟩));refine ks_wpAny_call_super hC1 hC2 I.at_ I.cls (λc e=>by injection e) (looks_mroIn B.kn (by unfold mroIn;rw[hcl,Zt,hmro];rfl)) (λh1 e k=>?_);have B1:=B.keep0 k;have hne:b≠aN:=λe=>by rw[e,hC1]at ga;(injection ga with zi;subst zi);injection hC2
  refine LA (K:=Kn K) (o:=mW T f b) e (looks_opaque B1.kn F.noOpaque) (l₀:=cl.mro) ?_ (by (refine aa hmro ?_);rfl) B1.kn hal hTf Sg hB hargs hne hat (λA' t'=>hrun A' h1 t' ?_) ?_
  ·exact λA Q E s k q=>El ((looks_clsIn B1.kn hcl) A _ E s k (Ev q))
  ·have L:=jD (M:=Xe prog w) F B1 (uR I k);exact L
  ·refine Mo hT (Xl _ rfl) (hq _ _ _ (λy o ey=>Xg _ (k y o ey)) (Xl _ rfl))
end
end
section
open Builtin Builtin.List
section
variable{b dx:Addr}{vs vs':List W2}{n':Nat}{z:Int}{l l':List AV}{h':Heap}
structure m0(prog:Y3)(K:Frag)(mg:Str->Option W2):Prop where
 top:(prog.main.scope.names.lookup ("super":Str)).isSome=false
 glob:∀h,aC K h->h.Ns Xj mg
 none:mg "super"=Option.none
theorem uU{st:Stmt}{fd:Yz}{h h₀:Heap}{a cd:Addr}{oF oc:Obj}{fs:Array W2}{file:Str}{tf:Tok}{us:List W2}(SO:m0 prog K mg)(B:aC K h₀)(hk:∀b o,h.get? b=some o->h₀.get? b=some o)
  (hsc:(aF st).kind=.function/\(aF st).names.lookup ("super":Str)=some .globalImplicit/\(aF st).names.lookup ("__class__":Str)=some .free/\(aF st).names.lookup ("self":Str)=some .local)
  (hpar:∃ar,((aU st).posonlyargs++(aU st).args).head?=some ar/\ar.arg=("self":Str))
  (e1:h.get? a=some oF)(e2:oF.data=.func fd)(e3:fd.params=aU st)(e4:fd.scope=aF st)(e5:fd.closure=[(("__class__":Str),42)])(e6:fd.globals=Xj)(e7:fd.builtins=Yi)(e8:fd.code=.ref cd)
  (e9:h.get? cd=some oc)(e10:oc.data=.fields fs)(e11:fs[2]?=some (.str file tf))(e12:(prog.main.file==file)=true)
  (hns:h₀.Ns h.objs.size (λx=>(((aU st).args.map (·.arg)).zip us).reverse.lookup x))(hself:(((aU st).args.map (·.arg)).zip us).reverse.lookup ("self":Str)=some (.ref b)) :
  mZ prog K h₀ fd h.objs.size a b mg:=by
 refine gV hsc λk1 k2 k3 k4=>⟨e4▸k1,e4▸k2,e4▸k3,e4▸k4,e5,e6,e7,?_,(ah oF (hk _ _ e1) e2),⟨cd,oc,fs,file,tf,e8,hk _ _ e9,e10,e11,e12⟩,SO.top,SO.glob _ B,SO.none,(ah _ hns hself)⟩
 (refine aa e3 ?_);exact hpar
theorem Ad:∃P:Pos×Pos×Pos×Pos×Pos,bt (bc 8)=[.Return (some (.Call (.Attribute (.Call (.Name "super" (P.1)) [] [] (P.2.1)) "__len__" (P.2.2.1)) [] [] (P.2.2.2.1))) (P.2.2.2.2)]/\(P.2.2.1.endLine==P.2.2.2.1.line)=true:=(ah (_,_,_,_,_) rfl rfl)
noncomputable def lW:Pos×Pos×Pos×Pos×Pos:=ZN Ad
theorem Mr:bt (bc 8)=[.Return (some (.Call (.Attribute (.Call (.Name "super" (lW.1)) [] [] (lW.2.1)) "__len__" (lW.2.2.1)) [] [] (lW.2.2.2.1))) (lW.2.2.2.2)]/\(lW.2.2.1.endLine==lW.2.2.2.1.line)=true:=Y9 Ad
theorem Ae(F:eU (Kn K))(P:dD prog (Kn K) 115 (bc 8) [(("__class__":Str),42)] cA)(SO:m0 prog K mg)(B:aC K s.heap)(hc:bD c s.heap b ⟨some z,l⟩)(R:A.depth<YH) :
  Xf (Xe prog w) A (call (.ref 115) [.ref b]) (λv s'=>ae X0 s s'/\∃t,v=.int (.ofNat l.length) t) nr s:=by
 refine ji hc.acc λhl vs n dx g rr i lo nf=>?_;have hm:aD=4096:=rfl;have hlen:vs.length<=8192:=by have:=rr.length;exact Ee hl hm this
 refine mY P B.kn B.lim R (by rfl') (by rfl') (by rfl') (by decide +kernel) (by decide +kernel) (λfd e1 e2=>.of_eq (Ab (.inr (.inr (.inr rfl))) fd e1 e2 _)) (λfd oF cd oc fs t file tf e1 e2 e3 e4 e5 e6 e7 e8 e9 e10 e11 e12 e13 h₀ hns hk=>?_);refine aw Mr λhbody hline=>aa hbody ?_;obtain⟨h,gg,d,t0,os⟩:=s;have B0:=B.keep0 hk;have S:=uU (b:=b) SO B0 hk (by decide +kernel) (ah _ rfl rfl) e1 e2 e3 e4 e5 e6 e7 e8 e9 e10 e11 e12 hns rfl;refine YF (ks_wpAt_Return_some (uT F hline S B0 (hk _ _ g) (i.keep λo e=>hk dx o e) (by decide +kernel) F.suLen Lw zS zU (zV _ _ _) (.inr rfl) (λA' h' t' L=>zW L (.inl ⟨rfl,rfl⟩) ⟨rfl,rfl⟩) (λh2 t2 u k2 gu=>?_)));refine Zr (uP gu (.inr rfl) (λA'=>zZ LH (LN _)) LC PySem.F.entry_list_len (LR (k2 _ _ (hk _ _ g)) rfl hlen λtk t'=>?_));exact(gB (ae.kept (λy o e=>k2 y o (hk y o e)) rfl id) tk (by (refine aa rr.length ?_);rfl))
noncomputable def Ms:Manifest.Signature:=(aad "list.pop").get (by rfl')
theorem Mu(a:W2):Z6 "list.pop" {Ms with full:=s!"{(Str.ofString "_Accumulator").toString}.{Bind.lastOf "list.pop"}"} ⟨[a],[]⟩=pure ():=by rfl'
theorem Mv(F:eU (Kn K))(B:aC K s.heap)(L:fO (Xe prog w) s.heap b aN)(g:s.heap.get? b=some (ew dx vs n)):Xf (Xe prog w) A (ZO "list.pop" ⟨[.ref b],[]⟩) (λ_ s'=>s'=s) E s:=by
 refine ko F.cls λcl hcl hmro hhd hdel hqn=>?_;have hmod:aaj (Xe prog w) s.heap (isInstance (.ref b) (.type "module")) false:=L.typ.andThen (looks_mroIn B.kn (by unfold mroIn;rw[hcl,Zt,hmro];rfl));dsimp only[ZO];skip;refine Z0 (by decide) (El (hmod.here ?_));refine Z0 (by decide +kernel) (El ?_);skip;refine El (El (Z4 g ?_));refine Ev (Ev (Z0 (by rfl) (El (L.typ.here ?_))));skip;refine El ((looks_clsIn B.kn hcl).here ?_);refine El ((looks_typeIn B.kn F.metac).here ?_);exact aa hqn (KFB.if_so (by decide) (XG (Mu _) rfl))
theorem Af:∃P:Pos×Pos×Pos×Pos×Nat×Pos×List Stmt×Pos×Pos×Pos×Pos×Pos×Pos,bt (bc 3)=[.If (.Compare (.Call (.Attribute (.Name "self" (P.1)) "part_count" (P.2.1)) [] [] (P.2.2.1)) [.Eq] [.Constant (.int 0) (P.2.2.2.2.1) (P.2.2.2.1)] (P.2.2.2.2.2.1)) (P.2.2.2.2.2.2.1) [] (P.2.2.2.2.2.2.2.1),
  .Return (some (.Call (.Attribute (.Call (.Name "super" (P.2.2.2.2.2.2.2.2.1)) [] [] (P.2.2.2.2.2.2.2.2.2.1)) "pop" (P.2.2.2.2.2.2.2.2.2.2.1)) [] [] (P.2.2.2.2.2.2.2.2.2.2.2.1))) (P.2.2.2.2.2.2.2.2.2.2.2.2)]/\(P.2.1.endLine==P.2.2.1.line)=true/\(P.2.2.2.2.2.2.2.2.2.2.1.endLine==P.2.2.2.2.2.2.2.2.2.2.2.1.line)=true:=(de (_,_,_,_,_,_,_,_,_,_,_,_,_) rfl rfl rfl)
noncomputable def fR:Pos×Pos×Pos×Pos×Nat×Pos×List Stmt×Pos×Pos×Pos×Pos×Pos×Pos:=ZN Af
theorem Mw:bt (bc 3)=[.If (.Compare (.Call (.Attribute (.Name "self" (fR.1)) "part_count" (fR.2.1)) [] [] (fR.2.2.1)) [.Eq] [.Constant (.int 0) (fR.2.2.2.2.1) (fR.2.2.2.1)] (fR.2.2.2.2.2.1)) (fR.2.2.2.2.2.2.1) [] (fR.2.2.2.2.2.2.2.1),
  .Return (some (.Call (.Attribute (.Call (.Name "super" (fR.2.2.2.2.2.2.2.2.1)) [] [] (fR.2.2.2.2.2.2.2.2.2.1)) "pop" (fR.2.2.2.2.2.2.2.2.2.2.1)) [] [] (fR.2.2.2.2.2.2.2.2.2.2.2.1))) (fR.2.2.2.2.2.2.2.2.2.2.2.2)]/\(fR.2.1.endLine==fR.2.2.1.line)=true/\(fR.2.2.2.2.2.2.2.2.2.2.1.endLine==fR.2.2.2.2.2.2.2.2.2.2.2.1.line)=true:=Y9 Af
theorem Mx(F:eU (Kn K))(P:dD prog (Kn K) 78 (bc 3) [(("__class__":Str),42)] cA)(PC:dD prog (Kn K) 115 (bc 8) [(("__class__":Str),42)] cA)(SO:m0 prog K mg){v:AV}(B:aC K s.heap)(C:bW c s.heap)(hb:b∈c.cells)
  (hc:bD c s.heap b ⟨some z,l++[v]⟩)(tk:1<=s.toks)(R:A.depth+2<YH) :
  Xf (Xe prog w) A (call (.ref 78) [.ref b]) (λu s'=>ae (λx=>x=b\/aG x) s s'/\aC K s'.heap/\bD c s'.heap b ⟨some z,l⟩/\ao c s'.heap v u) nr s:=by
 refine ji (id hc.acc) λhl vs n dx g rr i lo nf=>?_;have hm:aD=4096:=rfl;rw[Om,List.length_singleton]at hl;obtain⟨ws,u,rfl,rw1,rv⟩:∃ws u,vs=ws++[u]/\aq c s.heap l ws/\ao c s.heap v u:=by
  have r2:=rr.reverse;rw[List.reverse_append]at r2;refine bb r2 λu ws e r3 r4=>(bM ws.reverse u ?_ (by simpa using aq.reverse r4) r3);have:=congrArg List.reverse e;simpa using this
 have hlen:ws.length<=8192:=by have:=rw1.length;exact Ef hl hm this
 have hlen':(ws++[u]).length<=8192:=by have:=rw1.length;simp only[Om,List.length_singleton];exact Eg hl hm this
 refine mY P B.kn B.lim (by exact sq R) (by rfl') (by rfl') (by rfl') (by decide +kernel) (by decide +kernel) (λfd e1 e2=>.of_eq (Ab (.inl rfl) fd e1 e2 _)) (λfd oF cd oc fs t file tf e1 e2 e3 e4 e5 e6 e7 e8 e9 e10 e11 e12 e13 h₀ hns hk=>?_);refine da Mw λhbody hline hline2=>aa hbody ?_;have hdep:∀env,(A.deeper env).depth<YH:=λenv=>by show A.depth+1<_;exact sr R
 obtain⟨h,gg,d,t0,os⟩:=s;have B0:=B.keep0 hk;have g0:=hk _ _ g;have i0:=i.keep λo e=>hk dx o e;refine fc (iY g0 i0) λod ev te I zr4 hsh hlk=>aa zr4 ?_;have C0:=C.keep λb o e=>⟨o,hk b o e⟩;have S:=uU (b:=b) SO B0 hk (by decide +kernel) (ah _ rfl rfl) e1 e2 e3 e4 e5 e6 e7 e8 e9 e10 e11 e12 hns rfl;have hs4:fd.scope.kind=.function:=by (refine aa e4 ?_);rfl'
 refine lx PC.ex λoP fP cP zz zz zz zz zz zc0=>gV zc0 λeP1 eP2 eP3 zz=>YF (ks_wpAt_If (Y6 (wpAny_isTrue_Compare1 (uE (g9 rfl _) (gK rfl rfl) hline (iZ hs4 (by (refine aa e4 ?_);decide +kernel) hns rfl ?_ (by decide +kernel))) rfl)));refine uO B0.kn I F.ga F.noga F.partCount (ft:=.type "function") (F.fns _ (.inr (.inr (.inr (.inr (.inr (.inr rfl))))))) (by decide) (hsh _ (by decide +kernel)) (callWith_meth0 eP3 (B0.kn _ _ eP1) (KE (Ae F PC SO B0 (hc.keep0 hk) (hdep _)) (λv1 s1 q=>?_) no));refine cq q λX1 ti zr2=>aa zr2 (wpAny_Constant_int (eq_int (Zi ?_)));have hne:((Int.ofNat (l++[v]).length)==(0:Int))=false:=by
  rw[beq_eq_false_iff_ne,Om,List.length_singleton];show((l.length+1:Nat):Int)≠0;exact Eh
 refine aa hne ?_;skip;refine Y6 (Ev ?_);skip;obtain⟨h1,gg1,d1,t1,os1⟩:=s1;have k1:∀y o,h₀.get? y=some o->h1.get? y=some o:=X1.all;have X0':ae X0 (⟨h,gg,d,t0,os⟩:Xd) ⟨h₀,gg,d,t0+1,os⟩:=ae.kept hk rfl id;have X01:ae X0 (⟨h,gg,d,t0,os⟩:Xd) ⟨h1,gg1,d1,t1,os1⟩:=X0'.trans X1;have B1:=B0.keep0 k1;refine YF (ks_wpAt_Return_some (uT F hline2 (S.keep k1) B1 (k1 _ _ g0) (i0.keep λo e=>k1 dx o e) (by decide +kernel) F.suPop Lv uN zO (zP _ _ _) (.inl rfl) (λA' h' t' L=>Ly L ⟨rfl,rfl⟩) (λh2 t2 u2 k2 gu=>?_)));have B2:=B1.keep0 k2;have g2:=k2 _ _ (k1 _ _ g0);have L2:=jD (M:=Xe prog w) F B2 (uR I λy o e=>k2 y o (k1 y o e));refine Zr (uP gu (.inl rfl) (λA'=>Mv F B2 L2 g2) LB LK (LT g2 rfl hlen ?_));refine al (qB (f:=(·.eraseIdxIfInBounds ws.length)) (ys:=ws) g2 (by simp[Array.eraseIdxIfInBounds,List.eraseIdx_append_of_length_le])) λn' g3=>?_;have X02:ae X0 (⟨h,gg,d,t0,os⟩:Xd) ⟨h2,gg1,d1,t2,os1⟩:=⟨λy o e _=>k2 y o (X01.all y o e),λy o e=>⟨o,k2 y o (X01.all y o e)⟩,X01.os,X01.gens⟩;have fin:=uQ (s1:=⟨h2,gg1,d1,t2,os1⟩) (l':=l) B C hb X02 g i lo nf (Yt ..) g3 (by exact Ei hl) (λkd=>rw1.keep kd) t2;refine(iJ fin.1 fin.2.1 fin.2.2 (rv.keep (B.keepData C λy o e nx=>fin.1.keep y o e ?_)));rintro(q | q)
 ·exact nx (.inl (q▸hb))
 ·exact nx (.inr q)
end
end
section
set_option backward.match.sparseCases true
open Builtin Builtin.List Builtin.ObjectAttr
section
variable{b dx:Addr}{vs vs':List W2}{n':Nat}{z:Int}{l l':List AV}{h':Heap}
theorem My(self:W2):refuseLoop self "__setattr__" [.type "list",.type "object"]=pure ():=by rfl'
theorem Ag(P:Int)(k v:W2):Obj.putName d8 P k v Zk={cls:=.type "dict",data:=.dict #[{hash:=P,key:=k,val:=v}] 1}:=by rfl'
theorem Mz(F:eU (Kn K)){h:Heap}{g:Array GenState}{d:Drawn}{t:Nat}{os:OsState}{v:W2}{Q:Unit->Xd->Prop}(X:(Kn K).In h)(gb:h.get? b=some (ew dx vs n))(gd:h.get? dx=some Zk)
  (hq:∀h' t',XC dx h h'->(∃e ep,h'.get? dx=some {cls:=.type "dict",data:=.dict #[e] ep}/\(∃u,e.key=.str d8 u)/\e.val=v)->Q () ⟨h',g,d,t',os⟩) :
  Xf (Xe prog w) A (setAttr (.ref b) d8 v) Q E ⟨h,g,d,t,os⟩:=by
 have I:InstAt h b (ew dx vs n) aN (some Zk):=⟨gb,rfl,rfl,gd⟩;refine ko F.cls λcd hcl hmro hhd hdel hqn=>?_;have SF:=PySem.F.store_object;refine set_plain X I F.setattr ?_;have sub:aaj (Xe prog w) h (isInstance (.ref b) (.type "object")) true:=I.type.andThen (looks_mroIn X F.subo);refine ZF SF.slot.plain SF.entry (@check_slot (Xe prog w) _ _ ⟨h,g,d,t+1,os⟩ "object.__setattr__" "object" "__setattr__" (.ref b) [.str d8 t,v] [] _ SF.kind SF.split sub (SF.args (.ref b) (.str d8 t) v) ?_);have hm:aaj (Xe prog w) h (mroOf (.ref aN)) cd.mro:=(looks_clsIn X hcl).andThen .now;rw[osa_eq,refuse_eq];refine El (El (I.type.here (El (hm.here ?_))));rw[hmro,refuseLoop_ref,My];refine Ev (El (I.type.here (El ((Zw X F.size).here (El ?_)))));refine XG (a:=Option.none) rfl ?_;skip;refine El (Ev (El (El (Z4 gb (El ((looks_clsIn X hcl).here ?_))))));refine aa (hhd) (Ev (a:=some dx) (El (Ev (El ?_))));skip;refine El (El (wpAny_askSetting (Ev (El (wpAny_mkText (El (Z4 gd ?_)))))));dsimp only;rw[aRefKeyMayBeTheName_at,show(!(#[]:Array ZS).any (λx=>x.key.isStr d8)&&(#[]:Array ZS).any (λx=>x.refKey))=false by simp];have D':(h.update dx (Obj.putName d8 (PyData.keyHash w.params d8) (.str d8 (t+1)) v)).get? dx=some {cls:=.type "dict",data:=.dict #[{hash:=PyData.keyHash w.params d8,key:=.str d8 (t+1),val:=v}] 1}:=by
  rw[Zz _ gd (by simp only[Ag];rfl),Ag]
 refine wpAny_updatePart gd ?_;refine El (wpAny_lookBehind D' (pastItsLine_dict (by (refine aa Ze ?_);show 1<=16777217;exact Ej)) ?_);exact Ev (hq _ _ (Yt ..) (bM _ _ D' ⟨_,rfl⟩ rfl))
theorem Ah:∃P:Pos×Pos×Pos×Pos×Pos×Pos×Pos×Pos×Pos,bt (bc 0)=[.Assign [.Attribute (.Name "self" (P.1)) "_initial_size" (P.2.1)] (.Name "initial_size" (P.2.2.1)) (P.2.2.2.1),
  .Expr (.Call (.Attribute (.Call (.Name "super" (P.2.2.2.2.1)) [] [] (P.2.2.2.2.2.1)) "__init__" (P.2.2.2.2.2.2.1)) [] [] (P.2.2.2.2.2.2.2.1)) (P.2.2.2.2.2.2.2.2)]/\(P.2.2.2.2.2.2.1.endLine==P.2.2.2.2.2.2.2.1.line)=true:=(ah (_,_,_,_,_,_,_,_,_) rfl rfl)
noncomputable def i6:Pos×Pos×Pos×Pos×Pos×Pos×Pos×Pos×Pos:=ZN Ah
theorem MA:bt (bc 0)=[.Assign [.Attribute (.Name "self" (i6.1)) "_initial_size" (i6.2.1)] (.Name "initial_size" (i6.2.2.1)) (i6.2.2.2.1),
  .Expr (.Call (.Attribute (.Call (.Name "super" (i6.2.2.2.2.1)) [] [] (i6.2.2.2.2.2.1)) "__init__" (i6.2.2.2.2.2.2.1)) [] [] (i6.2.2.2.2.2.2.2.1)) (i6.2.2.2.2.2.2.2.2)]/\(i6.2.2.2.2.2.2.1.endLine==i6.2.2.2.2.2.2.2.1.line)=true:=Y9 Ah
structure Ai(h h':Heap)(b dx:Addr)(z:Int):Prop where
 keep:∀y o,h.get? y=some o->y≠b->y≠dx->h'.get? y=some o
 at_:∃n,h'.get? b=some (ew dx [] n)
 init:eS h' dx z
set_option maxHeartbeats 2000000 in
theorem MB(F:eU (Kn K))(P:dD prog (Kn K) 55 (bc 0) [(("__class__":Str),42)] (fQ (Kn K) 47))(SO:m0 prog K mg){ti:Tok}(B:aC K s.heap)(lo:n₀<=dx)(hb:dx+1=b)(gb:s.heap.get? b=some (ew dx [] n))(gd:s.heap.get? dx=some Zk)
  (R:A.depth<YH) :
  Zq (Xe prog w) A (.call (.ref 55) ⟨[.ref b,.int z ti],[]⟩) (λr s'=>match r with | .ok (.ret v)=>(v=.none/\Ai s.heap s'.heap b dx z/\s'.os=s.os/\s'.gens=s.gens) | .ok _=>False | .error e=>nr e s') s:=by
 refine z7 (Q:=λv s'=>v=.none/\Ai s.heap s'.heap b dx z/\s'.os=s.os/\s'.gens=s.gens) P B.kn B.lim R (by rfl') (by rfl') (by rfl') (by decide +kernel) (by decide +kernel) (λfd e1 e2=>Mk B.kn fd e1 e2 _ _) (λfd oF cd oc fs t file tf e1 e2 e3 e4 e5 e6 e7 e8 e9 e10 e11 e12 e13 h₀ hns hk=>?_);refine aw MA λhbody hline=>aa hbody ?_;obtain⟨h,gg,d,t0,os⟩:=s;have B0:=B.keep0 hk;have gb0:=hk _ _ gb;have gd0:=hk _ _ gd;have hs4:fd.scope.kind=.function:=by (refine aa e4 ?_);rfl'
 have hint:interactive (YL fd h.objs.size 55)=false:=by unfold interactive;(refine aa (show(YL fd h.objs.size 55).scope.kind=.function from hs4) ?_);rfl
 have hLb:h.objs.size≠b:=λe=>absurd (Xm gb) (by (refine aS e ?_);exact XR _);have hLd:h.objs.size≠dx:=λe=>absurd (Xm gd) (by (refine aS e ?_);exact XR _);have hbd:b≠dx:=by (refine aS hb ?_);exact Nat.succ_ne_self _
 refine YF (Y6 (plainObj_wpAny_Assign_Attribute (iZ hs4 (by (refine aa e4 ?_);decide +kernel) hns rfl (iZ hs4 (by (refine aa e4 ?_);decide +kernel) hns rfl ?_ (by decide +kernel)) (by decide +kernel)) rfl));refine Mz F B0.kn gb0 gd0 (λh1 t1 hs1 hd1=>?_);refine bb hd1 λe ep g1 hk1 hv1=>?_;have gb1:=hs1.extBut _ _ hbd gb0;have B1:aC K h1:=by
  have ne:∀a,a<n₀->a≠dx:=λa h e=>by subst e;exact absurd h (XN.mpr lo)
  refine⟨λa o e t=>?_,?_,λp hp=>?_,?_,B0.old,B0.lim.at λo e=>hs1.extBut _ o (ne _ kQ) e⟩
  ·exact hs1.extBut a o (ne a (B0.old _ _ e)) (B0.stat a o e t)
  ·exact af B0.bns λmb a1 a2=>(ah mb (a1.at' λo e=>hs1.extBut _ o (ne _ tS) e) a2)
  ·refine dY (B0.tab p hp) λps e1 e2 e3=>(de ps (hs1.extBut _ _ (ne _ ?_) e1) e2 e3);apply dp;simp only[cz,Xk,Xw,or_false]at hp;clear e1 e3;rcases hp with rfl | rfl | rfl | rfl<;>simp[aG]
  ·exact al B0.top λo e=>⟨o,hs1.extBut _ o (ne _ (by decide)) e⟩
 have i1:eS h1 dx z:=⟨e,ti,ep,g1,hk1,hv1⟩;skip;have S0:=uU (b:=b) SO B0 hk (by decide +kernel) (ah _ rfl rfl) e1 e2 e3 e4 e5 e6 e7 e8 e9 e10 e11 e12 hns rfl;have S1:mZ prog K h1 fd h.objs.size 55 b mg:=by
  refine⟨S0.kind,S0.sup,S0.cls,S0.self,S0.clo,S0.glob,S0.blt,S0.head,?_,?_,S0.top,SO.glob _ B1,S0.none,?_⟩
  ·refine(ah oF (hs1.extBut _ _ (λq=>?_) (hk _ _ e1)) e2);subst q;rw[show h.get? 55=some Zk from gd]at e1
   (injection e1 with zi;subst zi);injection e2
  ·refine⟨cd,oc,fs,file,tf,e8,hs1.extBut _ _ (λq=>?_) (hk _ _ e9),e10,e11,e12⟩;subst q;rw[show h.get? cd=some Zk from gd]at e9
   (injection e9 with zi;subst zi);injection e10
  ·exact af S0.ns λmm hm1 hm2=>(ah mm (hm1.at' λo e=>hs1.extBut _ o hLd e) hm2)
 refine YF (ks_wpAt_Expr_any (uT F hline S1 B1 gb1 i1 (by decide +kernel) F.suInit Lx zS zU (zV _ _ _) (.inr rfl) (λA' h' t' L=>zW L (.inr ⟨rfl,rfl⟩) ⟨rfl,rfl⟩) (λh2 t2 u k2 gu=>?_)) hint rfl);refine Zr (uP gu (.inr rfl) (λA'=>zZ LI (LO _)) LD PySem.F.entry_list_init (LU (k2 _ _ gb1) rfl (by exact Y4 _) ?_));refine al (qB (f:=λ_=>#[]) (ys:=[]) (k2 _ _ gb1) rfl) λn' g3=>?_;have hs3:XC b h2 (h2.update b (Y2 λ_=>#[])):=Yt ..;skip;refine Y6 (Ev (iJ rfl ⟨λy o ey n1 n2=>?_,⟨n',g3⟩,?_⟩ rfl rfl))
 ·exact hs3.extBut _ _ n1 (k2 _ _ (hs1.extBut _ _ n2 (hk _ _ ey)))
 ·exact i1.keep λo e=>hs3.extBut _ _ (Ne.symm hbd) (k2 _ _ e)
end
set_option backward.match.sparseCases false
end
section
open Builtin Builtin.List Builtin.ObjectAttr
section
variable{z:Int}
theorem MC(F:eU (Kn K))(P:dD prog (Kn K) 55 (bc 0) [(("__class__":Str),42)] (fQ (Kn K) 47))(SO:m0 prog K mg){p:Pos}{e:Expr}(I:ak K c env ρ σ s)(R:az m A)
  (he:Xf (Xe prog w) A (eval e env) (bf K c env ρ s (.val (.int z)) σ1) nr s) :
  Xf (Xe prog w) A (callWith p (.ref aN) [] [(false,eval e env)] []) (λv s'=>∃b c',v=.ref b/\c'.cells=c.cells++[b]/\bH s.heap c c'/\ae (XE c) s s'/\ak K c' env ρ (σ1++[⟨some z,[]⟩]) s') nr s:=by
 skip;refine El (XQ (YI (XK (KE he (λv s1 q=>YC ?_) no))));refine il q λX1 I1 tv zr3=>?_;clear he q;subst zr3;refine El (Yq ?_);have Y:=Lm (M:=Xe prog w) I1.base.kn F.make;refine lw Y.obj λoc od cd sl hC hab hdl hme=>?_;dsimp only;refine El (m:=keeperOf (.ref aN)) ?_;skip;refine El (wpAny_load hC ?_);dsimp only;refine El (Y.call.here ?_);refine Ev (El (KE (Q:=λv s'=>∃b c',v=.ref b/\c'.cells=c.cells++[b]/\bH s.heap c c'/\ae (XE c) s s'/\ak K c' env ρ (σ1++[⟨some z,[]⟩]) s') (E:=nr) ?_ (λr s₂ hr=>El (XQ (wpAny_point (Ev hr)))) no));obtain⟨h1,g1,d1,t1,os1⟩:=s1;have hfn:typeIn (Kn K) (.ref 55)=some (.type "function"):=F.fns _ (.inl rfl);refine KE (Ys I1.tk (Q:=λv s'=>∃n' h',v=.ref (h1.objs.size+1)/\s'.heap=h'/\(∀y o,h1.get? y=some o->h'.get? y=some o)/\h'.get? (h1.objs.size+1)=some (ew h1.objs.size [] n')/\eS h' h1.objs.size z/\s'.os=os1/\s'.gens=g1) (E:=nr) (Zr (Lr Y (Zw I1.base.kn F.init) (λself=>bind_fn I1.base.kn self hfn) ?_))) (λv s' q=>?_) (λ_ _ f=>f.2.elim)
 ·have k:∀b o,h1.get? b=some o->((h1.push Zk).push (iX aN h1.objs.size)).get? b=some o:=λb o e=>Xg _ (Xg _ e);have gx:((h1.push Zk).push (iX aN h1.objs.size)).get? (h1.objs.size+1)=some (ew h1.objs.size [] 0):=by
   have:=Xl (h1.push Zk) (o:=iX aN h1.objs.size) rfl;rw[XV]at this;exact this
  have gd:((h1.push Zk).push (iX aN h1.objs.size)).get? h1.objs.size=some Zk:=Xg _ (Xl _ rfl);refine aah (MB (dx:=h1.objs.size) (b:=h1.objs.size+1) F P SO (I1.base.keep0 k) I1.base.size rfl gx gd ?_) (λr s' q=>?_)
  ·have:=R.2.1;skip;show A.depth+1<1000;exact DT this
  ·cases r with
   | error e=>exact q.elim
   | ok f=>
    cases f with
    | ret v=>
     refine gV q λzr0 Fr ho hg=>?_;subst zr0;refine al Fr.at_ λn' ga=>⟨rfl,n',s'.heap,rfl,rfl,λy o ey=>Fr.keep y o (k y o ey) (λq=>?_) (λq=>?_),ga,Fr.init,ho,hg⟩
     ·exact absurd (Xm ey) (by (refine aa q ?_);exact XN.mpr (XH _))
     ·exact absurd (Xm ey) (by (refine aa q ?_);exact XR _)
    | _=>exact q.elim
 ·refine wk q λtk n' h' zr3 zr4 k zc0=>gV zc0 λga ia ho hg=>?_;subst zr3;subst zr4;have X2:ae X0 (⟨h1,g1,d1,t1,os1⟩:Xd) s':=ae.kept k ho (by (refine aa hg ?_);exact id);have dead:h1.get? (h1.objs.size+1)=none:=XA (XH _);have deadd:h1.get? h1.objs.size=none:=XA (Xs _);have N:=I1.newCell (b:=h1.objs.size+1) (cl:=⟨some z,[]⟩) (fr2:=λy=>c.fr y/\y≠h1.objs.size) (λy o e q=>⟨q,λe'=>by subst e';rw[deadd]at e;exact aT e⟩) (λy q=>.inl q.1) (X:=X2) tk dead ⟨_,ga⟩ (XU I1.base.size)
   ⟨Y4 _,[],n',h1.objs.size,ga,aq.nil,ia,⟨I1.base.size,rfl⟩,λh=>h.2 rfl⟩
  refine aw N λG I2=>(fy _ _ rfl rfl ?_ (X1.trans X2.x0) I2);exact(bH.refl s.heap c).trans ⟨G.θ,G.P,G.pre,G.fr,G.fr',G.ex,G.ex',G.cells⟩ X1.live
end
end
noncomputable abbrev i7:Nat->Bool:=λ_=>true
theorem Aj(n i:Nat):(passing i7 n i).length=n-i:=by unfold passing;rw[List.filter_eq_self.mpr (λ_ _=>rfl)];simp
theorem MD{n j:Nat}(h:j<n):(passing i7 n 0)[j]?=some j:=by unfold passing;rw[List.filter_eq_self.mpr (λ_ _=>rfl)];simp[h]
noncomputable def qC(prog:Y3)(w:aal)(cenv:Env)(x:Str)(elt:Expr)(P:Nat->W2->Prop)(F:Nat->W2->Prop):Prop:=
 ∀(A':Zp) E' i v (s₂:Xd) m₂,A'.handled=none->P i v->s₂.heap.Ns cenv.locals m₂->m₂ x=some v->1<=s₂.toks->Xf (Xe prog w) A' (eval elt cenv) (λy s₃=>F i y/\Keeps s₂ s₃) E' s₂
theorem ME{elt iter:Expr}{x:Str}{px:Pos}{scope:YM}{pos:Pos}{I:Addr}{fp wr:List Addr}{n₀:Nat}{P:Nat->W2->Prop}{St₀:Nat->Heap->Prop}{cenv:Env}
  (hh:A.handled=none)(W₀:∀A':Zp,A'.handled=none->Walks prog w A' I fp wr n₀ P St₀)(F:Nat->W2->Prop)
  (hx:cenv.kindOf x=some .local)(hp:(cenv.scope.kind == .class||(cenv.scope.kind == .module&&cenv.locals != cenv.globals))=false)
  (hco:cenv.scope.isCoroutine=false)(hCf:cenv.locals∉fp)(hq:qC prog w cenv x elt P F) :
  ∀(k i:Nat)(s₀ s:Xd)(m:Str->Option W2),n₀-i=k->i<=n₀->St₀ i s.heap->s.heap.Ns cenv.locals m->GenSince cenv.locals wr s₀ s->
   Seg (Xe prog w) A (λn s₀ r s₁=>r=.ok .next/\(n=0/\GenSince cenv.locals wr s₀ s₁)) (genProto cenv.locals fp wr i7 n₀ F) (passing i7 n₀ i).length s₀
    (.compLoop (.GeneratorExp elt [⟨.Name x px,iter,[],0⟩] scope pos) 0 (.ref I) .none cenv)
    ((Xe prog w).den (.compLoop (.GeneratorExp elt [⟨.Name x px,iter,[],0⟩] scope pos) 0 (.ref I) .none cenv)) [] s:=by
 have hh':(A.over (.compLoop (.GeneratorExp elt [⟨.Name x px,iter,[],0⟩] scope pos) 0 (.ref I) .none cenv) []).handled=none:=hh;have hCw:cenv.locals∉wr:=λh=>hCf ((W₀ A hh).sub _ h);intro k;induction k with
 | zero=>
  intro i s₀ s m hk hi hst hn since;obtain rfl:i=n₀:=by exact EB hk hi
  show Seg _ A _ _ _ s₀ _ ((compTurn (.GeneratorExp elt [⟨.Name x px,iter,[],0⟩] scope pos) 0 (.ref I) .none cenv).onRaise (leaving cenv)) [] s;rw[compTurn_gen,Sem.onRaise_eq_wrap];exact YO (Yq (YO ((W₀ _ hh').done s _ _ hst λh' tk hk'=>seg_end (.ok .next) (bR rfl (by rw[passing_end];rfl) (since.step λb o _ hw e=>hk' b o hw e)))))
 | succ k ih=>
  intro i s₀ s m hk hi hst hn since;have hlt:i<n₀:=by exact EC hk
  show Seg _ A _ _ _ s₀ _ ((compTurn (.GeneratorExp elt [⟨.Name x px,iter,[],0⟩] scope pos) 0 (.ref I) .none cenv).onRaise (leaving cenv)) [] s;rw[compTurn_gen,Sem.onRaise_eq_wrap];refine YO (Yq (YO ((W₀ _ hh').item i s _ _ hlt hst λv h₁ tk₁ hPv st1 k1=>?_)));refine YO (XG (rfl:letOwnedTupleGo (.Name x px) (.ref I) v=pure ()) ?_);refine YO (wpAny_assign_Name (wpAny_storeName_local hx (hn.at' λo e=>k1 _ o hCw e) (λh₂ hn₂ hs₂=>?_) hp));have st2:St₀ (i+1) h₂:=(W₀ A hh).frame _ _ _ st1 λb hb o e=>hs₂.extBut b o (λh=>hCf (h▸hb)) e;have k2:∀b o,b≠cenv.locals->b∉wr->s.heap.get? b=some o->h₂.get? b=some o:=λb o hb hw e=>hs₂.extBut b o hb (k1 b o hw e);refine YO (Ev ?_);refine aa (passing_true hlt rfl) (aa W5 ?_);simp only[if_true];have hy:∀v,yieldOut cenv v=yieldValue v:=λv=>by simp only[yieldOut,hco,Bool.false_eq_true,if_false]
  simp only[hy];rw[Sem.bind_eq_wrap',Sem.bind_eq_wrap',Sem.wrap_wrap,Sem.wrap_wrap];refine seg_wrap (KE (hq _ _ i v _ _ hh' hPv hn₂ (by simp) (Yk 1 _)) (λy s₄ q=>?_) λ_ _ e=>e);refine eQ q λhFy h₄ tk₄ zr3 k4=>?_;clear hst hn q;refine aa zr3 (seg_at (seg_yield rfl rfl rfl (bR (ah i (passing_here hlt rfl) hFy) (since.step λb o hb hw e=>k4 b o (k2 b o hb hw e)) (λs'' hal=>?_))));exact seg_again rfl (ih (i+1) s'' s'' _ (by exact ED hk) hlt ((W₀ A hh).frame _ _ _ st2 λb hb o e=>hal b (Xc _ hb) o (k4 b o e))
   ((hn₂.keeps k4).at' λo e=>hal _ (Xh ..) o e) (GenSince.refl _ _ _))
theorem MF{elt iter:Expr}{x:Str}{px:Pos}{scope:YM}{pos:Pos}{I a:Addr}{g:Nat}{fp wr:List Addr}{n₀:Nat}{P:Nat->W2->Prop}{St₀:Nat->Heap->Prop}{cenv:Env}
  (hh:A.handled=none)(W₀:∀A':Zp,A'.handled=none->Walks prog w A' I fp wr n₀ P St₀)(F:Nat->W2->Prop)
  (hx:cenv.kindOf x=some .local)(hp:(cenv.scope.kind == .class||(cenv.scope.kind == .module&&cenv.locals != cenv.globals))=false)
  (hco:cenv.scope.isCoroutine=false)(hCf:cenv.locals∉fp){s:Xd}{m:Str->Option W2}(hq:qC prog w cenv x elt P F)
  (hg:s.heap.IsGen a g)(hgs:s.gens[g]?=some (.fresh (.compStart (.GeneratorExp elt [⟨.Name x px,iter,[],0⟩] scope pos) 0 (.ref I) .none cenv)))
  (hst:St₀ 0 s.heap)(hn:s.heap.Ns cenv.locals m)(hl:s.heap.NoLimit):GenAt prog w A a g cenv.locals fp wr i7 n₀ F 0 s:=by
 refine⟨hg,hl,_,hgs,λs'' hal=>⟨rfl,?_⟩⟩;have hst'':St₀ 0 s''.heap:=(W₀ A hh).frame _ _ _ hst λb hb o e=>hal b (Xc _ hb) o e;have loop:=ME (A:=A.in1) (iter:=iter) (px:=px) (scope:=scope) (pos:=pos) hh W₀ F hx hp hco hCf hq n₀ 0 s'' s'' m (Nat.sub_zero _) (Y4 _) hst'' (hn.at' λo e=>hal _ (Xh ..) o e) (GenSince.refl _ _ _);have hh':(A.in1.over (.compStart (.GeneratorExp elt [⟨.Name x px,iter,[],0⟩] scope pos) 0 (.ref I) .none cenv) []).handled=none:=hh;show Seg _ A.in1 _ _ _ s'' _ ((compStart (.GeneratorExp elt [⟨.Name x px,iter,[],0⟩] scope pos) 0 (.ref I) .none cenv).onRaise (leaving cenv)) [] s'';skip;rw[Sem.onRaise_eq_wrap];show Seg _ A.in1 _ _ _ s'' _ ((ask >>= _).wrap _ _ _ _) [] s'';refine YO (wpAny_askSetting ?_);split
 ·exact seg_again rfl loop
 ·first
   | exact YO (ZZ (YO (Yq (YO ((W₀ _ hh').self 0 _ _ _ hst'' (seg_again rfl loop))))))
   | (refine YO (ZZ ?_);show Seg _ A.in1 _ _ _ s'' _ ((standAt iter.pos >>= _).wrap _ _ _ _) [] s'';exact YO (Yq (YO ((W₀ _ hh').self 0 _ _ _ hst'' (seg_again rfl loop)))))
theorem uV{pos p':Pos}{c cv:W2}(l:List W2)(h:TriplesOk l)(e:codeAmong pos (l++[rawInt p'.line,rawInt p'.col,c])=some cv):codeAmong pos l=some cv\/cv=c:=by
 fun_induction TriplesOk l with
 | case1=>
  dsimp only[ZH,rawInt,codeAmong]at e;split at e
  ·cases e;exact .inr rfl
  ·exact aT e
 | case2 a t b u x rest ih=>
  dsimp only[List.cons_append,codeAmong]at e ⊢;split at e
  ·rename_i hc;(refine aa (if_pos hc) ?_);exact .inl e
  ·rename_i hc;(refine aa (if_neg hc) ?_);exact ih h e
 | case3 l h1 h2=>exact h.elim
structure gq(K:Frag)(mg:Str->Option W2):Prop where
 heads:∀q∈cz,∀h,aC K h->CodeHd h q.1 q.2
 bmod:∃bm ob,mg "__builtins__"=some (.ref bm)/\bm≠Yi/\K.lookup bm=some ob/\¬aG bm/\ob.cls=.type "module"/\ob.dict=some Yi/\ob.data=.plain
 glob:∀h,aC K h->h.Ns Xj mg
section
variable{M:Model}{pos:Pos}{qual:Str}{scope:YM}
theorem aC.table{h h':Heap}{q:Addr×Addr}(hg:GT q)(B:aC K h)(X:Heap.ExtBut q.2 h h'){ps':Array W2}(ht:h'.get? q.2=some (tabObj ps'))(h1:TriplesOk ps'.toList)(h2:∀pos cv,codeAmong pos ps'.toList=some cv->∃a,cv=.ref a):aC K h':=by
 refine aw hg λhq h193=>?_;have it:aG q.2:=by
  simp only[cz,Xk,Xw,or_false]at hq;rcases hq with rfl | rfl | rfl | rfl<;>simp[aG]
 have lo:=dp it;refine⟨λa o e t=>X a o (λe'=>t (e'▸it)) (B.stat a o e t),?_,λp hp=>?_,?_,B.old,?_⟩
 ·refine af B.bns λmb a1 a2=>(ah mb (a1.at' λo e=>X _ o (λe'=>?_) e) a2);refine af (B.tab q hq) λps e1 zz=>fJ a1 λoL es ep gL dL zz=>?_;rw[e',e1]at gL;(injection gL with zi;subst zi);injection dL
 ·by_cases e:p.2=q.2
  ·exact(dH ps' (by (refine aa e ?_);exact ht) h1 h2 (λe'=>absurd (e▸e') h193))
  ·exact dY (B.tab p hp) λps e1 e2 e3=>(de ps (X _ _ e e1) e2 e3)
 ·refine al B.top λo e=>?_;have:n₀=221:=rfl;refine⟨o,X _ o (λe'=>?_) e⟩;rcases it with h | h | h | h<;>rw[h]at e'<;>revert e'<;>decide
 ·refine B.lim.at λo e=>X _ o (λe'=>?_) e;rcases it with h | h | h | h<;>rw[h]at e'<;>revert e'<;>decide
theorem Ak(C:gq K mg)(B:aC K s.heap){q:Addr×Addr}(hq:GT q)(hc:env.code=.ref q.1){Q:W2->Xd->Prop}
  (h:∀c h' tk,Heap.ExtBut q.2 s.heap h'->aC K h'->Q (.ref c) {s with heap:=h',toks:=tk}):Xf M A (genexprCode env pos qual scope) Q E s:=by
 refine im (B.tab q hq.1) λps e1 e2 e3 zz=>?_;have H:=C.heads q hq.1 _ B;cases hf:codeAmong pos ps.toList with
 | some cv=>
  refine al (e3 pos cv hf) λa zr1=>?_;subst zr1;exact wpAny_genexprCode_hit hc (H.code e1 e2) hf (h a s.heap s.toks (Heap.ExtBut.refl _ _) B)
 | none=>
  refine wpAny_genexprCodeX hc (H.code e1 e2) (H.tab e1) hf λc' h' tk X ge lt ic cr tb _=>h c' h' tk X (B.table hq X tb.2 ?_ λpos' cv hcv=>?_)
  ·rw[Zm];exact TriplesOk_snoc _ _ _ _ e2
  ·rw[Zm]at hcv;clear e1 zz hf ge lt ic cr tb;rcases uV ps.toList e2 hcv with q | rfl
   ·exact e3 _ _ q
   ·exact⟨_,rfl⟩
theorem Al(C:gq K mg)(B:aC K s.heap)(hg:env.globals=Xj){Q:Addr->Xd->Prop}(h:Q Yi s):Xf M A (builtinsFor env.globals env.builtins) Q E s:=by
 exact nH C.bmod λbm ob e1 e2 e3 e4 e5 e6 e7=>wpAny_builtinsFor (by rw[hg];exact C.glob _ B) e1 e2 (B.stat _ _ e3 e4) e5 e6 e7 h
end
theorem Am{f x a b:List Nat}{r:AV}(h:jQ f x a b=some r):∃z,r=.str z/\z.length<=aD/\f=kC:=
 ab h λd hd h=>aK h λhc h=>have g:=iU h;(de _ g.2 g.1 (aW.mp (W8.mp hc).1))
theorem An{x a b z f:List Nat}{t u v:Tok}(h:jQ f x a b=some (.str z))(hx:x.length<=aD)(hu:u≠0)(hv:v≠0)(huv:u≠v) :
  Xf (Xe prog w) A (call (.builtin "str.replace") [.str ⟨⟨x⟩⟩ t,.str ⟨⟨a⟩⟩ u,.str ⟨⟨b⟩⟩ v]) (λr s'=>∃t k,r=.str ⟨⟨z⟩⟩ t/\s'={s with toks:=k}) E s:=by
 refine ab h λd hd h=>aK h λhc h=>?_;have e1:=W8.mp hc;have e2:=W8.mp e1.2;have g:=iU h;have ez:z=eR d b x:=AV.str.inj g.2;refine aa (dT hd) (aa (ez) (SC.replaceW hu hv huv ?_ (W6 hx (by decide)) (Xn e2.2) (λt' k=>(cx t' k ?_ rfl))))
 ·rw[beq_eq_false_iff_ne];intro e;have:[d]=b:=congrArg (λz:Str=>z.cps.toList) e;rw[aW.mpr this]at e2;cases e2.1
 ·exact congrArg (Value.str · t') (cF (yX ⟨⟨x⟩⟩ d ⟨⟨b⟩⟩))
theorem uW{q:(List Nat×List Nat)×(List Nat×List Nat)}:∀{ts vs:List AV}{i:Nat}{y:AV},lJ q ts=some vs->ts[i]?=some y->
  ∃x y2 z,y=.str x/\jQ kC x q.1.1 q.1.2=some (.str y2)/\jQ kC y2 q.2.1 q.2.2=some (.str z)/\vs[i]?=some (.str z)
 | [],_,_,_,_,e=>nomatch e
 | t::ts,vs,i,y,h,e=>ab h λx hx h=>ab h λb hb h=>ab h λy2 hy2 h=>ab h λv h2 h=>ab h λr h3 h=>aL h (by
   cases i with
   | zero=>exact af (Am h2) λz ez zz=>⟨x,y2,z,(W9 e).symm.trans (iR hx),iR hy2▸hb,ez▸h2,congrArg some ez⟩
   | succ i=>exact uW (ts:=ts) (vs:=r) (i:=i) h3 e)
theorem Ao{q:(List Nat×List Nat)×(List Nat×List Nat)}:∀{ts vs:List AV},lJ q ts=some vs->vs.length=ts.length
 | [],_,h=>aL h rfl
 | _::_,_,h=>ab h λ_ _ h=>ab h λ_ _ h=>ab h λ_ _ h=>ab h λ_ _ h=>ab h λ_ h3 h=>aL h (congrArg (· + 1) (Ao h3))
theorem Ap{k:Option Yl}(h:sT k=true):k=some .local:=by
 cases k with
 | none=>cases h
 | some k=>cases k<;>first | rfl | cases h
theorem Aq{e:Expr}{q:Expr×List Nat×List Nat}(h:sS e=some q):∃ap a ca pa b cb pb p,e=.Call (.Attribute q.1 "replace" ap) [.Constant (.str a) ca pa,.Constant (.str b) cb pb] [] p/\(ap.endLine==p.line)=true/\nm a=q.2.1/\nm b=q.2.2:=by
 refine ab h λu hu h=>ab h λr hr h=>bT h λa b hab h=>aK h λg h=>ab hab λz hz hab=>ab hab λa' ha hab=>ab hab λb' hb hab=>?_;cases h;cases hab;have g:=W8.mp g;refine dd (nX ha) λsa ka pa e1 e2=>dd (nX hb) λsb kb pb e3 e4=>⟨r.2.2,sa,ka,pa,sb,kb,pb,u.2.2,?_,beq_iff_eq.mpr (XF g.2),e2,e4⟩;rw[xI hu,sZ hr,jV hz,e1,e3,show r.2.1="replace" from cF (aW.mp g.1)]
theorem MG{sc:YM}{tg elt:Expr}{ifs:List Expr}{q:(List Nat×List Nat)×(List Nat×List Nat)}{C:Prop}(h:nS sc tg ifs elt=some q)
  (k:∀x px yp ap1 a ca pa b cb pb p1 ap2 c cc pc d cd pd p2,tg=.Name x px->ifs=[]->
   elt=.Call (.Attribute (.Call (.Attribute (.Name x yp) "replace" ap1) [.Constant (.str a) ca pa,.Constant (.str b) cb pb] [] p1) "replace" ap2) [.Constant (.str c) cc pc,.Constant (.str d) cd pd] [] p2->
   (ap1.endLine==p1.line)=true->(ap2.endLine==p2.line)=true->gY sc.names=true->nQ sc.names=true->sc.isCoroutine=false->(x==("__debug__":Str))=false->
   sc.names.lookup x=some .local->sc.names.lookup (".0":Str)=some .local->q=((nm a,nm b),(nm c,nm d))->C):C:=by
 refine aK h λhi h=>ab h λx hx h=>ab h λu hu h=>ab h λr hr h=>ab h λy hy h=>aK h λg h=>?_;have g1:=W8.mp g;have g2:=W8.mp g1.1;have g3:=W8.mp g2.1;have g4:=W8.mp g3.1;have g5:=W8.mp g4.1;have g6:=W8.mp g5.1;refine al (iS hx) λpx e1=>al (iS hy) λyp e2=>lx (Aq hu) λap2 c cc pc d cd pd p2 zc0=>gV zc0 λe3 l2 c1 c2=>lx (Aq hr) λap1 a ca pa b cb pb p1 zc0=>gV zc0 λe4 l1 a1 a2=>?_;have exy:y=x:=cF (aW.mp g6.1);exact k x px yp ap1 a ca pa b cb pb p1 ap2 c cc pc d cd pd p2 e1 (jv hi) (by rw[e3,e4,e2,exy]) l1 l2 g6.2 g5.2 (jZ g4.2) (oj (jZ g3.2)) (Ap (kT sc x▸g2.2)) (Ap (kT sc ".0"▸g1.2)) ((W9 h).symm.trans (by rw[a1,a2,c1,c2]))
theorem MH{cenv:Env}{x:Str}{yp ap1 p1 ap2 p2 pa pb pc pd:Pos}{a b c d:Str}{ca cb cc cd:Nat}{ts vs:List AV}{P:Nat->W2->Prop}(hk:cenv.scope.kind=.function)(hx:cenv.kindOf x=some .local)
  (hdb:(x==("__debug__":Str))=false)(l1:(ap1.endLine==p1.line)=true)(l2:(ap2.endLine==p2.line)=true)(hg:lJ ((nm a,nm b),(nm c,nm d)) ts=some vs)
  (hP:∀i v,P i v->∃y t,ts[i]?=some (.str y)/\v=.str ⟨⟨y⟩⟩ t/\y.length<=aD) :
  qC prog w cenv x (.Call (.Attribute (.Call (.Attribute (.Name x yp) "replace" ap1) [.Constant (.str a) ca pa,.Constant (.str b) cb pb] [] p1) "replace" ap2) [.Constant (.str c) cc pc,.Constant (.str d) cd pd] [] p2) P
   (λi y=>∃z t,vs[i]?=some (.str z)/\y=.str ⟨⟨z⟩⟩ t):=by
 intro A' E' i v s₂ m₂ hh hPv hn hm tk;refine bb (hP i v hPv) λy t hy zr3 hyl=>?_;clear hPv;subst zr3;refine fc (uW hg hy) λy' y2 z e h1 h2 h3=>?_;clear hy;cases e;refine dY (Am h1) λzz e hy2 zz=>?_;cases e;have inner:Xf (Xe prog w) A' (eval (.Call (.Attribute (.Name x yp) "replace" ap1) [.Constant (.str a) ca pa,.Constant (.str b) cb pb] [] p1) cenv) (λr s'=>1<=s'.toks/\∃t k,r=.str ⟨⟨y2⟩⟩ t/\s'={s₂ with toks:=k}) nr s₂:=by
  refine KE (Ys tk (Q:=λr s'=>∃t k,r=.str ⟨⟨y2⟩⟩ t/\s'={s₂ with toks:=k}) (E:=nr) (Yd (g9 rfl _) (gK rfl rfl) l1 (wpAny_Name (ZE hk hx hn hm ?_) hdb))) (λr s' q=>q) (λ_ _ f=>f.2.elim);refine(gW ("str") _ aaa F.slot_str_replace F.type_str_replace (Zh _ _ _) (λ_ e=>nomatch e) (XW rfl (YI ?_)));show Xf _ A' (spliced [(false,eval (.Constant (.str a) ca pa) cenv),(false,eval (.Constant (.str b) cb pb) cenv)]) _ _ _;refine XK (Zb (XK (Zb (YC ?_))));exact KE (An (s:={s₂ with toks:=s₂.toks+1+1}) h1 hyl (aai tk) (Nat.succ_ne_zero _) (XZ (Yx _))) (λr s' q=>q) no
 refine Yd (g9 rfl _) (gK rfl rfl) l2 (KE inner (λov s₁ q=>?_) no);refine eQ q λtk1 t1 k1 zr3 zr4=>?_;clear inner q;refine aa zr3 ?_;subst zr4;refine(gW ("str") _ aaa F.slot_str_replace F.type_str_replace (Zh _ _ _) (λ_ e=>nomatch e) (XW rfl (YI ?_)));show Xf _ A' (spliced [(false,eval (.Constant (.str c) cc pc) cenv),(false,eval (.Constant (.str d) cd pd) cenv)]) _ _ _;refine XK (Zb (XK (Zb (YC ?_))));refine KE (An (s:={s₂ with toks:=k1+1+1}) h2 hy2 (aai tk1) (Nat.succ_ne_zero _) (XZ (Yx _))) (λr s' q=>?_) no;exact cw q λt' k' zr2 zr3=>aa zr2 (aa zr3 ⟨(cx z t' h3 rfl),s₂.heap,k',rfl,λ_ _ e=>e⟩)
theorem qD{sc:YM}(h:gY sc.names=true):closureFor sc env=pure []:=by
 refine aa (ux (λn hn=>absurd hn (K6 h))) ?_;have:∀{names:List (Str×Yl)},gY names=true->cH env.cells names []=[]:=by
  intro names;induction names with
  | nil=>intro _;rfl
  | cons p r ih=>
   intro h;obtain⟨n,k⟩:=p;have h:=W8.mp (show(!nP k&&gY r)=true from h);cases k<;>first | (exact absurd h.1 (by decide)) | (rw[cH];(refine aa (if_neg (by decide)) ?_);exact ih h.2)
 refine aa (this h) ?_;rfl
theorem Ar{names:List (Str×Yl)}(h:nQ names=true):∀y∈names,y.2≠NameKind.cell:=λy hy e=>absurd (YP.mp h y hy) (by rw[e];decide)
theorem MI(C:gq K mg)(R:A.depth<YH)(hh:A.handled=none){q:Addr×Addr}(hgt:GT q)(hc:env.code=.ref q.1)(hg:env.globals=Xj)
  {sep:List Nat}{ts vs:List AV}{r:AV}{D:Addr}{us:List W2}{nn:Nat}{u:Tok}{elt iter:Expr}{X:Str}{px gp:Pos}{sc:YM}{k4:(List Nat×List Nat)×(List Nat×List Nat)}
  (hnm:pS iter=true)(hge:nS sc (.Name X px) [] elt=some k4)(hgm:lJ k4 ts=some vs)(hkind:sc.kind=.function)(hj:kG xj sep vs=some r)(hsep:sep.length<=aD)
  (B:aC K s.heap)(gD:s.heap.get? D=some {cls:=.type "list",data:=.seq ⟨us⟩ nn})(rr:aq c s.heap ts us)(hlen:ts.length<=aD+1)(tk:1<=s.toks)
  (he:Xf (Xe prog w) A (eval iter env) (λv s'=>v=.ref D/\s'=s) nr s) :
  Xf (Xe prog w) A (eval (.GeneratorExp elt [⟨.Name X px,iter,[],0⟩] sc gp) env) (λv s'=>Xf (Xe prog w) A (call (.builtin "str.join") [.str ⟨⟨sep⟩⟩ u,v]) (λv s'=>ae aG s s'/\aC K s'.heap/\ao c s'.heap r v) nr s') nr s:=by
 have hq:=hgt.1;have hm:aD=4096:=rfl;refine MG hge λx zz yp ap1 a ca pa b cb pb p1 ap2 c' cc pc d cd pd p2 e1 zz e2 l1 l2 f1 f2 f3 f4 f5 f6 e3=>?_;clear hge;cases e1;subst e2 e3;have hs:∀x,genFold iter env x=pure x:=by cases iter<;>first | exact λ_=>rfl | exact eE hnm
 refine wpAny_GeneratorExp_make f3 (qD f1) (Ar f2) f6 hkind R (KE he (λv s0 q=>?_) no) hs;obtain⟨rfl,rfl⟩:=q;have lD:s0.heap.IsList D ⟨us⟩:=(dl _ gD rfl _ rfl);have hlt:D<s0.heap.objs.size:=Xm gD;refine wpAny_pyIter_list lD ⟨B.lim.keeps λb o e=>Xg _ e,?_⟩;obtain⟨h,gens,dr,t0,os⟩:=s0;have kI:∀b o,h.get? b=some o->(h.push {cls:=.type "list_iterator",data:=.fields #[.ref D,.int 0 0]}).get? b=some o:=λb o e=>Xg _ e;have gI:(h.push {cls:=.type "list_iterator",data:=.fields #[.ref D,.int 0 0]}).get? h.objs.size=some {cls:=.type "list_iterator",data:=.fields #[.ref D,.int 0 0]}:=Xl _ rfl;skip;generalize h.push {cls:=.type "list_iterator",data:=.fields #[.ref D,.int 0 0]}=h1 at kI gI;refine Ak C (B.keep0 kI) hgt hc (λcv h3 tk3 X3 B3=>Al C B3 hg ?_);have it:aG q.2:=by
  simp only[cz,Xk,Xw,or_false]at hq;clear hgt hc X3;rcases hq with rfl | rfl | rfl | rfl<;>simp[aG]
 have lo2:=dp it;have hsz:n₀<=h.objs.size:=B.size;have neI:h.objs.size≠q.2:=by exact EE lo2 hsz
 have neD:D≠q.2:=λe=>by
  obtain⟨ps,e1,_⟩:=B.tab q hq;rw[<-e]at e1;have zs:=fS (show h.get? D=_ from gD) e1;clear gD rr lD;cases zs
 have gI3:=X3 _ _ neI gI;have gD3:=X3 _ _ neD (kI _ _ gD);intro h' hn' hs';dsimp only at hn' hs' ⊢;have hsz':h'.objs.size=h3.objs.size+1:=by simp only[hs'.1,XV]
 have keep':∀b o,h3.get? b=some o->h'.get? b=some o:=λb o e=>hs'.extBut b o (XZ (Xm e)) (Xg _ e);generalize hgo:(⟨.type "generator",none,.fields #[.int gens.size 0,.str "<genexpr>" (tk3+1),.str (env.qual++"<genexpr>") (tk3+1+1)],#[]⟩:Obj)=go;have keep5:∀b o,h3.get? b=some o->(h'.push go).get? b=some o:=λb o e=>Xg _ (keep' b o e);have hclt:cStatics<h3.objs.size:=af B3.lim λzz hn zz=>hn.lt;have ltI:h.objs.size<h3.objs.size:=Xm gI3;have ltD:D<h3.objs.size:=Xm gD3;have hsub:∀b∈[h.objs.size],b∈Xr h3.objs.size:=λb hb=>by (refine aa (Xi.mp hb) ?_);exact Ye.mpr ltI
 have haC:h'.objs.size≠h3.objs.size:=by (refine aa hsz' ?_);exact Nat.succ_ne_self _
 have haf:h'.objs.size∉Xr h3.objs.size:=λhm=>by have:=Ye.mp hm;exact EF hsz' this
 have hcw:cStatics∉[h.objs.size]:=λhm=>absurd (Yj kQ hsz) (by (refine aa (Xi.mp hm) ?_);exact XR _);have W1:∀A':Zp,A'.handled=none->Walks prog w A' h.objs.size (Xr h3.objs.size) [h.objs.size] us.length (λi v=>(⟨us⟩:Array W2)[i]?=some v) (λi hh=>hh.IsListIter h.objs.size D i/\hh.IsList D ⟨us⟩):=λA' hA=>
  (Walks.list (prog:=prog) (w:=w) hA h.objs.size D (XZ hlt) ⟨us⟩).mono_fp λb hb=>by
   simp only[Xk,Xw,or_false]at hb;rcases hb with rfl | rfl
   ·exact Ye.mpr ltI
   ·exact Ye.mpr ltD
 have hlen':us.length=ts.length:=rr.length;have W:=WalksS.genexpQ (prog:=prog) (w:=w) (A:=A.in4) hh h'.objs.size gens.size h3.objs.size (Xr h3.objs.size) [h.objs.size] i7 us.length (λi y=>∃z t,vs[i]?=some (AV.str z)/\y=Value.str ⟨⟨z⟩⟩ t) haC haf hsub R (Ye.mpr hclt) (XZ hclt) hcw;have hP:∀i v,(⟨us⟩:Array W2)[i]?=some v->∃(y:List Nat)(t:Tok),ts[i]?=some (AV.str y)/\v=Value.str ⟨⟨y⟩⟩ t/\y.length<=aD:=λi v hv=>by
  rw[jY]at hv;refine af (rr.at hv) λy e1 e2=>dd (uW hgm e1) λx zz zz e3 zz=>?_;clear zz;subst e3;exact cq e2 λhl t zr2=>aa zr2 (bM x t e1 rfl hl)
 have EO:qC prog w (genEnv sc [] h3.objs.size (.ref cv) Yi env) X _ (λi v=>(⟨us⟩:Array W2)[i]?=some v) (λi y=>∃z t,vs[i]?=some (AV.str z)/\y=Value.str ⟨⟨z⟩⟩ t):=MH (yp:=yp) (ap1:=ap1) (p1:=p1) (ap2:=ap2) (p2:=p2) (pa:=pa) (pb:=pb) (pc:=pc) (pd:=pd) (ca:=ca) (cb:=cb) (cc:=cc) (cd:=cd) hkind f5 f4 l1 l2 hgm hP;have G0:=MF (prog:=prog) (w:=w) (A:=A.in4) (iter:=iter) (px:=px) (scope:=sc) (pos:=gp) (I:=h.objs.size) (a:=h'.objs.size) (g:=gens.size) (cenv:=genEnv sc [] h3.objs.size (.ref cv) Yi env)
  (s:={heap:=h'.push go,gens:=gens.push (.fresh (.compStart (.GeneratorExp _ [⟨.Name X px,iter,[],0⟩] sc gp) 0 (.ref h.objs.size) .none (genEnv sc [] h3.objs.size (.ref cv) Yi env))),drawn:=dr,toks:=tk3+1+1+1,os:=os})
  (m:=λy=>if y=".0" then some (.ref h.objs.size) else none) hh W1 _ f5 (by simp[genEnv,hkind]) f3 (λhm=>XR _ (Ye.mp hm)) EO ⟨_,_,_,Xl _ (by (refine aS hgo ?_);rfl),by (refine aS hgo ?_;rfl),by (refine aS hgo ?_;rfl),by (refine aS hgo ?_;rfl)⟩ (Array.getElem?_push_size ..)
  ⟨(de _ (keep5 _ _ gI3) rfl rfl),(dl _ (keep5 _ _ gD3) rfl _ rfl)⟩ (hn'.push _) (B3.lim.keeps keep5)
 rw[Aj,Nat.sub_zero]at W;refine aK hj λ_ hj=>ab hj λys hys hj=>aw (iU hj) λhl zr1=>aa zr1 ?_;have hat:∀{vs:List AV}{ys:List (List Nat)},jo vs=some ys->vs=ys.map AV.str:=by
  intro vs;induction vs with
  | nil=>intro ys h;cases h;rfl
  | cons v vs ih=>exact λh=>ab h λy hy h=>ab h λr' h' h=>aL h (by (refine aa YE ?_;refine aS (ih h') ?_;refine aS (iR hy) ?_;rfl))
 have hvs:=hat hys;have hvl:ys.length=us.length:=by
  have:=Ao hgm;rw[hvs,W7]at this;exact EG hlen' this
 refine SC.joinGen W.in4_2 (λi s st=>st.1.typeIs) G0 (λb hb=>?_) (Xh ..) (λi v zq1=>Dz zq1 λj zz z t zz e=>(dZ _ _ e)) (λs' lt hm hacc=>?_) (by (refine aa Ze ?_);lia)
 ·show b<(h'.push go).objs.size;simp only[XV,hsz'];rcases Xk.mp hb with rfl | hb
  ·(refine aa hsz' ?_);exact Yx _
  ·rcases Xk.mp hb with rfl | hb
   ·exact Ym (Yx _)
   ·exact Ym (Ym (Ye.mp hb))
 ·have hpass:∀j,(passing i7 us.length 0)[j]?=if j<us.length then some j else none:=λj=>by
   dsimp only[passing,i7];refine aa List.drop_zero (aa (List.filter_eq_self.mpr (λ_ _=>rfl)) ?_);by_cases hj:j<us.length
   ·rw[if_pos hj,Xo (by rw[Yn];exact hj),List.getElem_range]
   ·rw[if_neg hj];exact List.getElem?_eq_none (by rw[Yn];omega)
  have hlt2:lt.map (·.1)=ys.map λy=>(⟨⟨y⟩⟩:Str):=by
   have hsz2:lt.length=us.length:=by
    have:=hacc.1;simpa [strValues] using this
   refine List.ext_getElem (by rw[W7,W7,hsz2,hvl]) λj h1 h2=>?_;rw[W7]at h1 h2;obtain⟨i,e1,z,t,e2,e3⟩:=hacc.2 j (Value.str lt[j].1 lt[j].2) (by simp[strValues,h1]);rw[hpass,if_pos (by lia)]at e1;cases e1;rw[hvs,ZJ,Xo h2]at e2;cases e2;simp only[ZM,ZM];exact(Value.str.inj e3).1
  refine aa hlt2 ?_;have e:=qq sep ys;have hmT:∀b o,h3.get? b=some o->b≠h.objs.size->s'.heap.get? b=some o:=λb o e hb=>hm.heap b o (λhmem=>by
   rcases Xk.mp hmem with rfl | hmem
   ·exact absurd (Xm e) (XR _)
   ·exact hb (Xi.mp hmem)) (keep5 _ _ e)
  have kp:∀b o,b≠q.2->h.get? b=some o->s'.heap.get? b=some o:=λb o nb e=>hmT b o (X3 _ _ nb (kI _ _ e)) (XZ (Xm e));refine⟨joinOk_of (by rw[W7];show _+ys.length * sep.length<=_;omega),λt' k=>⟨⟨?_,?_,?_,?_⟩,?_,hl,t',?_⟩⟩
  ·intro b o e hb;have nb:b≠q.2:=λe=>hb (e▸it);exact kp b o nb e
  ·intro b o e;by_cases nb:b=q.2
   ·exact af (B3.tab q hq) λps e1 zz=>⟨_,nb▸hmT _ _ e1 (Ne.symm neI)⟩
   ·exact⟨_,kp b o nb e⟩
  ·exact hm.os
  ·exact λhb=>AllBare.moved (AllBare.push hb rfl) hm.gens
  ·have ne:∀b,b<n₀->b≠h.objs.size:=λb h e=>by exact EH hsz h e
   have B5:=B3;refine⟨λb o e t=>hmT b o (B3.stat b o e t) (ne _ (B3.old _ _ e)),?_,λp hp=>?_,?_,B3.old,B3.lim.at λo e=>hmT _ o e (ne _ kQ)⟩
   ·refine af B3.bns λmb a1 a2=>(ah mb (a1.at' λo e=>hmT _ o e (λe'=>?_)) a2);refine fJ a1 λoL es ep gL dL zz=>?_;rw[e',gI3]at gL;clear he lD ltD W1;cases gL;cases dL
   ·refine dY (B3.tab p hp) λps e1 e2 e3=>(de ps (hmT _ _ e1 (ne _ ?_)) e2 e3);apply dp;simp only[cz,Xk,Xw,or_false]at hp;rcases hp with rfl | rfl | rfl | rfl<;>simp[aG]
   ·exact al B3.top λo e=>⟨o,hmT _ o e (ne _ (by decide))⟩
  ·rw[eq_of_beq (join_plain_closes _ _),mR]
theorem MJ{X:Str}{pos:Pos}{i:Nat}(hd:ax (nm X) eM=false)(h:aB ρ (nm X)=some (.cell i))(I:ak K c env ρ σ s) :
  ∃D,c.cells[i]?=some D/\∀s1,s1=s->Xf (Xe prog w) A (eval (.Name X pos) env) (λv s'=>v=.ref D/\s'=s) nr s:=by
 have hd':(X==("__debug__":Str))=false:=by
  rw[beq_eq_false_iff_ne];rintro rfl;exact absurd hd (by decide)
 refine af (I.env.vars X _ h) λv hv hr=>af hr λD hD zr2=>?_;clear hr;subst zr2;refine(ah D hD (λ_ _=>?_));refine wpAny_Name ?_ hd';rcases hv with ⟨k,mm,hn,hm⟩ | ⟨k | ⟨k,hc⟩,a,ha,hx⟩
 ·exact ZE I.env.kind k hn hm ⟨rfl,rfl⟩
 ·exact wpAny_loadName_cell I.env.kind k ha hx ⟨rfl,rfl⟩
 ·exact wpAny_loadName_free I.env.kind k ha hx ⟨rfl,rfl⟩ hc
theorem MK{sc:YM}{tg e:Expr}{ifs:List Expr}{k:(List Nat×List Nat)×(List Nat×List Nat)}(h:nS sc tg ifs e=some k):∃X px,tg=.Name X px/\ifs=[]:=
 aK h λe h=>ab h λX hx _=>(iS hx).elim λpx q=>(cx X px q (jv e))
theorem ML{sc:YM}(h:kJ sc=true):sc.kind=.function:=lU (W8.mp h).1
theorem MM{cl:bE}{l:List AV}(h:my cl=some l):cl=⟨none,l⟩:=by
 cases cl with
 | mk a i=>cases a with
  | none=>exact congrArg (bE.mk none) (W9 h)
  | some _=>exact aT h
theorem MN{it:PV}{ts:List AV}(h:pO σ it=some ts):∃i,kx it=some i/\bP σ i=some ⟨none,ts⟩:=
 ab h λi hi h=>ab h λcl hcl h=>(ah i hi (hcl.trans (congrArg some (MM h))))
theorem MO{n i:Nat}{Y:Str}{yp:Pos}{it:PV}(h:pe n x ρ σ (.Name Y yp)=some (it,σ1))(hi:kx it=some i):ax (nm Y) eM=false/\aB ρ (nm Y)=some (.cell i)/\σ1=σ:=by
 cases n with
 | zero=>exact aT h
 | succ n=>
  refine aK (show sU x ρ σ Y=_ from h) λhd h=>dn h (λp hr h=>aw (Xv (W9 h)) λe1 e2=>(bR (jZ hd) (hr.trans (congrArg some (e1.trans (nV hi)))) e2.symm)) λ_ h=>aK h λ_ h=>ab h λa _ h=>aw (Xv (W9 h)) λe1 _=>?_;rw[<-e1]at hi;exact aT hi
theorem MP(C:gq K mg){n:Nat}(P:ce prog w K T m n):uF prog w K T m n:=by
 intro x c env ρ σ t σ' s A o M ap p args q ht hs hq h hb hline I R;refine ab hq λa ha hq=>ab hq λz hz hq=>ab hq λg hg hq=>?_;cases hq;refine al (H9 hz) λgp ez=>?_;have hg:=uD hg;rw[dT ha,ez,hg.1];refine cG h λa σ0 h1 h=>ab h λy hy h=>bT h λit σ1 h2 h=>aK h λhgn h=>ab h λts hown h=>ab h λge hge h=>ab h λvs hgm h=>gZ h λr hj=>?_;have hgn:=W8.mp hgn;have hM:M="join":=aK hj λe _=>cF (aW.mp e);clear h;subst hM;generalize g.target=tg at hge ⊢;generalize g.iter=iter at h2 hgn ⊢;generalize g.ifs=ifs at hge ⊢;have he:YD [.GeneratorExp z.1 [⟨tg,iter,ifs,0⟩] z.2.2 gp] env=[(false,eval (.GeneratorExp z.1 [⟨tg,iter,ifs,0⟩] z.2.2 gp) env)]:=rfl;refine XJ I.tk (Yd (g9 hb _) (gK rfl (by (refine aa he ?_);rfl)) hline (KE (P ht hs h1 I R) (λov s1 q1=>?_) no));refine cq (g8 hy q1.2.2) λhxl u eo=>aa (eo) (aa (he) ((gW ("str") _ aaa F.slot_str_join F.type_str_join (Zh _ _ _) (λ_ e=>nomatch e) (XW rfl (YI (XK ?_))))));refine al (Zd.mp hgn.2) λY eY=>al (iS eY) λyp eY=>?_;rw[eY]at h2 ⊢;refine af (MN hown) λi hi hcl=>da (MO h2 hi) λhd hr e=>?_;clear h2 hi hown h1 h;subst e;refine af (MJ (prog:=prog) (w:=w) (A:=A) (pos:=yp) hd hr q1.2.1) λD hD hev=>eQ (q1.2.1.cells.at hcl hD) λhl vs' k gD rr=>af (hs.2 (aai (Za.mp hgn.1))) λq' hq hqc=>?_;have hge':=hge;refine cw (MK hge) λX px e1 e2=>?_;subst e1;subst e2;refine KE (Ys q1.2.1.tk (MI (u:=u) C R.depth R.1 hq hqc q1.2.1.env.globals rfl hge' hgm (ML hg.2) hj hxl q1.2.1.base gD rr hl q1.2.1.tk (hev _ rfl))) (λv s2 q2=>YC ?_) λ_ _ f=>f.2.elim;exact KE (Ys q2.1 q2.2) (λv s3 q3=>bf.of_val (q1.1.trans (q3.2.1.weaken λb h=>.inr h)) (q1.2.1.tab q3.2.1 q3.2.2.1 q3.1) ⟨ae.refl _ _,q3.2.2.2⟩) λ_ _ f=>f.2.elim
section
open Builtin Builtin.List
section
variable{h:Heap}{C x I:Addr}{o:Obj}{xs:Array W2}{i:Nat}
noncomputable def lX(h:Heap)(x:Addr)(xs:Array W2):Prop:=∃o n,h.get? x=some o/\o.data=.seq xs n
theorem lX.at(a:lX h x xs){h':Heap}(k:∀o,h.get? x=some o->h'.get? x=some o):lX h' x xs:=cw a λo n e d=>(cx o n (k o e) d)
theorem MQ(hit:s.heap.IsListIter I x i)(hx:lX s.heap x xs){v:W2}(hv:xs[i]?=some v){Q:Option W2->Xd->Prop}
  (q:∀h',h'.IsListIter I x (i+1)->XC I s.heap h'->Q (some v) {s with heap:=h'}):Xf (Xe prog w) A (pyNext (.ref I)) Q E s:=by
 refine dY (id hit) λoi gi ci di=>cw hx λo n g d=>?_;skip;refine El (wpAny_attempt (wpAny_callSpecial?_slot (name:=YA "__next__") hit.typeIs slot_listiter_next (wpAny_call_entry slot_listiter_next hit.typeIs entry_listiter_next ?_ (args_listiter_next _))));show Xf _ _ (field (.ref I) 0 >>= _) _ _ s;refine El (Zl gi di (x:=.ref x) rfl ?_);show Xf _ _ (if (Value.ref x==Value.none)=true then _ else _) _ _ s;refine aa (if_neg (by exact Y1)) ?_;show Xf _ _ (field (.ref I) 1 >>= _) _ _ s;refine El (Zl gi di (x:=.int i 0) rfl ?_);show Xf _ _ (seqItems? (.ref x) >>= _) _ _ s;refine El (YY g d ?_);simp only[Int.toNat_natCast,hv];refine El (wpAny_setField gi di (by simp) (Ev (ah v rfl (Ev (q _ (de _ (Zz _ gi (Obj.isFreed_of_fields (Obj.data_mapFields di _))) ((Obj.cls_mapFields ..).trans ci) ?_) (Yt ..))))));rw[Obj.data_mapFields di];simp[rawInt]
theorem MR(hh:A.handled=none)(hit:s.heap.IsListIter I x i)(hx:lX s.heap x xs)(hv:xs[i]?=none){Q:Option W2->Xd->Prop}
  (q:∀h',Heap.ExtBut I s.heap h'->Q none {s with heap:=h'}):Xf (Xe prog w) A (pyNext (.ref I)) Q E s:=by
 refine dY (id hit) λoi gi ci di=>cw hx λo n g d=>?_;skip;refine El (wpAny_attempt (wpAny_callSpecial?_slot (name:=YA "__next__") hit.typeIs slot_listiter_next (wpAny_call_entry slot_listiter_next hit.typeIs entry_listiter_next ?_ (args_listiter_next _))));show Xf _ _ (field (.ref I) 0 >>= _) _ _ s;refine El (Zl gi di (x:=.ref x) rfl ?_);show Xf _ _ (if (Value.ref x==Value.none)=true then _ else _) _ _ s;rw[if_neg (by exact Y1)];show Xf _ _ (field (.ref I) 1 >>= _) _ _ s;refine El (Zl gi di (x:=.int i 0) rfl ?_);show Xf _ _ (seqItems? (.ref x) >>= _) _ _ s;refine El (YY g d ?_);simp only[Int.toNat_natCast,hv];refine El (ZZ (El (wpAny_setField gi di (by exact XH _) ?_)));show Xf _ _ (newExc (.type "StopIteration") [] >>= _) _ _ _;refine El ?_;skip;refine El (Y5 ?_ (by size_fits));refine El (m:=firstArgMember _ _) (XG (a:=Value.none) (by simp only[firstArgMember];rfl) (Y5 ?_ (by size_fits)));dsimp only[raiseNew];refine El (wpAny_handled ?_);refine aa (show A.in1.handled=none from hh) (El (Ev (wpAny_throw ?_)));refine El (Zs (T:="StopIteration") (b:=true) (ah _ (Xl _ rfl) rfl) isSubtype_stop (Ev (q _ ?_)));exact((Yt ..).extBut.push _).push _
theorem MT{K:Frag}(X:K.In s.heap)(L:fO (Xe prog w) s.heap x C)(hit:YS K (.ref C) "__iter__"=some (some (.builtin "list.__iter__"))){Q:W2->Xd->Prop}
  (q:Q (.ref s.heap.objs.size) {s with heap:=s.heap.push {cls:=.type "list_iterator",data:=.fields #[.ref x,.int 0 0]}}):Xf (Xe prog w) A (pyIter (.ref x)) Q E s:=by
 have hf:=λ{M:Model}=>Zw (M:=M) X hit;skip;refine El (El (L.typ.here (hf.here ?_)));dsimp only;have hb:bindSpecial (.builtin "list.__iter__") (.ref x)=pure (.builtin "list.__iter__",[.ref x]):=PySem.F.slot_list_iter.bind _;have hbi:∀{Q:Option (W2×List W2)->Xd->Prop},Q (some (.builtin "list.__iter__",[.ref x])) s->Xf (Xe prog w) A (bindSpecialIfBound? (.ref x) "__iter__") Q E s:=λq=>by
  unfold bindSpecialIfBound?;refine El (El (L.typ.here (hf.here ?_)));dsimp only;refine aa hb (El (wpAny_askSetting ?_));split
  ·exact El (Ev (Ev q))
  ·exact wpAny_tryCatch (El (Ev (Ev q)))
 unfold callSpecialIfBoundUnlessNone?;refine El (XQ (El (hbi ?_)));dsimp only;rw[if_neg (by decide)];refine El (mX (nme:="__iter__") L (.inl (by decide +kernel)) (by decide +kernel) (by unfold ZD;rfl') (by decide +kernel) PySem.F.entry_list_iter λA'=>?_);show Xf _ _ (do ret (<-newFields "list_iterator" [.ref x,rawInt 0])) _ _ s;refine El (Y5 (Ev (ah _ rfl (Ev ?_))) (by size_fits));dsimp only;refine El (El (aag (T:="list_iterator") (ah _ (Xl _ rfl) rfl) (XG slot_listiter_next.lookup ?_)));exact Ev q
end
end
theorem WalksS.imp{prog:Y3}{w:aal}{A:Zp}{I:Addr}{fp wr:List Addr}{G:Array GenState->Array GenState->Prop}{n:Nat}{P P':Nat->W2->Prop}{St:Nat->Xd->Prop}
  (W:WalksS prog w A I fp wr G n P St)(h:∀i v,i<n->P i v->P' i v):WalksS prog w A I fp wr G n P' St:=
 {W with item:=λi s Q E hi st hQ=>W.item i s Q E hi st λv s' hp=>hQ v s' (h i v hi hp)}
section
variable{h:Heap}{x I:Addr}
theorem MU{items:Array W2}{Ts:Nat->Addr}{vals:Nat->Array W2}(hh:A.handled=none)(hne:x≠I)(hit:∀j,j<items.size->items[j]?=some (.ref (Ts j)))(hTI:∀j,j<items.size->Ts j≠I) :
  WalksU prog w A I (I::x::(Xr items.size).map Ts) [I] items.size (λj v=>j<items.size/\v=vals j)
   (λj h=>h.IsListIter I x j/\lX h x items/\∀k,k<items.size->h.IsTuple (Ts k) (vals k))
   (λj T h=>(j<items.size/\T=Ts j)/\h.IsListIter I x (j+1)/\lX h x items/\∀k,k<items.size->h.IsTuple (Ts k) (vals k)) where
 sub:=λb hb=>by rw[Xi.mp hb];exact Xh ..
 frame:=λi h h' zq0 k=>da zq0 λs1 s2 s3=>(bR (s1.at λo e=>k I (by simp) o e) (s2.at λo e=>k x (by simp) o e) (λj hj=>(s3 j hj).at λo e=>k (Ts j) (by simp;exact .inr (.inr (ah j hj rfl))) o e))
 item:=λi s Q E hi zq1 hQ=>da zq1 λs1 s2 s3=>by
  refine MQ s1 s2 (hit i hi) λh' it' sb=>?_;have tup:∀j,j<items.size->h'.IsTuple (Ts j) (vals j):=λj hj=>(s3 j hj).extBut sb.extBut (hTI j hj);exact hQ (Ts i) (vals i) h' s.toks ⟨hi,rfl⟩ (tup i hi) (iJ ⟨hi,rfl⟩ it' (s2.at λo e=>sb.extBut x o hne e) tup) λb o hb e=>sb.extBut b o (λq=>hb (by rw[q];exact Xi.mpr rfl)) e
 go:=λ_ _ _ _ _ s Q _ hm hQ=>wpAny_letOwnedTupleGo_listiter hm.2.1 (hQ s.heap hm.2 λ_ _ _ e=>e)
 apart:=λj T _ hm hmem=>hTI j hm.1.1 (hm.1.2▸Xi.mp hmem)
 done:=λs Q E zq2 hQ=>da zq2 λs1 s2 zz=>MR hh s1 s2 (Array.getElem?_eq_none (Xs _)) λh' ex=>hQ h' s.toks λb o hb e=>ex b o (λq=>hb (by rw[q];exact Xi.mpr rfl)) e
 self:=λ_ _ _ _ st hQ=>wpAny_pyIter_listiter st.1 hQ
noncomputable def MV(h:Heap)(T:Addr)(V:Array W2)(a b:List Nat):Prop:=
 h.IsTuple T V/\a.length<=aD/\b.length<=aD/\∃ta tb,V=#[.str ⟨⟨a⟩⟩ ta,.str ⟨⟨b⟩⟩ tb]
theorem As:∀{ps:List (List Nat×List Nat)}{us:List W2},aq c h (ps.map λp=>AV.tup [.str p.1,.str p.2]) us->∀j:Nat,∃(T:Addr)(V:Array W2),∀p:List Nat×List Nat,ps[j]?=some p->us[j]?=some (Value.ref T)/\MV h T V p.1 p.2
 | [],us,_,j=>(dZ 0 (#[]) (λp e=>by simp at e))
 | p::ps,us,hr,0=>by
  refine bb hr λv r zr2 zn3 zz=>aa zr2 (b5 zn3 λT vs n zr3 zz g zz hr2=>?_);subst zr3;refine bb hr2 λva r1 zr2 zn3 hr3=>?_;subst zr2;refine cq zn3 λha ta zr2=>?_;subst zr2;refine bb hr3 λvb r2 zr2 zn3 hr4=>?_;subst zr2;refine cq zn3 λhb tb zr2=>?_;subst zr2;cases hr4;refine(dZ T (#[.str ⟨⟨p.1⟩⟩ ta,.str ⟨⟨p.2⟩⟩ tb]) (λq e=>?_));cases e;exact⟨rfl,(dl _ g rfl _ rfl),ha,hb,ta,tb,rfl⟩
 | p::ps,us,hr,j+1=>by
  refine bb hr λv r zr2 zz hr2=>?_;clear hr zz;subst zr2;exact iH (As hr2 j) λT V e=>(dZ T V (λq hq=>by simpa using e q hq))
variable{b dx:Addr}{vs:List W2}{xa xb:Str}{pa pb pt gp:Pos}{kt:Nat}{sc:YM}{elt iter:Expr}{ps:List (List Nat×List Nat)}{FF:Nat->W2->Prop}
theorem uX{xs:Array W2}{m:Nat}{o:Obj}{a:Addr}(B:aC K h)(g:h.get? a=some o)(d:o.data=.seq xs m):¬aG a:=λt=>by
 have:∃q∈cz,q.2=a:=by
  clear g;rcases t with rfl | rfl | rfl | rfl<;>simp[cz]
 refine af this λq hq zr2=>?_;clear t this;subst zr2;refine af (B.tab q hq) λps e zz=>?_;have zs:=fS e g;subst zs;cases d
theorem Au(C:gq K mg)(F:eU (Kn K))(R:A.depth<YH)(hh:A.handled=none){q:Addr×Addr}(hgt:GT q)(hc:env.code=.ref q.1)(hg:env.globals=Xj)
  (f1:gY sc.names=true)(f2:nQ sc.names=true)(f3:sc.isCoroutine=false)(h0:sc.names.lookup (".0":Str)=some .local)(hxa:sc.names.lookup xa=some .local)(hxb:sc.names.lookup xb=some .local)(hab:xa≠xb)(hkind:sc.kind=.function)
  (B:aC K s.heap)(L:fO (Xe prog w) s.heap b aN)(g:s.heap.get? b=some (ew dx vs n))(rr:aq c s.heap (ps.map λp=>AV.tup [.str p.1,.str p.2]) vs)
  (he:Xf (Xe prog w) A (eval iter env) (λv s'=>v=.ref b/\s'=s) nr s)(hs:∀x,genFold iter env x=pure x)
  (hel:∀(A':Zp) E' (i:Nat) va vb (s2:Xd) m2 (cenv:Env) (p:List Nat×List Nat),A'.handled=none->ps[i]?=some p->p.1.length<=aD->p.2.length<=aD->(∃ta,va=.str ⟨⟨p.1⟩⟩ ta)->(∃tb,vb=.str ⟨⟨p.2⟩⟩ tb)->cenv.scope=sc->cenv.globals=Xj->cenv.builtins=Yi->
   s2.heap.Ns cenv.locals m2->m2 xa=some va->m2 xb=some vb->s2.heap.Ns Xj mg->(∃mb,s2.heap.Ns Yi mb/\∀x:Str,x≠"__name__"->mb x=Zx x)->
   Xf (Xe prog w) A' (eval elt cenv) (λy s3=>FF i y/\Keeps s2 s3) E' s2)
  {Q:W2->Xd->Prop}
  (hfin:∀a fp wr gi St s5,WalksS prog w A.in4 a fp wr (GenOnlyQ gi) ps.length FF St->St 0 s5->(∀i s',St i s'->s'.TypeIs (.ref a) "generator")->(∀b∈fp,b<s5.heap.objs.size)->a∈fp->(∀b∈wr,s.heap.objs.size<=b)->s.heap.objs.size<=s5.heap.objs.size->
   (∀s' wr',Moved wr' (GenOnlyQ gi) s5 s'->(∀b∈wr',s.heap.objs.size<=b)->ae aG s s'/\aC K s'.heap)->(∀b o,s.heap.get? b=some o->¬aG b->s5.heap.get? b=some o)->Q (.ref a) s5) :
  Xf (Xe prog w) A (eval (.GeneratorExp elt [⟨.Tuple [.Name xa pa,.Name xb pb] kt pt,iter,[],0⟩] sc gp) env) Q nr s:=by
 have hq:=hgt.1;have it:aG q.2:=by
  simp only[cz,Xk,Xw,or_false]at hq;clear hgt hc;rcases hq with rfl | rfl | rfl | rfl<;>simp[aG]
 have lo2:=dp it;have hlen:vs.length=ps.length:=by have:=rr.length;rw[W7]at this;exact this
 refine al (Classical.skolem.mp (As rr)) λTs hTs=>al (Classical.skolem.mp hTs) λVs hVs=>?_;have hat:∀j,j<vs.length->∃p,ps[j]?=some p:=λj hj=>⟨_,Xo (by exact wp hlen hj)⟩;refine wpAny_GeneratorExp_walksQT hh f3 (qD f1) (Ar f2) h0 hxa hxb hab hkind R (KE he (λv s0 e=>?_) no) hs;refine aw e λzr0 zr1=>aa zr0 ?_;subst zr1;refine MT B.kn L F.iter ?_;obtain⟨h,gens,dr,t0,os⟩:=s0;have kI:∀y o,h.get? y=some o->(h.push {cls:=.type "list_iterator",data:=.fields #[.ref b,.int 0 0]}).get? y=some o:=λy o e=>Xg _ e;have gI:(h.push {cls:=.type "list_iterator",data:=.fields #[.ref b,.int 0 0]}).get? h.objs.size=some {cls:=.type "list_iterator",data:=.fields #[.ref b,.int 0 0]}:=Xl _ rfl;have ltb:b<h.objs.size:=Xm g;dsimp only at kI gI ⊢;generalize h.push {cls:=.type "list_iterator",data:=.fields #[.ref b,.int 0 0]}=h1 at kI gI;refine⟨B.lim.keeps kI,Ak C (B.keep0 kI) hgt hc λcv h3 tk3 X3 B3=>Al C B3 hg ?_⟩;have neI:h.objs.size≠q.2:=λe=>by have:n₀<=h.objs.size:=B.size;exact DM lo2 e this
 have hTI:∀j,j<vs.length->Ts j<h.objs.size:=λj hj=>by
  exact al (hat j hj) λp hp=>da (hVs j p hp) λzz zn1 zz=>af zn1 λo e1 zz=>Xm e1
 have hitem:∀j,j<(⟨vs⟩:Array W2).size->(⟨vs⟩:Array W2)[j]?=some (.ref (Ts j)):=λj hj=>by
  refine al (hat j hj) λp hp=>?_;rw[jY];exact(hVs j p hp).1
 have low3:∀y,y<n₀->y<h3.objs.size:=λy hy=>by
  refine al B3.top λo e=>?_;have:=Xm e;exact Yj hy (Nat.le_of_pred_lt this)
 have kX:∀y o,h.get? y=some o->¬aG y->h3.get? y=some o:=λy o e hy=>X3 y o (λe'=>hy (e'▸it)) (kI y o e);have ltI3:h.objs.size<h3.objs.size:=Xm (X3 _ _ neI gI);refine⟨h.objs.size,_,[h.objs.size],vs.length,_,_,_,i7,FF,rfl,λA' hA=>MU (x:=b) (items:=⟨vs⟩) (Ts:=Ts) (vals:=Vs) hA (XZ ltb) hitem (λj hj=>XZ (hTI j hj)),λi vals hv=>?_,(bR ?_ ?_ ?_),?_,B3.lim,?_,?_,?_⟩
 ·exact aw hv λhi zr1=>aa zr1 (al (hat i hi) λp hp=>wi (hVs i p hp) λzz zz zz zz ta tb e=>(dZ _ _ e))
 ·exact(de _ (X3 _ _ neI gI) rfl rfl)
 ·exact(cx _ _ (kX b _ g (uX B g rfl)) rfl)
 ·intro k hk;exact al (hat k hk) λp hp=>da (hVs k p hp) λzz zn1 zz=>lr zn1 λo e1 e2 m e3=>(dl o (kX _ _ e1 (uX B e1 e3)) e2 m e3)
 ·intro y hy;have ltI:h.objs.size<h3.objs.size:=Xm (X3 _ _ neI gI);clear hlen hat B L he hTs hVs e hitem kX ltI3;rcases Xk.mp hy with rfl | hy
  ·exact ltI
  ·clear rr;rcases Xk.mp hy with rfl | hy
   ·exact Nat.lt_trans ltb ltI
   ·exact af (Yp.mp hy) λj hj zr2=>aS zr2 (Nat.lt_trans (hTI j (Ye.mp hj)) ltI)
 ·intro hm;rw[Xi]at hm;exact absurd kQ (XN.mpr (hm▸B.size))
 ·intro href hk;refine⟨λA' E' i va vb s2 m2 hA hP hns hma hmb hfr=>?_,λA' E' i va vb s2 m2 hA hP hz hns hma hmb hfr=>?_⟩
  ·exact aa List.forIn_nil (Ev ⟨rfl,(cx s2.heap s2.toks rfl (λ_ _ e=>e))⟩)
  ·refine aw hP λhi hV=>al (hat i hi) λp hp=>wi (hVs i p hp) λzz zz la lb ta tb e=>?_;rw[e]at hV;have e1:=congrArg Array.toList hV;simp only[List.cons.injEq,and_true]at e1;have hs2:∀y o,y<n₀->h3.get? y=some o->s2.heap.get? y=some o:=λy o hy e=>hfr y (Ye.mpr (low3 y hy)) (λhm=>absurd hy (XN.mpr ((Xi.mp hm)▸B.size))) o (hk y o e);exact af B3.bns λmb nb hmb'=>hel A' E' i va vb s2 m2 _ p hA hp la lb ⟨ta,e1.1⟩ ⟨tb,e1.2⟩ rfl hg rfl hns hma hmb ((C.glob _ B3).at' λo e=>hs2 _ o (by decide) e) (ah mb (nb.at' λo e=>hs2 _ o (by decide) e) hmb')
 ·intro a h5 tk gs hbare hlt hsz hk W G0;have hl2:(passing i7 vs.length 0).length=ps.length:=by rw[Aj];exact DN hlen
  rw[hl2]at W;refine hfin a _ _ _ (GenAt prog w A.in4 a gens.size h3.objs.size (Xr h3.objs.size) [h.objs.size] i7 vs.length FF) _ (WalksS.imp W λi v hi zq3=>af zq3 λj e1 e2=>?_) G0 (λi s' st=>st.1.typeIs) ?_ (Xh ..) ?_ ?_ ?_ ?_
  ·rw[MD (by exact DO hlen hi)]at e1
   (injection e1 with zi;clear hi;refine aa zi ?_);exact e2
  ·intro y hy;refine aa hsz ?_;rcases Xk.mp hy with rfl | hy
   ·exact Yx _
   ·rcases Xk.mp hy with rfl | hy
    ·exact Ym hlt
    ·exact Ym (Nat.lt_trans (Ye.mp hy) hlt)
  ·intro y hy;clear B L rr he hfin hTs hVs e ltb B3 hTI low3 kX hlt hk W G0;rcases Xk.mp hy with rfl | hy
   ·exact Yo ltI3
   ·(refine aa (Xi.mp hy) ?_);exact Xs _
  ·show h.objs.size<=h5.objs.size;exact aa hsz (Yo (Ym (Nat.lt_trans ltI3 hlt)))
  ·intro s' wr' hm hw;have kp:∀y o,h5.get? y=some o->y<h.objs.size->s'.heap.get? y=some o:=λy o e hy=>hm.heap y o (λhmem=>absurd hy (XN.mpr (hw y hmem))) e;have k5:∀y o,y<h.objs.size->h3.get? y=some o->s'.heap.get? y=some o:=λy o hy e=>kp y o (hk y o e) hy;have hn:∀y,y<n₀->y<h.objs.size:=λy hy=>Yj hy B.size;refine⟨⟨λy o e hy=>k5 y o (Xm e) (kX y o e hy),λy o e=>?_,hm.os,λhb=>AllBare.moved (AllBare.push hb hbare) hm.gens⟩,?_⟩
   ·by_cases hy:y=q.2
    ·exact af (B3.tab q hq) λqs e1 zz=>⟨_,hy▸k5 _ _ (hn _ lo2) e1⟩
    ·exact⟨_,k5 y o (Xm e) (X3 y o hy (kI y o e))⟩
   ·refine⟨λy o e t=>k5 y o (hn y (B3.old _ _ e)) (B3.stat y o e t),?_,λp hp=>?_,?_,B3.old,B3.lim.at λo e=>k5 _ o (hn _ kQ) e⟩
    ·exact af B3.bns λmb a1 a2=>(ah mb (a1.at' λo e=>k5 _ o (hn _ (by decide)) e) a2)
    ·refine dY (B3.tab p hp) λqs e1 e2 e3=>(de qs (k5 _ _ (hn _ ?_) e1) e2 e3);apply dp;simp only[cz,Xk,Xw,or_false]at hp;rcases hp with rfl | rfl | rfl | rfl<;>simp[aG]
    ·exact al B3.top λo e=>⟨o,k5 _ o (hn _ (by decide)) e⟩
  ·exact λy o e hy=>hk y o (kX y o e hy)
end
noncomputable def m3{α:Type}(a:α)(f:Nat->α):Nat->α
 | 0=>a
 | i+1=>f i
theorem WalksS.shift{prog:Y3}{w:aal}{A:Zp}{I:Addr}{fp wr:List Addr}{G:Array GenState->Array GenState->Prop}{n:Nat}{P:Nat->W2->Prop}{St:Nat->Xd->Prop}
  (W:WalksS prog w A I fp wr G n P St):WalksS prog w A I fp wr G (n+1) (m3 (λ_=>False) P) (m3 (λ_=>False) St) where
 sub:=W.sub
 grefl:=W.grefl
 gtrans:=W.gtrans
 frame:=λi s h' tk st=>match i with
  | 0=>st.elim
  | i+1=>W.frame i s h' tk st
 item:=λi s Q E hi st hQ=>match i with
  | 0=>st.elim
  | i+1=>W.item i s Q E (Nat.lt_of_succ_lt_succ hi) st hQ
 done:=λs Q E st hQ=>W.done s Q E st hQ
 self:=λi s Q E st hQ=>match i with
  | 0=>st.elim
  | i+1=>W.self i s Q E st hQ
theorem Av(z:Int)(val:Nat->Int):∀i,preSum (m3 z val) (i+1)=z+preSum val i
 | 0=>by show(0:Int)+z=z+0;exact DP
 | i+1=>by
  show preSum (m3 z val) (i+1)+val i=z+(preSum val i+val i);exact aa (Av z val i) DQ
theorem MW(a b:W2):ZD "sum" ⟨[a,b],[]⟩:=by unfold ZD;rfl'
theorem MX{z:Int}{t:Tok}{I:Addr}{fp wr:List Addr}{G:Array GenState->Array GenState->Prop}{n:Nat}{P:Nat->W2->Prop}{St:Nat->Xd->Prop}{val:Nat->Int}{Q:W2->Xd->Prop}
  (W:WalksS prog w A.in1 I fp wr G n P St)(hst:St 0 s)(hfp:∀b∈fp,b<s.heap.objs.size)(hval:∀i v,P i v->∃t,v=.int (val i) t)(hz:0<=z/\z<=4)
  (q:∀s' t',Moved wr G s s'->Q (.int (z+preSum val n) t') s'):Xf (Xe prog w) A (call (.builtin "sum") [.ref I,.int z t]) Q E s:=by
 refine call_function_tree PySem.F.kind_sum PySem.F.plain_sum PySem.F.entry_sum (MW _ _) ?_;unfold Xp.«sum»;dsimp only[W5,Xq];rw[if_neg (by decide)];refine El (XG (show Xp.Builtins.bindParams "sum" ["start"] 0 {pos:=[.int z t]}=pure [some (.int z t)] from rfl) ?_);refine El (W.self 0 s _ _ hst ?_);show Xf _ _ (if (decide (-(2 ^ 63)<=z)&&decide (z<2 ^ 63):Bool)=true then _ else _) _ _ _;rw[if_pos (by refine aw hz λa b=>?_;simp only[YK,decide_eq_true_eq,decide_eq_true_eq];exact DR hz)];refine El (ZZ (El (wpAny_mkInt (El (Ev ?_)))));dsimp only;refine El (El (El (Zs (T:="int") (b:=false) (typeIs_int _ _ _) PySem.sub_int_str ?_)));skip;refine Ev (El (El (Zs (T:="int") (b:=false) (typeIs_int _ _ _) PySem.sub_int_bytes ?_)));skip;refine Ev (El (El (Zs (T:="int") (b:=false) (typeIs_int _ _ _) PySem.sub_int_bytearray ?_)));skip;refine Ev (Ev ?_);refine El (Y5 ?_ (by size_fits));have hSf:s.heap.objs.size∉fp:=λhm=>XR _ (hfp _ hm);refine Ev ⟨plainId_quiet PySem.F.plain_sum_loop _,codeAny_sum_loopAnyS (WalksS.shift W) (m3 z val) (λi v hp=>?_) s.heap.objs.size hSf n 1 _ s.toks 0 0 (.inl rfl) (Nat.add_sub_cancel ..) (Yk ..)
  (W.frame 0 s _ _ hst (XH _) λb _ o e=>Xg _ e) ?_ λs' t' hm=>?_⟩
 ·match i with
  | 0=>exact hp.elim
  | i+1=>exact hval i v hp
 ·have:preSum (m3 z val) 1=z:=by show(0:Int)+z=z;exact DS
  exact aa this (Xl _ rfl)
 ·have:=q s' t' (hm.drop_new (XH _));rw[<-Av]at this;exact this
noncomputable def m4(sc:YM):Bool:=gY sc.names&&nQ sc.names&&!sc.isCoroutine&&sP sc.kind
theorem Aw:∃P:Pos×Pos×Pos×Pos×Pos×Pos×Pos×Pos×Pos×Pos×Pos×Nat×Pos×Pos×Pos×Pos×Pos×Pos×YM,bt (bc 4)=[.Return (some (.Call (.Name "sum" (P.1)) [.GeneratorExp (.BinOp (.Call (.Name "len" (P.2.1)) [.Name "fws" (P.2.2.1)] [] (P.2.2.2.1)) .Add (.Call (.Name "len" (P.2.2.2.2.1)) [.Name "part" (P.2.2.2.2.2.1)] [] (P.2.2.2.2.2.2.1)) (P.2.2.2.2.2.2.2.1))
  [⟨.Tuple [.Name "fws" (P.2.2.2.2.2.2.2.2.1),.Name "part" (P.2.2.2.2.2.2.2.2.2.1)] (P.2.2.2.2.2.2.2.2.2.2.2.1) (P.2.2.2.2.2.2.2.2.2.2.1),.Name "self" (P.2.2.2.2.2.2.2.2.2.2.2.2.1),[],0⟩] (P.2.2.2.2.2.2.2.2.2.2.2.2.2.2.2.2.2.2) (P.2.2.2.2.2.2.2.2.2.2.2.2.2.1),.Attribute (.Name "self" (P.2.2.2.2.2.2.2.2.2.2.2.2.2.2.1)) "_initial_size" (P.2.2.2.2.2.2.2.2.2.2.2.2.2.2.2.1)] [] (P.2.2.2.2.2.2.2.2.2.2.2.2.2.2.2.2.1))) (P.2.2.2.2.2.2.2.2.2.2.2.2.2.2.2.2.2.1)]/\
  m4 (P.2.2.2.2.2.2.2.2.2.2.2.2.2.2.2.2.2.2)=true/\P.2.2.2.2.2.2.2.2.2.2.2.2.2.2.2.2.2.2.names.lookup (".0":Str)=some .local/\P.2.2.2.2.2.2.2.2.2.2.2.2.2.2.2.2.2.2.names.lookup ("fws":Str)=some .local/\P.2.2.2.2.2.2.2.2.2.2.2.2.2.2.2.2.2.2.names.lookup ("part":Str)=some .local/\P.2.2.2.2.2.2.2.2.2.2.2.2.2.2.2.2.2.2.names.lookup ("len":Str)=some .globalImplicit:=
 by refine⟨(_,_,_,_,_,_,_,_,_,_,_,_,_,_,_,_,_,_,_),rfl,?_,?_,?_,?_,?_⟩<;>decide +kernel
noncomputable def dO:Pos×Pos×Pos×Pos×Pos×Pos×Pos×Pos×Pos×Pos×Pos×Nat×Pos×Pos×Pos×Pos×Pos×Pos×YM:=ZN Aw
theorem MY:bt (bc 4)=[.Return (some (.Call (.Name "sum" (dO.1)) [.GeneratorExp (.BinOp (.Call (.Name "len" (dO.2.1)) [.Name "fws" (dO.2.2.1)] [] (dO.2.2.2.1)) .Add (.Call (.Name "len" (dO.2.2.2.2.1)) [.Name "part" (dO.2.2.2.2.2.1)] [] (dO.2.2.2.2.2.2.1)) (dO.2.2.2.2.2.2.2.1))
  [⟨.Tuple [.Name "fws" (dO.2.2.2.2.2.2.2.2.1),.Name "part" (dO.2.2.2.2.2.2.2.2.2.1)] (dO.2.2.2.2.2.2.2.2.2.2.2.1) (dO.2.2.2.2.2.2.2.2.2.2.1),.Name "self" (dO.2.2.2.2.2.2.2.2.2.2.2.2.1),[],0⟩] (dO.2.2.2.2.2.2.2.2.2.2.2.2.2.2.2.2.2.2) (dO.2.2.2.2.2.2.2.2.2.2.2.2.2.1),.Attribute (.Name "self" (dO.2.2.2.2.2.2.2.2.2.2.2.2.2.2.1)) "_initial_size" (dO.2.2.2.2.2.2.2.2.2.2.2.2.2.2.2.1)] [] (dO.2.2.2.2.2.2.2.2.2.2.2.2.2.2.2.2.1))) (dO.2.2.2.2.2.2.2.2.2.2.2.2.2.2.2.2.2.1)]/\
  m4 (dO.2.2.2.2.2.2.2.2.2.2.2.2.2.2.2.2.2.2)=true/\dO.2.2.2.2.2.2.2.2.2.2.2.2.2.2.2.2.2.2.names.lookup (".0":Str)=some .local/\dO.2.2.2.2.2.2.2.2.2.2.2.2.2.2.2.2.2.2.names.lookup ("fws":Str)=some .local/\dO.2.2.2.2.2.2.2.2.2.2.2.2.2.2.2.2.2.2.names.lookup ("part":Str)=some .local/\dO.2.2.2.2.2.2.2.2.2.2.2.2.2.2.2.2.2.2.names.lookup ("len":Str)=some .globalImplicit:=Y9 Aw
theorem Ax:∃P:Pos×Pos×Pos×Pos×Pos×Pos×Pos×Nat×Pos×Pos×Pos×Pos×Nat×Pos×Pos×Pos×Pos×YM,bt (bc 5)=[.Return (some (.Call (.Attribute (.Name "EMPTYSTRING" (P.1)) "join" (P.2.1)) [.GeneratorExp (.Call (.Attribute (.Name "EMPTYSTRING" (P.2.2.1)) "join" (P.2.2.2.1)) [.Tuple [.Name "fws" (P.2.2.2.2.1),.Name "part" (P.2.2.2.2.2.1)] (P.2.2.2.2.2.2.2.1) (P.2.2.2.2.2.2.1)] [] (P.2.2.2.2.2.2.2.2.1))
  [⟨.Tuple [.Name "fws" (P.2.2.2.2.2.2.2.2.2.1),.Name "part" (P.2.2.2.2.2.2.2.2.2.2.1)] (P.2.2.2.2.2.2.2.2.2.2.2.2.1) (P.2.2.2.2.2.2.2.2.2.2.2.1),.Name "self" (P.2.2.2.2.2.2.2.2.2.2.2.2.2.1),[],0⟩] (P.2.2.2.2.2.2.2.2.2.2.2.2.2.2.2.2.2) (P.2.2.2.2.2.2.2.2.2.2.2.2.2.2.1)] [] (P.2.2.2.2.2.2.2.2.2.2.2.2.2.2.2.1))) (P.2.2.2.2.2.2.2.2.2.2.2.2.2.2.2.2.1)]/\
  m4 (P.2.2.2.2.2.2.2.2.2.2.2.2.2.2.2.2.2)=true/\P.2.2.2.2.2.2.2.2.2.2.2.2.2.2.2.2.2.names.lookup (".0":Str)=some .local/\P.2.2.2.2.2.2.2.2.2.2.2.2.2.2.2.2.2.names.lookup ("fws":Str)=some .local/\P.2.2.2.2.2.2.2.2.2.2.2.2.2.2.2.2.2.names.lookup ("part":Str)=some .local/\P.2.2.2.2.2.2.2.2.2.2.2.2.2.2.2.2.2.names.lookup ("EMPTYSTRING":Str)=some .globalImplicit/\(P.2.1.endLine==P.2.2.2.2.2.2.2.2.2.2.2.2.2.2.2.1.line)=true/\(P.2.2.2.1.endLine==P.2.2.2.2.2.2.2.2.1.line)=true:=
 by refine⟨(_,_,_,_,_,_,_,_,_,_,_,_,_,_,_,_,_,_),rfl,?_,?_,?_,?_,?_,?_,?_⟩<;>decide +kernel
noncomputable def b4:Pos×Pos×Pos×Pos×Pos×Pos×Pos×Nat×Pos×Pos×Pos×Pos×Nat×Pos×Pos×Pos×Pos×YM:=ZN Ax
theorem MZ:bt (bc 5)=[.Return (some (.Call (.Attribute (.Name "EMPTYSTRING" (b4.1)) "join" (b4.2.1)) [.GeneratorExp (.Call (.Attribute (.Name "EMPTYSTRING" (b4.2.2.1)) "join" (b4.2.2.2.1)) [.Tuple [.Name "fws" (b4.2.2.2.2.1),.Name "part" (b4.2.2.2.2.2.1)] (b4.2.2.2.2.2.2.2.1) (b4.2.2.2.2.2.2.1)] [] (b4.2.2.2.2.2.2.2.2.1))
  [⟨.Tuple [.Name "fws" (b4.2.2.2.2.2.2.2.2.2.1),.Name "part" (b4.2.2.2.2.2.2.2.2.2.2.1)] (b4.2.2.2.2.2.2.2.2.2.2.2.2.1) (b4.2.2.2.2.2.2.2.2.2.2.2.1),.Name "self" (b4.2.2.2.2.2.2.2.2.2.2.2.2.2.1),[],0⟩] (b4.2.2.2.2.2.2.2.2.2.2.2.2.2.2.2.2.2) (b4.2.2.2.2.2.2.2.2.2.2.2.2.2.2.1)] [] (b4.2.2.2.2.2.2.2.2.2.2.2.2.2.2.2.1))) (b4.2.2.2.2.2.2.2.2.2.2.2.2.2.2.2.2.1)]/\
  m4 (b4.2.2.2.2.2.2.2.2.2.2.2.2.2.2.2.2.2)=true/\b4.2.2.2.2.2.2.2.2.2.2.2.2.2.2.2.2.2.names.lookup (".0":Str)=some .local/\b4.2.2.2.2.2.2.2.2.2.2.2.2.2.2.2.2.2.names.lookup ("fws":Str)=some .local/\b4.2.2.2.2.2.2.2.2.2.2.2.2.2.2.2.2.2.names.lookup ("part":Str)=some .local/\b4.2.2.2.2.2.2.2.2.2.2.2.2.2.2.2.2.2.names.lookup ("EMPTYSTRING":Str)=some .globalImplicit/\(b4.2.1.endLine==b4.2.2.2.2.2.2.2.2.2.2.2.2.2.2.2.1.line)=true/\(b4.2.2.2.1.endLine==b4.2.2.2.2.2.2.2.2.1.line)=true:=Y9 Ax
section
variable{x C:Addr}{ox:Obj}{od:Option Obj}{name:Str}{expr:Bool}{Q:W2->Xd->Prop}
theorem M0:(Value.builtin "list.__getattribute__" == Value.builtin "object.__getattribute__")=false:=by decide +kernel
theorem M1:ZA "list.__getattribute__"=some .slot:=by decide +kernel
theorem M2:splitId "list.__getattribute__"=some ("list","__getattribute__"):=by decide +kernel
theorem M3{v:W2}(X:K.In s.heap)(I:InstAt s.heap x ox C od)(L:fO (Xe prog w) s.heap x C)(hga:YS K (.ref C) "__getattribute__"=some (some (.builtin "list.__getattribute__")))(hk:YS K (.ref C) "__getattr__"=some none)
  (hf:findObj K C od name=some (.value v))(hh:handedIn v=true)(h:Q v {s with toks:=s.toks+1}) :
  Xf (Xe prog w) A (getAttr (.ref x) name expr) Q E s:=by
 obtain⟨hp,g,d,tk,os⟩:=s;have L1:=λ{M:Model}=>Zw (M:=M) X hga;have L2:=λ{M:Model}=>Zw (M:=M) X hk;have L3:=looks_find (M:=Xe prog w) X I hf;skip;refine El (wpAny_mkText (XQ (El (I.type.at (El (L1.at ?_))))));dsimp only;rw[M0,Bool.and_false,if_neg Y1];dsimp only[getAttrByItsOwn,hookBefore];refine aa (show onTheHeap (.ref C)=true from rfl) (aa (if_pos rfl) (El (L2.at ?_)));refine El (wpAny_attempt (XQ ?_));dsimp only[callGetattribute];rw[show onTheHeap (.builtin "list.__getattribute__")=false from rfl,Bool.and_false,if_neg Y1];dsimp only[boundAndCalled];rw[PySem.F.slot_list_getattribute.bind];refine El (Ev ?_);show Xf _ _ (call (.builtin "list.__getattribute__") [.ref x,.str name tk]) _ _ ⟨hp,g,d,tk+1,os⟩;refine mX (s:=⟨hp,g,d,tk+1,os⟩) L (.inl M1) M2 (PySem.F.args_list_getattribute_2 _ _) PySem.F.slot_list_getattribute.plain am_entry_list_getattribute λA'=>El (Ev (El (Ev (El (I.type.at (El (L3.at ?_)))))));refine Ev (ah _ rfl ?_);dsimp only;exact aa (handedOut_of hh) (Ev h)
end
section
variable{b dx:Addr}{vs:List W2}{z:Int}{l:List AV}
theorem Ay{f:Str}{p1 p:Pos}{e:Expr}{id:String}{mb:Str->Option W2}{Q:W2->Xd->Prop}(hk:env.scope.kind=.function)(hf:env.kindOf f=some .globalImplicit)(hg:s.heap.Ns env.globals mg)(hm:mg f=none)
  (hb:s.heap.Ns env.builtins mb)(hv:mb f=some (.builtin id))(hs:YD [e] env=[(false,eval e env)])(hd:(f==("__debug__":Str))=false)
  (h:Xf (Xe prog w) A (eval e env) (λv s'=>Xf (Xe prog w) A (call (.builtin id) [v]) Q E s') E s) :
  Xf (Xe prog w) A (eval (.Call (.Name f p1) [e] [] p) env) Q E s:=
 Call_Name1 (Xx hk hf (Zc hg hm hb hv (XW rfl (YI (XK (KE h (λv s' q=>YC q) λ_ _ z=>z))))) hd) hs
theorem lY{X:Str}{pos:Pos}{mm:Str->Option W2}{v:W2}{Q:W2->Xd->Prop}(hk:env.scope.kind=.function)(hl:env.kindOf X=some .local)(hn:s.heap.Ns env.locals mm)(hv:mm X=some v)(hd:(X==("__debug__":Str))=false)(q:Q v s) :
  Xf (Xe prog w) A (eval (.Name X pos) env) Q E s:=wpAny_Name (ZE hk hl hn hv q) hd
end
noncomputable def iA(K:Frag)(a cd:Addr):Prop:=∃o fd,K.lookup a=some o/\o.data=.func fd/\fd.code=.ref cd
noncomputable def hG(ps:List (List Nat×List Nat))(i:Nat):Int:=match ps[i]? with
 | some p=>(p.1.length:Int)+p.2.length
 | none=>0
theorem uY{v:AV}{a b:List Nat}(h:sM v=some (a,b)):v=.tup [.str a,.str b]:=
 ab h λl hl h=>ab h λq hq h=>ab h λx hx h=>ab h λy hy h=>ck h (by (refine aa (xE hl) ?_;refine aa (jV hq) ?_;refine aa (iR hx) ?_;refine aa (iR hy) ?_;rfl))
theorem M4:∀{l:List AV}{k:Nat},iN l=some k->∃ps:List (List Nat×List Nat),l=ps.map (λp=>AV.tup [.str p.1,.str p.2])/\(k:Int)=preSum (hG ps) ps.length:=by
 have shift:∀(p:List Nat×List Nat)(ps:List (List Nat×List Nat))(i:Nat),preSum (hG (p::ps)) (i+1)=((p.1.length:Int)+p.2.length)+preSum (hG ps) i:=λp ps=>by
  intro i;induction i with
  | zero=>show(0:Int)+((p.1.length:Int)+p.2.length)=_+0;exact DU
  | succ i ih=>
   show preSum (hG (p::ps)) (i+1)+hG (p::ps) (i+1)=_+(preSum (hG ps) i+hG ps i);exact aa (ih) (aa (show hG (p::ps) (i+1)=hG ps i from rfl) DV)
 intro l;induction l with
 | nil=>intro k h;cases h;exact(ah ([]) rfl rfl)
 | cons v l ih=>
  exact λh=>bT h λa b hp h=>ab h λr hr h=>aL h (af (ih hr) λps e e2=>(ah ((a,b)::ps) (by rw[uY hp,e];rfl) (by
   rw[W5,shift,<-e2];simp only[Int.natCast_add])))
section
variable{b dx:Addr}{vs:List W2}{z:Int}{l:List AV}
theorem M5{ps:List (List Nat×List Nat)}{i:Nat}{va vb:W2}{m2:Str->Option W2}{p:List Nat×List Nat}{p2 p3 p4 p5 p6 p7 p8:Pos}{sc:YM}
  (hsc:m4 sc=true)(h1:sc.names.lookup ("fws":Str)=some .local)(h2:sc.names.lookup ("part":Str)=some .local)(h3:sc.names.lookup ("len":Str)=some .globalImplicit)(hm:mg "len"=none)
  (hp:ps[i]?=some p)(la:p.1.length<=aD)(lb:p.2.length<=aD)(ea:∃ta,va=.str ⟨⟨p.1⟩⟩ ta)(eb:∃tb,vb=.str ⟨⟨p.2⟩⟩ tb)(e1:env.scope=sc)(e2:env.globals=Xj)(e3:env.builtins=Yi)
  (hns:s.heap.Ns env.locals m2)(ma:m2 "fws"=some va)(mbb:m2 "part"=some vb)(hg:s.heap.Ns Xj mg)(hb:∃mb,s.heap.Ns Yi mb/\∀x:Str,x≠"__name__"->mb x=Zx x) :
  Xf (Xe prog w) A (eval (.BinOp (.Call (.Name "len" p2) [.Name "fws" p3] [] p4) .Add (.Call (.Name "len" p5) [.Name "part" p6] [] p7) p8) env) (λy s3=>(∃t,y=.int (hG ps i) t)/\Keeps s s3) E s:=by
 have hm':aD=4096:=rfl;have hk:env.scope.kind=.function:=by
  exact aa (e1) (lU (W8.mp hsc).2)
 refine al ea λta zr1=>?_;subst zr1;refine al eb λtb zr1=>?_;subst zr1;refine af hb λmb nb hmb=>?_;have kl:env.kindOf "len"=some .globalImplicit:=by unfold Z1;(refine aa e1 ?_);exact h3
 have k1:env.kindOf "fws"=some .local:=by unfold Z1;(refine aa e1 ?_);exact h1
 have k2:env.kindOf "part"=some .local:=by unfold Z1;(refine aa e1 ?_);exact h2
 have hv:mb "len"=some (.builtin "len"):=by (refine aa (hmb _ (by decide)) ?_);decide +kernel
 have el:hG ps i=(p.1.length:Int)+p.2.length:=by unfold hG;(refine aa hp ?_;rfl)
 refine aa el ?_;obtain⟨h,gg,d,t0,os⟩:=s;refine wpAny_BinOp (Ay (mb:=mb) hk kl (by (refine aa e2 ?_);exact hg) hm (by (refine aa e3 ?_);exact nb) hv rfl (by decide +kernel) (lY hk k1 hns ma (by decide +kernel) (len_str (by show ¬((p.1.length:Int)≥_);exact wq la hm') ?_)));refine Ay (mb:=mb) hk kl (by (refine aa e2 ?_);exact hg) hm (by (refine aa e3 ?_);exact nb) hv rfl (by decide +kernel) (lY hk k2 hns mbb (by decide +kernel) (len_str (by show ¬((p.2.length:Int)≥_);exact wq lb hm') ?_));exact wpAny_add_int ⟨⟨_,rfl⟩,(cx h _ rfl (λ_ _ e=>e))⟩
theorem Az(i:Nat)(hi:i=4\/i=5)(fd:Yz)(h:fd.params=aU (bc i))(hd:fd.defaults=.none)(u:W2):bindArgs fd ⟨[u],[]⟩=pure (((aU (bc i)).args.map (·.arg)).zip [u]):=by
 obtain⟨n,q,p,b,sc,g,cl,df,kd,dc,pm,an,cd,ct,bi⟩:=fd;dsimp only at h hd;rcases hi with rfl | rfl<;>(subst h hd;rfl')
theorem M6(F:eU (Kn K)){od:Obj}{v:W2}(hlk:lookIn d8 od=some (some v)):findObj (Kn K) aN (some od) "_initial_size"=some (.value v):=by
 refine im F.cls λcd' hcd' zz hhd zz=>?_;have hsz:YS (Kn K) (.ref aN) "_initial_size"=some none:=F.size;have hl:lookIn "_initial_size" od=some (some v):=hlk;unfold findObj;rw[hcd',Zt,hsz];dsimp only[Zt];unfold W.ownOf;refine aa (hhd) (aa (if_pos rfl) ?_);dsimp only;refine aa (hl) ?_;rfl
theorem M7(F:eU (Kn K))(B:aC K s.heap)(g:s.heap.get? b=some (ew dx vs n))(i:eS s.heap dx z){X:Str}{p q:Pos}{Q:W2->Xd->Prop}
  (he:Xf (Xe prog w) A (eval (.Name X p) env) (λv s'=>v=.ref b/\s'=s) E s)(h:∀t,Q (.int z t) {s with toks:=s.toks+1}) :
  Xf (Xe prog w) A (eval (.Attribute (.Name X p) "_initial_size" q) env) Q E s:=by
 rw[arm_eval_Attribute];refine El (KE he (λv s' e=>?_) λ_ _ e=>e);refine aw e λzr0 zr1=>aa zr0 (aa zr1 (fc (iY g i) λod ev te I zr4 hsh hlk=>?_));subst zr4;refine El (Yq (El (XQ (M3 B.kn I (jD F B I) F.ga F.noga (M6 F hlk) rfl ?_))));exact El (Ev (Ev (h _)))
theorem M8(C:gq K mg)(F:eU (Kn K))(P:dD prog (Kn K) 85 (bc 4) [] cA)(H:iA (Kn K) 85 84)(hlen:mg "len"=none)(hsum:mg "sum"=none)(B:aC K s.heap)(hc:bD c s.heap b ⟨some z,l⟩){k:Nat}(hk:iN l=some k)(hz:0<=z/\z<=4)(R:A.depth+2<YH)(hh:A.handled=none) :
  Xf (Xe prog w) A (call (.ref 85) [.ref b]) (λv s'=>ae aG s s'/\aC K s'.heap/\∃t,v=.int (z + .ofNat k) t) nr s:=by
 refine ji hc.acc λhl vs n dx g rr i lo nf=>af (M4 hk) λps zr1 ek=>?_;clear hc hk hl;subst zr1;refine mY P B.kn B.lim (by exact sq R) (by rfl') (by rfl') (by rfl') (by decide +kernel) (by decide +kernel) (λfd e1 e2=>.of_eq (Az 4 (.inl rfl) fd e1 e2 _)) (λfd oF cd oc fs t file tf e1 e2 e3 e4 e5 e6 e7 e8 e9 e10 e11 e12 e13 h₀ hns hk₀=>?_);refine jM MY λhbody hsc h0 hx1 hx2 hx3=>aa hbody ?_;have hcd:fd.code=.ref 84:=by
  refine bb H λo fd' x1 x2 x3=>?_;have:=B.kn _ _ x1;rw[e1]at this;clear e1 x1;cases this;rw[e2]at x2;cases x2;exact x3
 have hs4:fd.scope.kind=.function:=by (refine aa e4 ?_);rfl'
 have B0:=B.keep0 hk₀;have g0:=hk₀ _ _ g;have i0:=i.keep λo e=>hk₀ dx o e;refine fc (iY g0 i0) λod ev te I0 zr4 hsh hlk=>aa zr4 ?_;have L0:=jD (M:=Xe prog w) F B0 I0;refine af B0.bns λmb nb hmb=>?_;have rr0:=rr.keep (b6.of0 hk₀);have hA:=W8.mp hsc;have hB:=W8.mp hA.1;have hC:=W8.mp hB.1;have f1:=hC.1;have f2:=hC.2;have f3:=(ZK _).mp hB.2;have f4':dO.2.2.2.2.2.2.2.2.2.2.2.2.2.2.2.2.2.2.kind=.function:=lU hA.2;clear hA hB hC;have hdep:(A.deeper (YL fd s.heap.objs.size 85)).depth<YH:=by show A.depth+1<_;exact sr R
 generalize hs1:({s with heap:=h₀,toks:=s.toks+(((aU (bc 4)).args.map (·.arg)).zip [Value.ref b]).length}:Xd)=s1;have eh:s1.heap=h₀:=by rw[<-hs1]
 have X01:ae X0 s s1:=by rw[<-hs1];exact ae.kept hk₀ rfl id
 rw[<-eh]at B0 g0 i0 I0 L0 nb rr0 hns;refine YF (ks_wpAt_Return_some (Y6 (Call_Name2 (Xx hs4 (by unfold Z1;rw[show(YL fd s.heap.objs.size 85).scope=aF (bc 4) from e4];decide +kernel)
  (Zc (mg:=mg) (mb:=mb) (v:=.builtin "sum") (by rw[show(YL fd s.heap.objs.size 85).globals=Xj from e6];exact C.glob _ B0) hsum (by rw[show(YL fd s.heap.objs.size 85).builtins=Yi from e7];exact nb) (by rw[hmb _ (by decide)];exact yL) ?_) (by decide +kernel)))))
 refine XW rfl (YI (XK ?_));refine Au C F hdep hh (q:=(84,80)) ⟨by simp[cz],by decide⟩ (by rw[show(YL fd s.heap.objs.size 85).code=fd.code from rfl,hcd]) e6 f1 f2 f3 h0 hx1 hx2 (by decide) f4' B0 L0 g0 rr0
  (lY hs4 (by unfold Z1;rw[show(YL fd s.heap.objs.size 85).scope=aF (bc 4) from e4];decide +kernel) hns rfl (by decide +kernel) ⟨rfl,rfl⟩) (λx=>rfl)
  (FF:=λi y=>∃t,y=.int (hG ps i) t) (λA' E' i va vb s2 m2 cenv p hA hp la lb ea eb ee1 ee2 ee3 hns2 ma mbb hg2 hb2=>M5 hsc hx1 hx2 hx3 hlen hp la lb ea eb ee1 ee2 ee3 hns2 ma mbb hg2 hb2) ?_
 intro a fp wr gi St s5 W hst hT hfp hafp hwr hsz5 hafter hkeep;have g5:=hkeep _ _ g0 (uX B0 g0 rfl);have i5:eS s5.heap dx z:=i0.keep λo e=>hkeep _ _ e (λt=>by have:=dp t;exact DW lo this);have B5:=(hafter s5 [] (Moved.refl W.grefl) (λb hb=>nomatch hb)).2;have hns5:s5.heap.Ns s.heap.objs.size _:=hns.at' λo e=>hkeep _ _ e (λt=>by have:=dp t;have:=B.size;omega);refine XK (M7 F B5 g5 i5 (lY hs4 (by unfold Z1;rw[show(YL fd s.heap.objs.size 85).scope=aF (bc 4) from e4];decide +kernel) hns5 rfl (by decide +kernel) ⟨rfl,rfl⟩) λt=>YC ?_);refine MX (WalksS.in4_1 W) (W.frame 0 s5 _ _ hst (XH _) λb _ o e=>e) hfp (λi v hv=>hv) hz λs' t' hm=>aw (hafter s' wr ⟨hm.heap,hm.gens,hm.drawn,hm.os,Nat.le_of_succ_le hm.toks⟩ hwr) λX6 B6=>(fU ((X01.weaken λ_ h=>h.elim).trans X6) B6 t' ?_);rw[show Int.ofNat k=(k:Int) from rfl,ek]
end
section
variable{b dx:Addr}{vs:List W2}{z:Int}{l:List AV}
theorem AA{h:Heap}:∀{l:List AV}{us:List W2}{k:Nat},aq c h l us->iN l=some k->k<=l.length * 8192
 | [],_,k,_,e=>by cases e;exact Y4 _
 | v::l,us,k,hr,e=>by
  refine bb hr λu r zr2 hv hr2=>?_;subst zr2;refine bT e λa b hp e=>ab e λk' hk' e=>aL e ?_;rw[uY hp]at hv;refine b5 hv λzz zz zz zz zz zz zz hr3=>bb hr3 λzz zz zz zn3 hr4=>aw zn3 λha zz=>bb hr4 λzz zz zz zn3 zz=>aw zn3 λhb zz=>?_;have:=AA hr2 hk';have hm:aD=4096:=rfl;dsimp only[W5,Nat.add_mul];lia
theorem M9{f:Addr}{name:Str}{Q:Option W2->Xd->Prop}(X:(Kn K).In s.heap)(L:fO (Xe prog w) s.heap b aN)(hf:YS (Kn K) (.ref aN) name=some (some (.ref f)))(ht:typeIn (Kn K) (.ref f)=some (.type "function"))
  (h:Xf (Xe prog w) A (call (.ref f) [.ref b]) (λv=>Q (some v)) E s):Xf (Xe prog w) A (callSpecial? (.ref b) name) Q E s:=by
 refine El (El (L.typ.here ((Zw X hf).here (XQ (El ?_)))));refine El ((looks_typeIn X ht).here ?_);rw[if_pos (by decide)];exact Ev (El (KE h (λ_ _ z=>Ev z) λ_ _ z=>z))
theorem Na(C:gq K mg)(F:eU (Kn K))(P:dD prog (Kn K) 85 (bc 4) [] cA)(H:iA (Kn K) 85 84)(hlen:mg "len"=none)(hsum:mg "sum"=none)(B:aC K s.heap)(hc:bD c s.heap b ⟨some z,l⟩){k:Nat}(hk:iN l=some k)(hz:0<=z/\z<=4)(R:A.depth+2<YH)(hh:A.handled=none) :
  Xf (Xe prog w) A (call (.builtin "len") [.ref b]) (λv s'=>ae aG s s'/\aC K s'.heap/\ao c s'.heap (.int (z + .ofNat k)) v) nr s:=by
 refine ji (id hc.acc) λhl vs n dx g rr i lo nf=>fc (iY g i) λod ev te I0 zr4 hsh hlk=>?_;subst zr4;have L0:=jD (M:=Xe prog w) F B I0;have hkb:(k:Int)<=8192 * 4097:=by
  have h1:=AA rr hk;have h2:l.length * 8192<=4097 * 8192:=Nat.mul_le_mul_right _ hl;exact DX h1 h2
 refine call_function_entry kind_len plain_len entry_len (args_len1 _) ?_;unfold Xp.«len»;refine El (Ev (El (M9 B.kn L0 F.len (F.fns _ (by simp)) (KE (M8 C F P H hlen hsum B hc hk hz R hh) (λv s' zq0=>il zq0 λX B' t e=>?_) no))));subst e;refine El (XQ (Ev (El (wpAny_letGo ?_))));have e0:¬(z + .ofNat k<(0:Int)):=by have:Int.ofNat k=(k:Int):=rfl;exact DY hz this
 have e1:¬(z + .ofNat k≥(2:Int) ^ 63):=by have:Int.ofNat k=(k:Int):=rfl;exact DZ hz hkb this
 rw[if_neg e0,if_neg e1];exact El (wpAny_mkInt (Ev ⟨_,rfl,X.trans (ae.tk aG s' _),B',_,rfl⟩))
end
noncomputable def oy(ps:List (List Nat×List Nat))(i:Nat):List Nat:=match ps[i]? with
 | some p=>p.1++p.2
 | none=>[]
theorem AB:∀{l:List AV}{x:List Nat},jp l=some x->∃ps:List (List Nat×List Nat),l=ps.map (λp=>AV.tup [.str p.1,.str p.2])/\x=bF [] (ps.map λp=>p.1++p.2)
 | [],x,h=>by cases h;exact(ah ([]) rfl rfl)
 | v::l,x,h=>by
  refine bT h λa b hp h=>ab h λr hr h=>aL h ?_;refine af (AB hr) λps e1 e=>(ah ((a,b)::ps) (by (refine aa (uY hp) ?_;refine aa e1 ?_);rfl) ?_);clear hr h e1;subst e;clear h;cases ps with
  | nil=>simp[bF]
  | cons p ps=>rfl
section
variable{b dx:Addr}{vs:List W2}{z:Int}{l:List AV}
theorem Nb{ps:List (List Nat×List Nat)}{i:Nat}{va vb:W2}{m2:Str->Option W2}{p:List Nat×List Nat}{p3 p4 p5 p6 p7 p8:Pos}{kt2:Nat}{sc:YM}
  (hsc:m4 sc=true)(h1:sc.names.lookup ("fws":Str)=some .local)(h2:sc.names.lookup ("part":Str)=some .local)(h3:sc.names.lookup ("EMPTYSTRING":Str)=some .globalImplicit)(hm:∃t,mg "EMPTYSTRING"=some (.str ⟨⟨[]⟩⟩ t))(hline:(p4.endLine==p8.line)=true)
  (hp:ps[i]?=some p)(la:p.1.length<=aD)(lb:p.2.length<=aD)(ea:∃ta,va=.str ⟨⟨p.1⟩⟩ ta)(eb:∃tb,vb=.str ⟨⟨p.2⟩⟩ tb)(e1:env.scope=sc)(e2:env.globals=Xj)
  (hns:s.heap.Ns env.locals m2)(ma:m2 "fws"=some va)(mbb:m2 "part"=some vb)(hg:s.heap.Ns Xj mg) :
  Xf (Xe prog w) A (eval (.Call (.Attribute (.Name "EMPTYSTRING" p3) "join" p4) [.Tuple [.Name "fws" p5,.Name "part" p6] kt2 p7] [] p8) env) (λy s3=>(∃t,y=.str ⟨⟨oy ps i⟩⟩ t)/\Keeps s s3) E s:=by
 have hm':aD=4096:=rfl;have hk:env.scope.kind=.function:=by
  exact aa (e1) (lU (W8.mp hsc).2)
 refine al ea λta zr1=>?_;subst zr1;refine al eb λtb zr1=>?_;subst zr1;refine al hm λte hE=>?_;have kl:env.kindOf "EMPTYSTRING"=some .globalImplicit:=by unfold Z1;rw[e1];exact h3
 have k1:env.kindOf "fws"=some .local:=by unfold Z1;(refine aa e1 ?_);exact h1
 have k2:env.kindOf "part"=some .local:=by unfold Z1;(refine aa e1 ?_);exact h2
 have el:oy ps i=p.1++p.2:=by unfold oy;(refine aa hp ?_;rfl)
 refine aa el ?_;have few:((aae p8 (YD [.Tuple [.Name "fws" p5,.Name "part" p6] kt2 p7] env)).all (λx=>!x.1)&&(backToKw p8 (keywordEach [] env)).all (λx=>x.1.isSome)
   &&decide ([Expr.Tuple [.Name "fws" p5,.Name "part" p6] kt2 p7].length+([]:List Keyword).length+(if ([]:List Keyword).isEmpty then 0 else 1)<30))=true:=gK rfl rfl
 refine Yd (g9 rfl _) few hline (Xx hk kl (YX (by (refine aa e2 ?_);exact hg) hE ?_) (by decide +kernel));refine(gW ("str") _ PySem.F.plainAttrs_str PySem.F.slot_str_join PySem.F.type_str_join (Zh _ _ _) (λ_ e=>nomatch e) ?_);obtain⟨h,gg,d,t0,os⟩:=s;have tup:∀A' E,Xf (Xe prog w) A' (eval (.Tuple [.Name "fws" p5,.Name "part" p6] kt2 p7) env) (λv s'=>v=.ref h.objs.size/\s'=⟨h.push {cls:=.type "tuple",data:=.seq #[.str ⟨⟨p.1⟩⟩ ta,.str ⟨⟨p.2⟩⟩ tb]},gg,d,t0,os⟩) E ⟨h,gg,d,t0,os⟩:=λA' E=>by
  refine Tuple_ (XK (lY hk k1 hns ma (by decide +kernel) (XK (lY hk k2 hns mbb (by decide +kernel) (YC ?_)))));exact wpAny_newTuple ⟨rfl,rfl⟩
 refine XW rfl (YI (XK (KE (tup _ _) (λv s' q=>YC ?_) λ_ _ z=>z)));refine aw q λzr0 zr1=>?_;clear hns hg tup q;refine aa zr0 (aa zr1 ?_);have gT:(h.push {cls:=.type "tuple",data:=.seq #[.str ⟨⟨p.1⟩⟩ ta,.str ⟨⟨p.2⟩⟩ tb]}).get? h.objs.size=some {cls:=.type "tuple",data:=.seq #[.str ⟨⟨p.1⟩⟩ ta,.str ⟨⟨p.2⟩⟩ tb]}:=Xl _ rfl;refine join_tuple (s:=⟨h.push {cls:=.type "tuple",data:=.seq #[.str ⟨⟨p.1⟩⟩ ta,.str ⟨⟨p.2⟩⟩ tb]},gg,d,t0,os⟩) (items:=#[.str ⟨⟨p.1⟩⟩ ta,.str ⟨⟨p.2⟩⟩ tb]) (ys:=[⟨⟨p.1⟩⟩,⟨⟨p.2⟩⟩]) ?_ (.cons _ _ (.cons _ _ .nil)) ?_ λt' k=>⟨⟨t',?_⟩,?_⟩
 ·exact(dl _ gT rfl _ rfl)
 ·show p.1.length+(p.2.length+0)+2 * 0<=16777216;exact D0 la lb hm'
 ·exact aa (eq_of_beq (join_plain_closes _ _)) (congrArg (λq=>Value.str q t') (mR [] [p.1,p.2]))
 ·exact(cx _ _ rfl (λy o e=>Xg _ e))
theorem Nc(C:gq K mg)(F:eU (Kn K))(P:dD prog (Kn K) 92 (bc 5) [] cA)(H:iA (Kn K) 92 91)(hE:∃t,mg "EMPTYSTRING"=some (.str ⟨⟨[]⟩⟩ t))(B:aC K s.heap)(hc:bD c s.heap b ⟨some z,l⟩){x:List Nat}(hk:jp l=some x)(hx:x.length<=aD)(R:A.depth+2<YH)(hh:A.handled=none) :
  Xf (Xe prog w) A (call (.ref 92) [.ref b]) (λv s'=>ae aG s s'/\aC K s'.heap/\∃t,v=.str ⟨⟨x⟩⟩ t) nr s:=by
 refine ji hc.acc λhl vs n dx g rr i lo nf=>af (AB hk) λps zr1 zr2=>?_;clear hc hk;subst zr1;subst zr2;have hm':aD=4096:=rfl;refine mY P B.kn B.lim (by exact sq R) (by rfl') (by rfl') (by rfl') (by decide +kernel) (by decide +kernel) (λfd e1 e2=>.of_eq (Az 5 (.inr rfl) fd e1 e2 _)) (λfd oF cd oc fs t file tf e1 e2 e3 e4 e5 e6 e7 e8 e9 e10 e11 e12 e13 h₀ hns hk₀=>?_);refine DD MZ λhbody hsc h0 hx1 hx2 hx3 hl1 hl2=>aa hbody ?_;have hcd:fd.code=.ref 91:=by
  refine bb H λo fd' x1 x2 x3=>?_;have:=B.kn _ _ x1;rw[e1]at this;clear e1 x1;cases this;rw[e2]at x2;clear e2 e3 e4 e5 e6 e7 e8 e13;cases x2;exact x3
 have hs4:fd.scope.kind=.function:=by (refine aa e4 ?_);rfl'
 have B0:=B.keep0 hk₀;have g0:=hk₀ _ _ g;have i0:=i.keep λo e=>hk₀ dx o e;refine fc (iY g0 i0) λod ev te I0 zr4 hsh hlk=>aa zr4 ?_;have L0:=jD (M:=Xe prog w) F B0 I0;have rr0:=rr.keep (b6.of0 hk₀);have hA:=W8.mp hsc;have hB:=W8.mp hA.1;have hC:=W8.mp hB.1;have f1:=hC.1;have f2:=hC.2;have f3:=(ZK _).mp hB.2;have f4':b4.2.2.2.2.2.2.2.2.2.2.2.2.2.2.2.2.2.kind=.function:=lU hA.2;clear hA hB hC;have hdep:(A.deeper (YL fd s.heap.objs.size 92)).depth<YH:=by show A.depth+1<_;exact sr R
 generalize hs1:({s with heap:=h₀,toks:=s.toks+(((aU (bc 5)).args.map (·.arg)).zip [Value.ref b]).length}:Xd)=s1;have eh:s1.heap=h₀:=by rw[<-hs1]
 have X01:ae X0 s s1:=by rw[<-hs1];exact ae.kept hk₀ rfl id
 rw[<-eh]at B0 g0 i0 I0 L0 rr0 hns;refine al (id hE) λtE hE'=>?_;have few:=gK (env:=YL fd s.heap.objs.size 92) (pos:=b4.2.2.2.2.2.2.2.2.2.2.2.2.2.2.2.1) (args:=[.GeneratorExp (.Call (.Attribute (.Name "EMPTYSTRING" b4.2.2.1) "join" b4.2.2.2.1) [.Tuple [.Name "fws" b4.2.2.2.2.1,.Name "part" b4.2.2.2.2.2.1] b4.2.2.2.2.2.2.2.1 b4.2.2.2.2.2.2.1] [] b4.2.2.2.2.2.2.2.2.1)
  [⟨.Tuple [.Name "fws" b4.2.2.2.2.2.2.2.2.2.1,.Name "part" b4.2.2.2.2.2.2.2.2.2.2.1] b4.2.2.2.2.2.2.2.2.2.2.2.2.1 b4.2.2.2.2.2.2.2.2.2.2.2.1,.Name "self" b4.2.2.2.2.2.2.2.2.2.2.2.2.2.1,[],0⟩] b4.2.2.2.2.2.2.2.2.2.2.2.2.2.2.2.2.2 b4.2.2.2.2.2.2.2.2.2.2.2.2.2.2.1]) rfl rfl
 refine YF (ks_wpAt_Return_some (Y6 (Yd (g9 rfl _) few hl1 (Xx hs4 (by unfold Z1;rw[show(YL fd s.heap.objs.size 92).scope=aF (bc 5) from e4];decide +kernel)
  (YX (mg:=mg) (by rw[show(YL fd s.heap.objs.size 92).globals=Xj from e6];exact C.glob _ B0) hE' ?_) (by decide +kernel)))))
 refine(gW ("str") _ PySem.F.plainAttrs_str PySem.F.slot_str_join PySem.F.type_str_join (Zh _ _ _) (λ_ e=>nomatch e) ?_);refine XW rfl (YI (XK ?_));refine Au C F hdep hh (q:=(91,87)) ⟨by simp[cz],by decide⟩ (by rw[show(YL fd s.heap.objs.size 92).code=fd.code from rfl,hcd]) e6 f1 f2 f3 h0 hx1 hx2 (by decide) f4' B0 L0 g0 rr0
  (lY hs4 (by unfold Z1;rw[show(YL fd s.heap.objs.size 92).scope=aF (bc 5) from e4];decide +kernel) hns rfl (by decide +kernel) ⟨rfl,rfl⟩) (λx=>rfl)
  (FF:=λi y=>∃t,y=.str ⟨⟨oy ps i⟩⟩ t) (λA' E' i va vb s2 m2 cenv p hA hp la lb ea eb ee1 ee2 ee3 hns2 ma mbb hg2 hb2=>Nb hsc hx1 hx2 hx3 hE hl2 hp la lb ea eb ee1 ee2 hns2 ma mbb hg2) ?_
 intro a fp wr gi St s5 W hst hT hfp hafp hwr hsz5 hafter hkeep;have e:=qq [] (ps.map λp=>p.1++p.2);have hn:ps.length<=4097:=by rw[W7]at hl;exact D1 hl hm'
 refine YC (SC.joinGen (WalksS.in4_2 W) (λi s st=>hT i s st) hst hfp hafp (λi v zq0=>al zq0 λt e=>(dZ _ _ e)) (λs' lt hm hacc=>?_) (by rw[Ze];exact D2 hn));have hlt2:lt.map (·.1)=(ps.map λp=>p.1++p.2).map λy=>(⟨⟨y⟩⟩:Str):=by
  have hsz2:lt.length=ps.length:=by
   have:=hacc.1;simpa [strValues] using this
  refine List.ext_getElem (by rw[W7,W7,W7,hsz2]) λj h1 h2=>?_;rw[W7]at h1;refine al (hacc.2 j (Value.str lt[j].1 lt[j].2) (by simp[strValues,h1])) λt e3=>?_;rw[ZM,ZM,ZM,(Value.str.inj e3).1];unfold oy;rw[Xo (by exact wp hsz2 h1)]
 refine aa (hlt2) ?_;refine⟨joinOk_of (by rw[W7];show _+_ * ([]:List Nat).length<=_;simp only[Xq]at e ⊢;exact D3 hx hm' e),λt' k=>?_⟩;refine aw (hafter s' wr hm hwr) λX6 B6=>(fU (((X01.weaken λ_ h=>h.elim).trans X6).trans (ae.tk aG s' k)) B6 t' ?_);rw[eq_of_beq (join_plain_closes _ _),mR]
end
section
variable{b dx:Addr}{vs:List W2}{z:Int}{l:List AV}
theorem Nd(C:gq K mg)(F:eU (Kn K))(P:dD prog (Kn K) 92 (bc 5) [] cA)(H:iA (Kn K) 92 91)(hE:∃t,mg "EMPTYSTRING"=some (.str ⟨⟨[]⟩⟩ t))(B:aC K s.heap)(hc:bD c s.heap b ⟨some z,l⟩){x:List Nat}(hk:jp l=some x)(hx:x.length<=aD)(R:az m A) :
  Xf (Xe prog w) A (call (.type "str") [.ref b]) (λv s'=>ae aG s s'/\aC K s'.heap/\ao c s'.heap (.str x) v) nr s:=by
 refine ji (id hc.acc) λhl vs n dx g rr i lo nf=>fc (iY g i) λod ev te I0 zr4 hsh hlk=>?_;clear i hlk;subst zr4;refine kso_call (by show A.units+1+1<9900;have:=R.2.2;exact DL this) B.kn I0 F.str (by unfold isFn;(refine aa (F.fns 92 (by simp)) ?_);rfl) (KE (Nc C F P H hE B hc hk hx (by show A.depth+2<1000;have:=R.2.1;exact sn this) R.1) (λv s' zq0=>il zq0 λX B' t e=>?_) no);subst e;exact⟨X,B',hx,t,rfl⟩
structure oz(prog:Y3)(K:Frag)(mg:Str->Option W2):Prop where
 cls:eU (Kn K)
 init:dD prog (Kn K) 55 (bc 0) [(("__class__":Str),42)] (fQ (Kn K) 47)
 push:dD prog (Kn K) 62 (bc 1) [] cA
 popFrom:dD prog (Kn K) 70 (bc 2) [] (fQ (Kn K) 63)
 pop:dD prog (Kn K) 78 (bc 3) [(("__class__":Str),42)] cA
 len:dD prog (Kn K) 85 (bc 4) [] cA
 str:dD prog (Kn K) 92 (bc 5) [] cA
 part:dD prog (Kn K) 115 (bc 8) [(("__class__":Str),42)] cA
 lenCode:iA (Kn K) 85 84
 strCode:iA (Kn K) 92 91
 empty:∃t,mg "EMPTYSTRING"=some (.str ⟨⟨[]⟩⟩ t)
 code:gq K mg
 sup:m0 prog K mg
 bi:∀X:Str,nm X=kA\/nm X=mx\/nm X=iO\/nm X=kB->mg X=none
theorem qE{a:Addr}{st:Stmt}{cl:List (Str×Addr)}{d:W2->Prop}(P:dD prog (Kn K) a st cl d):∃o fd,K.lookup a=some o/\o.data=.func fd/\¬aG a:=by
 exact lx P.ex λo fd cd oc vs t file tf zc0=>gV zc0 λe1 e2 e3 zz=>aw (fN e1) λx1 x2=>(bM o fd x1 e3 x2)
theorem qF(D:oz prog K mg){f:Addr}{X:Str}(hf:f=55\/f=62\/f=70\/f=78\/f=85\/f=92\/f=115)(hx:YS (Kn K) (.ref aN) X=some (some (.ref f)))(hs:(d8==X)=false){e:Expr}(B:aC K s.heap)(hc:bD c s.heap b ⟨some z,l⟩)
  (Q:W2×List W2->Xd->Prop)(q:Q (.ref f,[.ref b]) s):Xf (Xe prog w) A (calleeOf true e env (.ref b) X) Q nr s:=by
 refine ji (id hc.acc) λhl vs n dx g rr i lo nf=>fc (iY g i) λod ev te I0 zr4 hsh hlk=>?_;clear hc i hlk;subst zr4;exact uO B.kn I0 D.cls.ga D.cls.noga hx (D.cls.fns f hf) (by decide) (hsh _ hs) q
theorem Nf(D:oz prog K mg)(hm3:3<=m):ix prog w K mg m where
 item:=λB _ _ hc h _=>Mi D.cls B hc h
 len:=λB _ _ hc h h0 h4 _ R=>Na D.code D.cls D.len D.lenCode (D.bi _ (.inl rfl)) (D.bi _ (.inr (.inr (.inl rfl)))) B hc h ⟨h0,h4⟩ (by show _+2<1000;have:=R.2.1;exact sn this) R.1
 str:=λB _ _ hc h hx _ R=>Nd D.code D.cls D.str D.strCode D.empty B hc h hx R
 meth:=by
  intro X z l vs r cl' h;replace h:xt (nm X) z l vs=some (r,cl'):=h;refine cQ h (λhx h=>ab h λq hq h=>ab h λa ha h=>ab h λb' hb h=>aK h λhle h=>ck h ?_) λ_ h=>cQ h (λhx h=>aK h λhv h=>ck h ?_) λ_ h=>cQ h (λhx h=>aK h λhv h=>bT h λv r' hrev h=>ck h ?_) λ_ h=>aK h λhx h=>ab h λv hv h=>ab h λk hk h=>aK h λhle h=>ck h ?_
  ·exact aa (show X="push" from cF (aW.mp hx)) (aa (jV hq) (aa (iR ha) (aa (iR hb) (bb (qE D.push) λo fd x1 x2 x3=>(dS 62 o fd x1 x2 x3 (λB _ _ hc _ Q q=>qF D (by simp) D.cls.push (by decide +kernel) B hc Q q) (λB C hb hc hr tk R=>Mh D.cls D.push B C hb hc (Xn hle) hr tk R))))))
  ·refine aa (show X="part_count" from cF (aW.mp hx)) (aa (jv hv) (bb (qE D.part) λo fd x1 x2 x3=>(dS 115 o fd x1 x2 x3 (λB _ _ hc _ Q q=>qF D (by simp) D.cls.partCount (by decide +kernel) B hc Q q) (λB C hb hc hr tk R=>?_))));clear C hb tk;subst hr;refine KE (Ae D.cls D.part D.sup B hc R.depth) (λv s' zq1=>cq zq1 λX t e=>?_) no;exact⟨X.weaken λ_ h=>h.elim,B.keep0 X.all,hc.keep0 X.all,t,e⟩
  ·have hl:l=r'.reverse++[v]:=by rw[<-List.reverse_reverse l,nW hrev,List.reverse_cons]
   refine aa (show X="pop" from cF (aW.mp hx)) (aa (jv hv) (aa hl (bb (qE D.pop) λo fd x1 x2 x3=>(dS 78 o fd x1 x2 x3 (λB _ _ hc _ Q q=>qF D (by simp) D.cls.pop (by decide +kernel) B hc Q q) (λB C hb hc hr tk R=>?_)))));subst hr;exact Mx D.cls D.pop D.part D.sup B C hb hc tk (by show _+2<1000;have:=R.2.1;exact sn this)
  ·exact aa (show X="pop_from" from cF (aW.mp hx)) (aa (dT hv) (aa (xF hk) (bb (qE D.popFrom) λo fd x1 x2 x3=>(dS 70 o fd x1 x2 x3 (λB _ _ hc _ Q q=>qF D (by simp) D.cls.popFrom (by decide +kernel) B hc Q q) (λB C hb hc hr tk R=>Mn D.cls D.popFrom B C hb hc (Xn hle) hr tk R)))))
theorem Ng(D:oz prog K mg)(hA:mg (⟨⟨kL⟩⟩:Str)=some (.ref aN)):lV prog w K mg m where
 app:=λg _=>Lj g
 acc:=(ah aN hA (λI R _ he=>MC D.cls D.init D.sup I R he))
end
noncomputable def Nh:List Nat:=[40,41,91,93,123,125,63,42,43,45,124,94,36,92,46,38,126,35,32,9,10,13,11,12]
noncomputable def j7(c:Nat):List Nat:=cond (Nh.any (XI c)) [92,c] [c]
noncomputable def T0:bh where
 fn:=λf vs=>gd (ax f pZ) (bo (cu vs) λa=>bo (dJ a) λx=>bo (cu x) λc=>gd (jw.any (XI c)) (some (.str (j7 c))))
 cf:=λ_ _ _=>none
 gc:=λ_=>none
noncomputable def AC(o:bG):Option PV:=un (P:=λt=>o=.ret t) (match o with
 | .ret t=>some ⟨t,rfl⟩
 | _=>none)
noncomputable def bJ(T:bh)(g:Nat)(own:List (List Nat))(fuel:Nat)(st:Stmt)(vs:List AV):Option AV:=
 gd (XI vs.length (aU st).args.length) (bo (pst fuel {tab:=T,sc:=aF st,own:=own,gen:=g} (fg (aU st).args (vs.map .val)) [] (bt st)) λq=>bo (AC q.1) λt=>uM t q.2.2)
noncomputable def hH(T:bh)(g:Nat)(own:List (List Nat))(fuel:Nat)(st:Stmt)(cl:bE)(vs:List AV):Option (AV×bE):=
 gd (XI (vs.length+1) (aU st).args.length&&cl.acc.isSome) (bo (pst fuel {tab:=T,sc:=aF st,own:=own,gen:=g} (fg (aU st).args (.cell 0::vs.map .val)) [cl] (bt st)) λq=>bo (AC q.1) λt=>bo (ir t) λr=>bo q.2.2.head? λcl'=>some (r,cl'))
structure k8 where
 text:List Nat
 bar:Bool
 rngs:List (Nat×Nat)
noncomputable def kinds:List k8:=[
 ⟨[42],false,[]⟩,⟨[42,42],false,[]⟩,
 ⟨[97],false,[(97,97)]⟩,⟨[98],false,[(98,98)]⟩,⟨[46],false,[(46,46)]⟩,⟨[92],false,[(92,92)]⟩,⟨[10],false,[(10,10)]⟩,
 ⟨[63],true,[]⟩,⟨[91,97,98,93],false,[(97,98)]⟩,⟨[91,33,97,93],true,[(97,97)]⟩,⟨[91,93,45,93],false,[(93,93),(45,45)]⟩,
 ⟨[91,45,45,97,93],false,[(45,97)]⟩,⟨[91,98,45,97,93],false,[]⟩,⟨[91,33,98,45,97,93],true,[]⟩,⟨[91,94,98,93],false,[(94,94),(98,98)]⟩,
 ⟨[91,42,63,93],false,[(42,42),(63,63)]⟩,⟨[91,91,93],false,[(91,91)]⟩,⟨[91,33,93,93],true,[(93,93)]⟩,⟨[91,92,97,93],false,[(92,92),(97,97)]⟩,⟨[91,33,45,45,97,93],true,[(45,97)]⟩]
noncomputable def k8.av(k:k8):AV:=.tup [.str k.text,.bool k.bar,.lst (k.rngs.map λq=>.tup [.str [q.1],.str [q.2]])]
noncomputable def fF(st:Stmt):Bool:=decide ((aF st).kind=.function)&&once (aF st).names&&gY (aF st).names&&!(aF st).isCoroutine&&!(aF st).isGenerator&&
 (aU st).args.all (λy=>decide ((aF st).names.lookup y.arg=some .local)||decide ((aF st).names.lookup y.arg=some .cell))&&decide (((aU st).args.map (·.arg)).Nodup)
noncomputable def eO(st:Stmt):Prop:=∀(fd:Yz)(us:List W2),fd.params=aU st->fd.defaults=.none->us.length=(aU st).args.length->bindArgs fd ⟨us,[]⟩=pure (((aU st).args.map (·.arg)).zip us)
theorem qG{st:Stmt}(h:∀(fd:Yz)(us:List W2),us.length=(aU st).args.length->bindArgs {fd with params:=aU st,defaults:=.none} ⟨us,[]⟩=pure (((aU st).args.map (·.arg)).zip us)):eO st:=by
 intro fd us hp hd hl;have e:fd={fd with params:=aU st,defaults:=.none}:=by rw[<-hp,<-hd]
 exact aa (e) (h fd us hl)
theorem Ni{st:Stmt}(hk:(aU st).args.length=0)(h:∀fd:Yz,bindArgs {fd with params:=aU st,defaults:=.none} ⟨[],[]⟩=pure (((aU st).args.map (·.arg)).zip [])):eO st:=
 qG λfd us hl=>by cases XY (hl.trans hk);exact h fd
theorem m5{l:List W2}{k:Nat}(h:l.length=k+1):∃a r,l=a::r/\r.length=k:=by
 cases l with
 | nil=>cases h
 | cons a r=>exact(cx a r rfl (Nat.succ.inj h))
theorem qH{st:Stmt}(hk:(aU st).args.length=1)(h:∀(fd:Yz)(u:W2),bindArgs {fd with params:=aU st,defaults:=.none} ⟨[u],[]⟩=pure (((aU st).args.map (·.arg)).zip [u])):eO st:=
 qG λfd us hl=>cw (m5 (hl.trans hk)) λu r e q=>by rw[e,XY q];exact h fd u
theorem oD{st:Stmt}(hk:(aU st).args.length=2)(h:∀(fd:Yz)(u v:W2),bindArgs {fd with params:=aU st,defaults:=.none} ⟨[u,v],[]⟩=pure (((aU st).args.map (·.arg)).zip [u,v])):eO st:=
 qG λfd us hl=>cw (m5 (hl.trans hk)) λu r e q=>cw (m5 q) λv r' e' q'=>by rw[e,e',XY q'];exact h fd u v
theorem qI{st:Stmt}(hk:(aU st).args.length=3)(h:∀(fd:Yz)(u v x:W2),bindArgs {fd with params:=aU st,defaults:=.none} ⟨[u,v,x],[]⟩=pure (((aU st).args.map (·.arg)).zip [u,v,x])):eO st:=
 qG λfd us hl=>cw (m5 (hl.trans hk)) λu r e q=>cw (m5 q) λv r' e' q'=>cw (m5 q') λx r2 e2 q2=>by rw[e,e',e2,XY q2];exact h fd u v x
noncomputable def dE(K:Frag)(a:Addr)(st:Stmt):Prop:=∃o fd,K.lookup a=some o/\o.data=.func fd/\¬aG a/\j5 K fd (bt st)/\fd.params=aU st/\fd.scope=aF st
theorem hJ{a:Addr}{st:Stmt}(P:dD prog (Kn K) a st [] cA)(h:fF st=true)(hb:eO st):dE K a st:=by
 refine lx P.ex λo fd cd oc vs t file tf zc0=>mr zc0 λe1 e2 e3 e4 e5 e6 zc1=>mr zc1 λe7 e8 e9 e10 e11 e12 zc2=>gV zc2 λe13 e14 e15 e16=>aw (fN e1) λx1 x2=>aw (fN e12) λy1 y2=>?_;simp only[fF,YK,ZK,decide_eq_true_eq]at h;refine aw h λzn0 h7=>aw zn0 λzn0 h6=>?_;obtain⟨⟨⟨⟨h1,h2⟩,h3⟩,h4⟩,h5⟩:=zn0;refine(gW o fd x1 e3 x2 ⟨e4,e7,e8,e9,by (refine aa e6 ?_);exact h1,by (refine aa e6 ?_);exact h2,by (refine aa e6 ?_);exact h3,by (refine aa e6 ?_);exact h4,by (refine aa e6 ?_);exact h5,⟨cd,oc,vs,t,e11,y1,y2,e13,e14⟩,λus hu=>?_,λy hy=>?_,by (refine aa e5 ?_);exact h7⟩ e5 e6)
 ·rw[e5]at hu ⊢;exact hb fd us e5 e10 hu
 ·rw[e5]at hy;refine aa e6 ?_;have:=YP.mp h6 y hy;simp only[Bool.or_eq_true,decide_eq_true_eq]at this;exact this
noncomputable def i8(prog:Y3)(w:aal)(K:Frag)(m:Nat)(a:Addr)(vs:List AV)(r:AV):Prop:=∀(c:aj)(s:Xd)(us:List W2)(A:Zp),aC K s.heap->bW c s.heap->aq c s.heap vs us->1<=s.toks->az m A->
 Xf (Xe prog w) A (call (.ref a) us) (λv s'=>ae aG s s'/\aC K s'.heap/\ao c s'.heap r v) nr s
theorem i8.mono{m':Nat}{a:Addr}{vs:List AV}{r:AV}(h:i8 prog w K m a vs r)(le:m<=m'):i8 prog w K m' a vs r:=λc s us A B C R t r=>h c s us A B C R t (r.mono le)
theorem m6(allP:∀n,fD prog w K T m n){a:Addr}{st:Stmt}(D:dE K a st){n g:Nat}{own:List (List Nat)}{vs:List AV}{r:AV}(hg:g≠0->∃q,GT q/\iA (Kn K) a q.1)(h:bJ T g own n st vs=some r):i8 prog w K (m+g+1) a vs r:=by
 refine iI D λo fd e1 e2 e3 D e4 e5=>?_;intro c s us A B C hr tk R;refine aK h λhlen h=>ab h λq he h=>ab h λu hu ho=>?_;have eu:=bS (P:=λt=>q.1=.ret t) hu;clear hu h;obtain⟨q1,q2,q3⟩:=q;cases (eu:q1=.ret u);have hg':g≠0->∃q,GT q/\fd.code=.ref q.1:=λhg0=>by
  refine wl (hg hg0) λq hq o' fd' y1 y2 y3=>aw (fN y1) λz1 zz=>?_;rw[e1]at z1;clear e1 y1;cases z1;rw[e2]at y2;cases y2;exact(ah q hq y3)
 rw[<-e5,<-e4]at he;exact K7 allP D e1 e2 e3 (n:=n) (own:=own) hg' (by rw[e4];exact XF hlen) he ho c s us A B C hr tk R
noncomputable def Nj(prog:Y3)(w:aal)(K:Frag)(m:Nat)(a:Addr)(cl:bE)(vs:List AV)(r:AV)(cl':bE):Prop:=∀(c:aj)(s:Xd)(us:List W2)(b:Addr)(A:Zp),aC K s.heap->bW c s.heap->aq c s.heap vs us->b∈c.cells->bD c s.heap b cl->1<=s.toks->az m A->
 Xf (Xe prog w) A (call (.ref a) (.ref b::us)) (λv s'=>ae (λx=>x=b\/aG x) s s'/\aC K s'.heap/\bD c s'.heap b cl'/\ao c s'.heap r v) nr s
theorem AD(allP:∀n,fD prog w K T m n){a:Addr}{st:Stmt}(D:dE K a st){n:Nat}{own:List (List Nat)}{vs:List AV}{r:AV}{cl cl':bE}(h:hH T 0 own n st cl vs=some (r,cl')):Nj prog w K (m+1) a cl vs r cl':=by
 refine iI D λo fd e1 e2 e3 D e4 e5=>?_;intro c s us b A B C hr hb hcl tk R;refine aK h λhlen h=>ab h λq he h=>ab h λu hu h=>ab h λr' hr' h=>ab h λcl2 hc2 h=>?_;have eu:=bS (P:=λt=>q.1=.ret t) hu;clear hu;obtain⟨q1,q2,q3⟩:=q;cases (eu:q1=.ret u);cases jU hr';refine aw (W8.mp hlen) λhlen hz=>al (Zd.mp hz) λz hz=>?_;cases q3 with
 | nil=>exact aT hc2
 | cons cl1 rest=>
  cases W9 hc2;cases W9 h;rw[<-e5,<-e4]at he;exact K8 allP D e1 e2 e3 (n:=n) (own:=own) (g:=0) (λh=>absurd rfl h) (by rw[e4];exact XF hlen) he c s us b A B C hr hb hz hcl tk R
noncomputable def XD(s:Xd)(b:Addr):Prop:=aG b\/s.heap.get? b=none
theorem ae.undead(X:ae (XD s) s s1):ae aG s s1:=⟨λb o e n=>X.keep b o e λq=>q.elim n λd=>(by rw[e]at d;clear e;cases d),X.live,X.os,X.gens⟩
theorem j8{s0:Xd}{b:Addr}(hc:∀b∈c.cells,s0.heap.get? b=none)(ho:∀b,cy env b->s0.heap.get? b=none)(h:XS c env b):XD s0 b:=by
 rcases h with (h | h) | h
 ·exact .inr (hc b h)
 ·exact .inl h
 ·exact .inr (ho b h)
noncomputable def au(i j:Nat):Stmt:=(bt (am i)).getD j (.Pass default)
noncomputable def e0:Expr:=.Constant .none 0 default
noncomputable def ay:Stmt->Expr | .Assign _ e _=>e | _=>e0
noncomputable def eA:Stmt->Str | .Assign [.Name x _] _ _=>x | _=>Str.empty
noncomputable def dq:Stmt->Pos | .Assign [.Name _ p] _ _=>p | .Assign [.Tuple _ _ p] _ _=>p | _=>default
noncomputable def qJ:Stmt->List Expr | .Assign [.Tuple ts _ _] _ _=>ts | _=>[]
noncomputable def qK:Stmt->Nat | .Assign [.Tuple _ k _] _ _=>k | _=>0
noncomputable def du:Stmt->Pos | .Assign _ _ p=>p | _=>default
noncomputable def bw:Expr->Expr | .ListComp e _ _ _=>e | _=>e0
noncomputable def fh:Expr->Expr | .ListComp _ [⟨t,_,_,_⟩] _ _=>t | _=>e0
noncomputable def fj:Expr->Expr | .ListComp _ [⟨_,t,_,_⟩] _ _=>t | _=>e0
noncomputable def qL:Expr->List Expr | .ListComp _ [⟨_,_,t,_⟩] _ _=>t | _=>[]
noncomputable def fk:Expr->YM | .ListComp _ _ s _=>s | _=>default
noncomputable def fm:Expr->Pos | .ListComp _ _ _ p=>p | _=>default
noncomputable def gN:Stmt->Expr | .For t _ _ _ _=>t | _=>e0
noncomputable def m7:Stmt->Expr | .For _ t _ _ _=>t | _=>e0
noncomputable def hK:Stmt->List Stmt | .For _ _ b _ _=>b | _=>[]
noncomputable def oE:Stmt->Pos | .For _ _ _ _ p=>p | _=>default
noncomputable def aV:Stmt->Expr | .If t _ _ _=>t | _=>e0
noncomputable def aO:Stmt->List Stmt | .If _ b _ _=>b | _=>[]
noncomputable def cB:Stmt->List Stmt | .If _ _ o _=>o | _=>[]
noncomputable def eB:Stmt->Pos | .If _ _ _ p=>p | _=>default
noncomputable def dG:Stmt->Expr | .While t _ _ _=>t | _=>e0
noncomputable def dw:Stmt->List Stmt | .While _ b _ _=>b | _=>[]
noncomputable def fX:Stmt->Pos | .While _ _ _ p=>p | _=>default
noncomputable def cW:Stmt->Expr | .Return (some e) _=>e | _=>e0
noncomputable def jE:Stmt->Pos | .Return _ p=>p | _=>default
noncomputable def at_(l:List Stmt)(j:Nat):Stmt:=l.getD j (.Pass default)
noncomputable def cY:Expr->Expr | .Subscript v _ _=>v | _=>e0
noncomputable def dj:Expr->Expr | .Subscript _ i _=>i | _=>e0
noncomputable def eH:Expr->Pos | .Subscript _ _ p=>p | _=>default
noncomputable def aI:Expr->Expr | .BinOp l _ _ _=>l | .Compare l _ _ _=>l | _=>e0
noncomputable def bj:Expr->Expr | .BinOp _ _ r _=>r | .Compare _ _ [r] _=>r | _=>e0
noncomputable def bl:Expr->Pos | .BinOp _ _ _ p=>p | .Compare _ _ _ p=>p | _=>default
noncomputable def m8:Expr->Str | .Call (.Attribute (.Name t _) _ _) _ _ _=>t | _=>Str.empty
noncomputable def lZ:Expr->Pos | .Call (.Attribute (.Name _ p) _ _) _ _ _=>p | _=>default
noncomputable def l4:Expr->Str | .Call (.Attribute _ m _) _ _ _=>m | _=>Str.empty
noncomputable def l5:Expr->Pos | .Call (.Attribute _ _ p) _ _ _=>p | _=>default
noncomputable def bx:Expr->List Expr | .Call _ a _ _=>a | _=>[]
noncomputable def aJ:Expr->Expr | .Call f _ _ _=>f | _=>e0
noncomputable def bB:Expr->Pos | .Call _ _ _ p=>p | _=>default
noncomputable def bK:Stmt->Expr | .Expr e _=>e | _=>e0
noncomputable def j9:Stmt->Pos | .Expr _ p=>p | _=>default
section
variable{c:aH}
theorem k9{x:R3}{f:bG->ai->S->R3}{o:bG}{z:R3}(h:x=some (o,ρ1,σ1))(k:f o ρ1 σ1=z):b3 x f=z:=h▸k
theorem aR{st:Stmt}{r:List Stmt}(h:pex n c ρ σ st=some (.next,ρ1,σ1)):pst (n+1) c ρ σ (st::r)=pst n c ρ1 σ1 r:=k9 h rfl
theorem i9{st:Stmt}{r:List Stmt}{v:PV}(h:pex n c ρ σ st=some (.ret v,ρ1,σ1)):pst (n+1) c ρ σ (st::r)=some (.ret v,ρ1,σ1):=k9 h rfl
theorem AE{st:Stmt}{r:List Stmt}(h:pex n c ρ σ st=some (.brk,ρ1,σ1)):pst (n+1) c ρ σ (st::r)=some (.brk,ρ1,σ1):=k9 h rfl
theorem eJ{l r:Expr}{o:Z8}{p:Pos}{a b v:AV}(h1:pe n c ρ σ l=some (.val a,σ))(h2:pe n c ρ σ r=some (.val b,σ))(h:lF o a b=some v):pe (n+1) c ρ σ (.BinOp l o r p)=some (.val v,σ):=dz h1 (dz h2 (lM h))
theorem AF{l r:Expr}{o:CmpOp}{p:Pos}{a b:AV}{v:Bool}(h1:pe n c ρ σ l=some (.val a,σ1))(h2:pe n c ρ σ1 r=some (.val b,σ2))(h:fe o a b=some v):pe (n+1) c ρ σ (.Compare l [o] [r] p)=some (.val (.bool v),σ2):=dz h1 (dz h2 (ba h rfl))
theorem Nk{l r:Expr}{o:CmpOp}{p:Pos}{a b:AV}{v:Bool}(h1:pe n c ρ σ l=some (.val a,σ1))(h2:pe n c ρ σ1 r=some (.val b,σ2))(h:fe o a b=some v):pt (n+1) c ρ σ (.Compare l [o] [r] p)=some (v,σ2):=dz h1 (dz h2 (ba h rfl))
theorem lc{l r:Expr}{o:CmpOp}{p:Pos}{a b:AV}{v:Bool}(h1:pe n c ρ σ l=some (.val a,σ))(h2:pe n c ρ σ r=some (.val b,σ))(h:fe o a b=some v):pe (n+1) c ρ σ (.Compare l [o] [r] p)=some (.val (.bool v),σ):=AF h1 h2 h
theorem dk{l r:Expr}{o:CmpOp}{p:Pos}{a b:AV}{v:Bool}(h1:pe n c ρ σ l=some (.val a,σ))(h2:pe n c ρ σ r=some (.val b,σ))(h:fe o a b=some v):pt (n+1) c ρ σ (.Compare l [o] [r] p)=some (v,σ):=Nk h1 h2 h
theorem eV{t:Expr}{b o:List Stmt}{p:Pos}{v:Bool}(h:pt n c ρ σ t=some (v,σ)):pex (n+1) c ρ σ (.If t b o p)=pst n c ρ σ (cond v b o):=bs h rfl
theorem AG{i:Expr}(hi:match i with | .Slice ..=>False | _=>True):sE i=none:=by cases i<;>first | rfl | exact hi.elim
theorem fG{v i:Expr}{p:Pos}{a x r:AV}(hi:match i with | .Slice ..=>False | _=>True)(h1:pe n c ρ σ v=some (.val a,σ))(h2:pe n c ρ σ i=some (.val x,σ))(h:lG a x=some r):pe (n+1) c ρ σ (.Subscript v i p)=some (.val r,σ):=
 fB (AG hi) (bs h1 (dz h2 (lM (x:=sV σ x (.val a)) h)))
theorem Nl{v i:Expr}{p:Pos}{q:Nat}{cl:bE}{x r:AV}(hi:match i with | .Slice ..=>False | _=>True)(h1:pe n c ρ σ v=some (.cell q,σ))(h2:pe n c ρ σ i=some (.val x,σ))(h3:bP σ q=some cl)(h:lG (.lst cl.items) x=some r):pe (n+1) c ρ σ (.Subscript v i p)=some (.val r,σ):=
 fB (AG hi) (bs h1 (dz h2 (lM (x:=sV σ x (.cell q)) (ba h3 h))))
theorem qM{tg it:Expr}{b:List Stmt}{p:Pos}{v:PV}{ts:List AV}{r:Option (bG×ai×S)}(h1:pe n c ρ σ it=some (v,σ))(h2:jt v=some ts)
  (h3:gn (λt ρ σ=>bo (eG c.sc tg t ρ) λρ1=>pst n c ρ1 σ b) ts ρ σ=r):pex (n+1) c ρ σ (.For tg it b [] p)=r:=bs (x:=pe n c ρ σ it) h1 (ba h2 h3)
theorem AH{e:Expr}(he:match e with | .Attribute ..=>False | _=>True):to e=none:=by cases e<;>first | rfl | exact he.elim
theorem eC{x:Str}{p q:Pos}{e:Expr}{v:AV}(ho:inL (nm x) c.own=false)(he:match e with | .Attribute ..=>False | _=>True)(h:pe n c ρ σ e=some (.val v,σ))(hr:eN c.sc ρ x (.val v)=some ρ1):pex (n+1) c ρ σ (.Assign [.Name x p] e q)=some (.next,ρ1,σ):=
 gE (b:=inL (nm x) c.own) ho (fB (AH he) (dz h (ba hr rfl)))
theorem oG{ts:List Expr}{k:Nat}{tp p:Pos}{e:Expr}{xs:List Str}{vs:List AV}(hx:jR ts=some xs)(h:pe n c ρ σ e=some (.val (.tup vs),σ))(hs:pW c.sc [.Tuple ts k tp] e=some none)(hr:ju c.sc ρ xs vs=some ρ1):pex (n+1) c ρ σ (.Assign [.Tuple ts k tp] e p)=some (.next,ρ1,σ):=
 ba (x:=jR ts) hx (dz h (ba (a:=vs) rfl (ba hs (ba hr rfl))))
theorem fo{elt iter tg:Expr}{ifs:List Expr}{sc:YM}{p:Pos}{it:PV}{ts vs:List AV}{ρ0:ai}(hc:kJ sc=true)(h1:pe n c ρ σ iter=some (it,σ))(h2:jt it=some ts)(h3:fV c.sc sc.names ρ=some ρ0)(h4:pcomp n {c with sc:=kH sc c.sc} ρ0 σ tg ifs elt ts=some (vs,σ)) :
  pe (n+1) c ρ σ (.ListComp elt [⟨tg,iter,ifs,0⟩] sc p)=some (.val (.lst vs),σ):=
 ba (x:=pT [⟨tg,iter,ifs,0⟩] sc) (a:=⟨tg,iter,ifs,0⟩) (cV (b:=_&&kJ sc) (W8.mpr ⟨rfl,hc⟩) rfl) (bs h1 (ba h2 (ba h3 (bs h4 rfl))))
theorem kc{α:Type}{tg elt:Expr}{g h:α->AV}(hf:iP tg ρ=true){l:List α}(hl:∀x∈l,∃ρ1,eG c.sc tg (g x) ρ=some ρ1/\pe n c ρ1 σ elt=some (.val (h x),σ)):pcomp (n+1) c ρ σ tg [] elt (l.map g)=some (l.map h,σ):=by
 refine cV hf ?_;induction l with
 | nil=>rfl
 | cons x l ih=>exact af (hl x (Xh ..)) λρ1 e1 e2=>bs (ba e1 (dz e2 rfl)) (bs (ih λy hy=>hl y (Xc _ hy)) rfl)
theorem oH{α:Type}{tg elt q:Expr}{g h:α->AV}{t:α->Bool}(hf:iP tg ρ=true){l:List α}(hl:∀x∈l,∃ρ1,eG c.sc tg (g x) ρ=some ρ1/\pt n c ρ1 σ q=some (t x,σ)/\(t x=true->pe n c ρ1 σ elt=some (.val (h x),σ))):pcomp (n+1) c ρ σ tg [q] elt (l.map g)=some ((l.filter t).map h,σ):=by
 refine cV hf ?_;induction l with
 | nil=>rfl
 | cons x l ih=>
  refine dY (hl x (Xh ..)) λρ1 e1 e2 e3=>?_;have ih:=ih λy hy=>hl y (Xc _ hy);cases ht:t x with
  | true=>
   exact aa List.filter_cons (aa (if_pos ht) (bs (a:=some (h x)) (b:=σ) (ba e1 (bs (a:=true) (b:=σ) (ht▸e2) (kK rfl (dz (e3 ht) rfl)))) (bs ih rfl)))
  | false=>
   refine aa (List.filter_cons) ?_;refine aa (if_neg (by rw[ht];decide)) ?_;exact bs (a:=none) (b:=σ) (ba e1 (bs (a:=false) (b:=σ) (ht▸e2) rfl)) (bs ih rfl)
theorem Nm{e1 e2:Expr}{k:Nat}{p:Pos}{a b:AV}(h1:pe (n+2) c ρ σ e1=some (.val a,σ))(h2:pe (n+1) c ρ σ e2=some (.val b,σ)):pe (n+4) c ρ σ (.Tuple [e1,e2] k p)=some (.val (.tup [a,b]),σ):=
 bs (a:=[a,b]) (b:=σ) (dz h1 (bs (a:=[b]) (b:=σ) (dz h2 rfl) rfl)) rfl
theorem jF{e:Expr}{p:Pos}{v:PV}(h:pe n c ρ σ e=some (v,σ1)):pex (n+1) c ρ σ (.Return (some e) p)=some (.ret v,ρ,σ1):=bs (x:=pe n c ρ σ e) h rfl
theorem l6{step:AV->ai->S->Option (bG×ai×S)}{t:AV}{ts:List AV}(h:step t ρ σ=some (.next,ρ1,σ1)):gn step (t::ts) ρ σ=gn step ts ρ1 σ1:=k9 h rfl
theorem qN{T:bh}{g fuel:Nat}{own:List (List Nat)}{st:Stmt}{vs:List AV}{t:PV}{ρ0 ρ':ai}{σ':S}{r:AV}(hn:XI vs.length (aU st).args.length=true)(hp:fg (aU st).args (vs.map .val)=ρ0)
  (h:pst fuel {tab:=T,sc:=aF st,own:=own,gen:=g} ρ0 [] (bt st)=some (.ret t,ρ',σ'))(ho:uM t σ'=some r):bJ T g own fuel st vs=some r:=by
 subst hp;exact cV hn (ba h ho)
theorem AI{T:bh}{g fuel:Nat}{own:List (List Nat)}{st:Stmt}{cl cl':bE}{rest:S}{vs:List AV}{ρ0 ρ':ai}{r:AV}(hn:(XI (vs.length+1) (aU st).args.length&&cl.acc.isSome)=true)(hp:fg (aU st).args (.cell 0::vs.map .val)=ρ0)
  (h:pst fuel {tab:=T,sc:=aF st,own:=own,gen:=g} ρ0 [cl] (bt st)=some (.ret (.val r),ρ',cl'::rest)):hH T g own fuel st cl vs=some (r,cl'):=by
 subst hp;exact cV hn (ba h rfl)
theorem Nn{x y:Expr}{p:Pos}{a b:Bool}(h1:pe n c ρ σ x=some (.val (.bool a),σ))(h2:pe n c ρ σ y=some (.val (.bool b),σ)):pe (n+1) c ρ σ (.BoolOp .And [x,y] p)=some (.val (.bool (a&&b)),σ):=
 dz h1 (ba (a:=a) rfl (by clear h1;cases a with | true=>exact h2 | false=>rfl))
theorem AJ{l r q:Expr}{o1 o2:CmpOp}{p:Pos}{a b d:AV}{u v:Bool}(hb:behindInMarks o2 q=false)(h1:pe n c ρ σ l=some (.val a,σ))(h2:pe n c ρ σ r=some (.val b,σ))(h3:pe n c ρ σ q=some (.val d,σ))(e1:fe o1 a b=some u)(e2:fe o2 b d=some v) :
  pt (n+1) c ρ σ (.Compare l [o1,o2] [r,q] p)=some (u&&v,σ):=
 cV (b:=!behindInMarks o2 q) (congrArg (!·) hb) (dz h1 (dz h2 (ba e1 (by clear e1;cases u with | true=>exact dz h3 (ba e2 rfl) | false=>rfl))))
theorem uZ:∀(R:List Bool),nM true (R.map AV.bool)=some (R.any id)
 | []=>rfl
 | b::R=>by
  exact ba (x:=nM true (R.map AV.bool)) (uZ R) (by cases b<;>rfl)
theorem u4:∀(m k:Nat),mw (.ofNat k) m=(aac k m).map λi=>AV.int (.ofNat i)
 | 0,_=>rfl
 | m+1,k=>by
  show AV.int (.ofNat k)::mw (.ofNat k+1) m=_;refine aa (show(Int.ofNat k+1)=Int.ofNat (k+1) from rfl) (aa (u4 m (k+1)) ?_);rfl
theorem l7{m:Nat}(h:m<=4096):jt (.rng 0 (.ofNat m) 1)=some ((Xr m).map λi=>AV.int (.ofNat i)):=by
 have h1:(fK 0&&fK (.ofNat m))=true:=XB (W6 h (by decide));have h2:((Int.ofNat m)-0).toNat=m:=by show((m:Int)-0).toNat=m;exact EM
 refine cV (b:=fK 0&&fK (.ofNat m)) h1 (cV (b:=YG ((Int.ofNat m)-0).toNat aD) (h2.symm▸XB h) ?_);rw[h2,show(0:Int)=.ofNat 0 from rfl,u4,List.range_eq_range']
theorem qO{α:Type}{f:α->AV}:∀{l:List α}{k:Nat}{a:α},l[k]?=some a->is (l.map f) (.ofNat k)=some (f a)
 | [],k,a,h=>by simp at h
 | x::l,0,a,h=>by cases h;rfl
 | x::l,k+1,a,h=>qO (l:=l) (k:=k) (by simpa using h)
theorem m9{α:Type}{tg elt:Expr}{g:α->AV}{f:α->Bool}{l:List α}(hf:iP tg ρ=true)(h:∀x∈l,∃ρ1,eG c.sc tg (g x) ρ=some ρ1/\pe n c ρ1 σ elt=some (.val (.bool (f x)),σ)):pcomp (n+1) c ρ σ tg [] elt (l.map g)=some ((l.map f).map AV.bool,σ):=by
 rw[YV];exact kc hf h
theorem jG{t m:Str}{tp ap p:Pos}{args:List Expr}{r:Option (PV×S)}(hl:(XI ap.endLine p.line&&YU args.length 30)=true)(ht:(ax (nm t) kE&&ax (nm m) pN)=false)(h:pmeth n c ρ σ (.Name t tp) m args=r):pe (n+1) c ρ σ (.Call (.Attribute (.Name t tp) m ap) args [] p)=r:=
 cV (b:=XI ap.endLine p.line&&YU args.length 30) hl (fB (x:=nT (.Name t tp) m) (by show gd (ax (nm t) kE&&ax (nm m) pN) _=none;rw[ht];rfl) h)
theorem AK{args:List Expr}(hg:match args with | [.GeneratorExp ..]=>False | _=>True):nU args=none:=by
 rcases args with _ | ⟨a,_ | ⟨b,r⟩⟩
 ·rfl
 ·cases a<;>first | rfl | exact hg.elim
 ·rfl
theorem ke{o:Expr}{m:Str}{args:List Expr}{q:Nat}{cl cl':bE}{z:Int}{vs:List AV}{r:AV}(hg:match args with | [.GeneratorExp ..]=>False | _=>True)(h1:pe n c ρ σ o=some (.cell q,σ))(h2:bP σ q=some cl)(hz:cl.acc=some z)(h3:pes n c ρ σ args=some (vs,σ))(h4:iu (nm m) cl vs=some (r,cl')) :
  pmeth (n+1) c ρ σ o m args=some (.val r,dg σ q cl'):=
 fB (AK hg) (bs h1 (ba h2 (bs h3 (ba h2 (cV (b:=pP cl.acc cl.acc) (beq_self_eq_true _) (bs h4 rfl))))))
theorem u5{α:Type}{l:List α}{k:Nat}(h:k<l.length):bP l k=some l[k]:=by
 simp only[kP,Xo h]
end
noncomputable def T1:bh where
 fn:=λf vs=>cond (ax f qa) (bJ T0 0 [] 60 (am 18) vs) (cond (ax f jX) (bJ T0 0 [] 200 (am 21) vs) (cond (ax f kM) (bJ T0 0 [] 200 (am 20) vs) (T0.fn f vs)))
 cf:=λf cl vs=>gd (ax f n3) (hH T0 0 [] 100 (am 23) cl vs)
 gc:=λ_=>none
noncomputable def cD:aH:={tab:=T1,sc:=aF (am 19),own:=[],gen:=0}
noncomputable abbrev bV:AV:=.lst (kinds.map k8.av)
theorem No(n:Nat)(xs:List Int):pex (n+10) cD [(aan,.val (.lst (xs.map AV.int)))] [] (au 19 0)=some (.next,[(aan,.val (.lst (xs.map AV.int))),(aas,.val bV)],[]):=by rfl'
theorem Np:au 19 1=.Assign [.Name (eA (au 19 1)) (dq (au 19 1))] (.ListComp (bw (ay (au 19 1))) [⟨fh (ay (au 19 1)),fj (ay (au 19 1)),[],0⟩] (fk (ay (au 19 1))) (fm (ay (au 19 1)))) (du (au 19 1)):=by rfl'
theorem Nq(n:Nat)(xs:List Int):pex (n+10) cD [(aan,.val (.lst (xs.map AV.int))),(aas,.val bV)] [] (au 19 1)=some (.next,[(aan,.val (.lst (xs.map AV.int))),(aas,.val bV),(aaq,.val (.lst (((xs.take 8).map λx=>x.fmod 1000000000000).map AV.int)))],[]):=by
 rw[Np];refine eC (by rfl') trivial (fo (it:=.val (.lst ((xs.map AV.int).take 8))) (ts:=(xs.take 8).map AV.int) (ρ0:=[]) (by rfl') (by rfl') ?_ (by rfl') (kc (h:=λx=>AV.int (x.fmod 1000000000000)) (by rfl') λx _=>(ah ([([120],.val (.int x))]) (by rfl') ?_))) ?_
 ·rw[<-List.map_take];rfl
 ·rfl'
 ·rw[YV];rfl'
noncomputable def cK(xs:List Int):List Int:=(xs.take 8).map (λx=>x.fmod 1000000000000)++(if (xs.take 8).length<2 then [20,2,0,3] else [])
theorem AL(xs:List Int):(cK xs).length<=8/\2<=(cK xs).length:=by
 unfold cK;rw[Om,W7];have:(xs.take 8).length<=8:=by rw[Xy];exact EY
 split<;>simp only[W5,Xq]<;>(first | exact E0 (by assumption) | exact EZ this (by assumption))
theorem Nr:au 19 2=.If (.Compare (aI (aV (au 19 2))) [.Lt] [bj (aV (au 19 2))] (bl (aV (au 19 2)))) [.Assign [.Name (eA (at_ (aO (au 19 2)) 0)) (dq (at_ (aO (au 19 2)) 0))] (.BinOp (aI (ay (at_ (aO (au 19 2)) 0))) .Add (bj (ay (at_ (aO (au 19 2)) 0))) (bl (ay (at_ (aO (au 19 2)) 0)))) (du (at_ (aO (au 19 2)) 0))] [] (eB (au 19 2)):=by rfl'
theorem Nt(n:Nat)(xs:List Int):pex (n+10) cD [(aan,.val (.lst (xs.map AV.int))),(aas,.val bV),(aaq,.val (.lst (((xs.take 8).map λx=>x.fmod 1000000000000).map AV.int)))] [] (au 19 2)=some (.next,[(aan,.val (.lst (xs.map AV.int))),(aas,.val bV),(aaq,.val (.lst ((cK xs).map AV.int)))],[]):=by
 rw[Nr];have hl:((xs.take 8).map λx=>x.fmod 1000000000000).length=(xs.take 8).length:=W7 ..;by_cases h:(xs.take 8).length<2
 ·rw[eV (v:=true) (dk (a:=.int (.ofNat ((((xs.take 8).map λx=>x.fmod 1000000000000).map AV.int).length))) (b:=.int 2) (by rfl') (by rfl') ?_)]
  ·refine(aR (ρ1:=[(aan,.val (.lst (xs.map AV.int))),(aas,.val bV),(aaq,.val (.lst ((cK xs).map AV.int)))]) (σ1:=[]) (eC (by rfl') trivial (eJ (a:=.lst (((xs.take 8).map λx=>x.fmod 1000000000000).map AV.int)) (b:=.lst [.int 20,.int 2,.int 0,.int 3]) (v:=.lst ((cK xs).map AV.int)) (by rfl') (by rfl') ?_) (by rfl'))).trans (by rfl');unfold cK;rw[if_pos h,Y0];exact qd (by rw[Om,W7,hl];show _+4<=4096;exact E1 h)
  ·show some (decide _)=some true;rw[decide_eq_true];rw[W7,hl];show((xs.take 8).length:Int)<2;exact E2 h
 ·rw[eV (v:=false) (dk (a:=.int (.ofNat ((((xs.take 8).map λx=>x.fmod 1000000000000).map AV.int).length))) (b:=.int 2) (by rfl') (by rfl') ?_)]
  ·unfold cK;rw[if_neg h,Yc]
   rfl'
  ·show some (decide _)=some false;rw[decide_eq_false];rw[W7,hl];show ¬((xs.take 8).length:Int)<2;exact E3 h
theorem Nu(n:Nat)(xs:List Int):pex (n+10) cD [(aan,.val (.lst (xs.map AV.int))),(aas,.val bV),(aaq,.val (.lst ((cK xs).map AV.int)))] [] (au 19 3)=some (.next,[(aan,.val (.lst (xs.map AV.int))),(aas,.val bV),(aaq,.val (.lst ((cK xs).map AV.int))),(aam,.val (.str []))],[]):=by rfl'
noncomputable def kd(d:Nat):k8:=kinds.getD d ⟨[],false,[]⟩
noncomputable abbrev bn(l:List (Nat×Nat)):AV:=.lst (l.map λq=>.tup [.str [q.1],.str [q.2]])
noncomputable def oJ:List Nat:=[97,98,46,93,45,10,94,122]
noncomputable def dW(d w v:Nat):List Nat:=match w with
 | 2=>[]
 | 3=>[oJ.getD v 0]
 | w=>match (kd d).text with
  | 42::_=>[98,97].take (2 * w)
  | _=>match (kd d).bar,(kd d).rngs with
   | false,q::r=>match w with
    | 0=>[q.1]
    | _=>[((q::r).getLastD q).2]
   | _,_=>match w with
    | 0=>[98]
    | _=>[122]
noncomputable def rA(scr nb:AV)(acc:List Nat):ai:=[(aan,.val scr),(aas,.val bV),(aaq,.val nb),(aam,.val (.str acc))]
noncomputable def rB(scr nb:AV)(acc:List Nat)(x:Int)(d w:Nat)(s:List Nat):ai:=[(aan,.val scr),(aas,.val bV),(aaq,.val nb),(aam,.val (.str acc)),([120],.val (.int x)),(aar,.val (.str (kd d).text)),(aap,.val (.bool (kd d).bar)),(aao,.val (bn (kd d).rngs)),(aay,.val (.int (.ofNat w))),(aaw,.val (.str s))]
noncomputable abbrev dB:List Stmt:=hK (au 19 4)
theorem AM:at_ dB 0=.Assign [.Tuple (qJ (at_ dB 0)) (qK (at_ dB 0)) (dq (at_ dB 0))] (.Subscript (cY (ay (at_ dB 0))) (.BinOp (aI (dj (ay (at_ dB 0)))) .Mod (bj (dj (ay (at_ dB 0)))) (bl (dj (ay (at_ dB 0))))) (eH (ay (at_ dB 0)))) (du (at_ dB 0)):=by rfl'
theorem AO:at_ dB 1=.Assign [.Name (eA (at_ dB 1)) (dq (at_ dB 1))] (.BinOp (.BinOp (aI (aI (ay (at_ dB 1)))) .FloorDiv (bj (aI (ay (at_ dB 1)))) (bl (aI (ay (at_ dB 1))))) .Mod (bj (ay (at_ dB 1))) (bl (ay (at_ dB 1)))) (du (at_ dB 1)):=by rfl'
theorem u6:∀d,d<20->is (kinds.map k8.av) (.ofNat d)=some (kd d).av
 | 0,_=>rfl
 | 1,_=>rfl
 | 2,_=>rfl
 | 3,_=>rfl
 | 4,_=>rfl
 | 5,_=>rfl
 | 6,_=>rfl
 | 7,_=>rfl
 | 8,_=>rfl
 | 9,_=>rfl
 | 10,_=>rfl
 | 11,_=>rfl
 | 12,_=>rfl
 | 13,_=>rfl
 | 14,_=>rfl
 | 15,_=>rfl
 | 16,_=>rfl
 | 17,_=>rfl
 | 18,_=>rfl
 | 19,_=>rfl
 | n+20,h=>absurd h (by exact iK)
theorem l8{x:Int}{k d:Nat}(h:x.fmod (.ofNat (k+1))=.ofNat d):lF .Mod (.int x) (.int (.ofNat (k+1)))=some (.int (.ofNat d)):=by
 show some (AV.int (x.fmod (.ofNat (k+1))))=_;refine aa h ?_;rfl
theorem Nv(n:Nat)(scr nb:AV)(acc:List Nat)(y:Int)(d:Nat)(hd:d<20)(h:y.fmod 20=.ofNat d):pex (n+10) cD [(aan,.val scr),(aas,.val bV),(aaq,.val nb),(aam,.val (.str acc)),([120],.val (.int y))] [] (at_ dB 0)=some (.next,[(aan,.val scr),(aas,.val bV),(aaq,.val nb),(aam,.val (.str acc)),([120],.val (.int y)),(aar,.val (.str (kd d).text)),(aap,.val (.bool (kd d).bar)),(aao,.val (bn (kd d).rngs))],[]):=by
 exact aa (AM) (oG (xs:=[⟨⟨aar⟩⟩,⟨⟨aap⟩⟩,⟨⟨aao⟩⟩]) (vs:=[.str (kd d).text,.bool (kd d).bar,bn (kd d).rngs]) (by rfl') (fG (a:=bV) (x:=.int (.ofNat d)) trivial (by rfl') (eJ (a:=.int y) (b:=.int 20) (by rfl') (by rfl') (l8 h)) (u6 d hd)) (by rfl') (by rfl'))
theorem Nw(n:Nat)(scr nb:AV)(acc:List Nat)(y:Int)(d w:Nat)(h:(y.fdiv 20).fmod 4=.ofNat w):pex (n+10) cD [(aan,.val scr),(aas,.val bV),(aaq,.val nb),(aam,.val (.str acc)),([120],.val (.int y)),(aar,.val (.str (kd d).text)),(aap,.val (.bool (kd d).bar)),(aao,.val (bn (kd d).rngs))] [] (at_ dB 1)=some (.next,[(aan,.val scr),(aas,.val bV),(aaq,.val nb),(aam,.val (.str acc)),([120],.val (.int y)),(aar,.val (.str (kd d).text)),(aap,.val (.bool (kd d).bar)),(aao,.val (bn (kd d).rngs)),(aay,.val (.int (.ofNat w)))],[]):=by
 exact aa (AO) (eC (by rfl') trivial (eJ (a:=.int (y.fdiv 20)) (b:=.int 4) (eJ (a:=.int y) (b:=.int 20) (by rfl') (by rfl') (by rfl')) (by rfl') (l8 h)) (by rfl'))
theorem Nx(n:Nat)(scr nb:AV)(acc:List Nat)(y:Int)(d:Nat)(x:Int)(d0 w0:Nat)(s0:List Nat)(hd:d<20)(h:y.fmod 20=.ofNat d):pex (n+10) cD [(aan,.val scr),(aas,.val bV),(aaq,.val nb),(aam,.val (.str acc)),([120],.val (.int y)),(aar,.val (.str (kd d0).text)),(aap,.val (.bool (kd d0).bar)),(aao,.val (bn (kd d0).rngs)),(aay,.val (.int (.ofNat w0))),(aaw,.val (.str s0))] [] (at_ dB 0)=some (.next,[(aan,.val scr),(aas,.val bV),(aaq,.val nb),(aam,.val (.str acc)),([120],.val (.int y)),(aar,.val (.str (kd d).text)),(aap,.val (.bool (kd d).bar)),(aao,.val (bn (kd d).rngs)),(aay,.val (.int (.ofNat w0))),(aaw,.val (.str s0))],[]):=by
 exact aa (AM) (oG (xs:=[⟨⟨aar⟩⟩,⟨⟨aap⟩⟩,⟨⟨aao⟩⟩]) (vs:=[.str (kd d).text,.bool (kd d).bar,bn (kd d).rngs]) (by rfl') (fG (a:=bV) (x:=.int (.ofNat d)) trivial (by rfl') (eJ (a:=.int y) (b:=.int 20) (by rfl') (by rfl') (l8 h)) (u6 d hd)) (by rfl') (by rfl'))
theorem Ny(n:Nat)(scr nb:AV)(acc:List Nat)(y:Int)(d w:Nat)(x:Int)(d0 w0:Nat)(s0:List Nat)(h:(y.fdiv 20).fmod 4=.ofNat w):pex (n+10) cD [(aan,.val scr),(aas,.val bV),(aaq,.val nb),(aam,.val (.str acc)),([120],.val (.int y)),(aar,.val (.str (kd d).text)),(aap,.val (.bool (kd d).bar)),(aao,.val (bn (kd d).rngs)),(aay,.val (.int (.ofNat w0))),(aaw,.val (.str s0))] [] (at_ dB 1)=some (.next,[(aan,.val scr),(aas,.val bV),(aaq,.val nb),(aam,.val (.str acc)),([120],.val (.int y)),(aar,.val (.str (kd d).text)),(aap,.val (.bool (kd d).bar)),(aao,.val (bn (kd d).rngs)),(aay,.val (.int (.ofNat w))),(aaw,.val (.str s0))],[]):=by
 exact aa (AO) (eC (by rfl') trivial (eJ (a:=.int (y.fdiv 20)) (b:=.int 4) (eJ (a:=.int y) (b:=.int 20) (by rfl') (by rfl') (by rfl')) (by rfl') (l8 h)) (by rfl'))
theorem ec:at_ dB 2=.If (aV (at_ dB 2)) (aO (at_ dB 2)) [.If (aV (at_ (cB (at_ dB 2)) 0)) [.Assign [.Name (eA (at_ (aO (at_ (cB (at_ dB 2)) 0)) 0)) (dq (at_ (aO (at_ (cB (at_ dB 2)) 0)) 0))] (.Subscript (cY (ay (at_ (aO (at_ (cB (at_ dB 2)) 0)) 0)))
  (.BinOp (.BinOp (aI (aI (dj (ay (at_ (aO (at_ (cB (at_ dB 2)) 0)) 0))))) .FloorDiv (bj (aI (dj (ay (at_ (aO (at_ (cB (at_ dB 2)) 0)) 0))))) (bl (aI (dj (ay (at_ (aO (at_ (cB (at_ dB 2)) 0)) 0)))))) .Mod (bj (dj (ay (at_ (aO (at_ (cB (at_ dB 2)) 0)) 0)))) (bl (dj (ay (at_ (aO (at_ (cB (at_ dB 2)) 0)) 0)))))
  (eH (ay (at_ (aO (at_ (cB (at_ dB 2)) 0)) 0)))) (du (at_ (aO (at_ (cB (at_ dB 2)) 0)) 0))] (cB (at_ (cB (at_ dB 2)) 0)) (eB (at_ (cB (at_ dB 2)) 0))] (eB (at_ dB 2)):=by rfl'
theorem AP:∀v,v<8->lG (.str oJ) (.int (.ofNat v))=some (.str [oJ.getD v 0])
 | 0,_=>rfl
 | 1,_=>rfl
 | 2,_=>rfl
 | 3,_=>rfl
 | 4,_=>rfl
 | 5,_=>rfl
 | 6,_=>rfl
 | 7,_=>rfl
 | n+8,h=>absurd h (by exact FI)
theorem Nz(n:Nat)(scr nb:AV)(acc:List Nat)(y:Int)(v:Nat):∀d,d<20->pex (n+30) cD [(aan,.val scr),(aas,.val bV),(aaq,.val nb),(aam,.val (.str acc)),([120],.val (.int y)),(aar,.val (.str (kd d).text)),(aap,.val (.bool (kd d).bar)),(aao,.val (bn (kd d).rngs)),(aay,.val (.int (.ofNat 0)))] [] (at_ dB 2)=some (.next,[(aan,.val scr),(aas,.val bV),(aaq,.val nb),(aam,.val (.str acc)),([120],.val (.int y)),(aar,.val (.str (kd d).text)),(aap,.val (.bool (kd d).bar)),(aao,.val (bn (kd d).rngs)),(aay,.val (.int (.ofNat 0))),(aaw,.val (.str (dW d 0 v)))],[])
 | 0,_=>by rfl'
 | 1,_=>by rfl'
 | 2,_=>by rfl'
 | 3,_=>by rfl'
 | 4,_=>by rfl'
 | 5,_=>by rfl'
 | 6,_=>by rfl'
 | 7,_=>by rfl'
 | 8,_=>by rfl'
 | 9,_=>by rfl'
 | 10,_=>by rfl'
 | 11,_=>by rfl'
 | 12,_=>by rfl'
 | 13,_=>by rfl'
 | 14,_=>by rfl'
 | 15,_=>by rfl'
 | 16,_=>by rfl'
 | 17,_=>by rfl'
 | 18,_=>by rfl'
 | 19,_=>by rfl'
 | n+20,h=>absurd h (by exact iK)
theorem NA(n:Nat)(scr nb:AV)(acc:List Nat)(y:Int)(v:Nat):∀d,d<20->pex (n+30) cD [(aan,.val scr),(aas,.val bV),(aaq,.val nb),(aam,.val (.str acc)),([120],.val (.int y)),(aar,.val (.str (kd d).text)),(aap,.val (.bool (kd d).bar)),(aao,.val (bn (kd d).rngs)),(aay,.val (.int (.ofNat 1)))] [] (at_ dB 2)=some (.next,[(aan,.val scr),(aas,.val bV),(aaq,.val nb),(aam,.val (.str acc)),([120],.val (.int y)),(aar,.val (.str (kd d).text)),(aap,.val (.bool (kd d).bar)),(aao,.val (bn (kd d).rngs)),(aay,.val (.int (.ofNat 1))),(aaw,.val (.str (dW d 1 v)))],[])
 | 0,_=>by rfl'
 | 1,_=>by rfl'
 | 2,_=>by rfl'
 | 3,_=>by rfl'
 | 4,_=>by rfl'
 | 5,_=>by rfl'
 | 6,_=>by rfl'
 | 7,_=>by rfl'
 | 8,_=>by rfl'
 | 9,_=>by rfl'
 | 10,_=>by rfl'
 | 11,_=>by rfl'
 | 12,_=>by rfl'
 | 13,_=>by rfl'
 | 14,_=>by rfl'
 | 15,_=>by rfl'
 | 16,_=>by rfl'
 | 17,_=>by rfl'
 | 18,_=>by rfl'
 | 19,_=>by rfl'
 | n+20,h=>absurd h (by exact iK)
theorem NB(n:Nat)(scr nb:AV)(acc:List Nat)(y:Int)(v:Nat):∀d,d<20->pex (n+30) cD [(aan,.val scr),(aas,.val bV),(aaq,.val nb),(aam,.val (.str acc)),([120],.val (.int y)),(aar,.val (.str (kd d).text)),(aap,.val (.bool (kd d).bar)),(aao,.val (bn (kd d).rngs)),(aay,.val (.int (.ofNat 2)))] [] (at_ dB 2)=some (.next,[(aan,.val scr),(aas,.val bV),(aaq,.val nb),(aam,.val (.str acc)),([120],.val (.int y)),(aar,.val (.str (kd d).text)),(aap,.val (.bool (kd d).bar)),(aao,.val (bn (kd d).rngs)),(aay,.val (.int (.ofNat 2))),(aaw,.val (.str (dW d 2 v)))],[])
 | 0,_=>by rfl'
 | 1,_=>by rfl'
 | 2,_=>by rfl'
 | 3,_=>by rfl'
 | 4,_=>by rfl'
 | 5,_=>by rfl'
 | 6,_=>by rfl'
 | 7,_=>by rfl'
 | 8,_=>by rfl'
 | 9,_=>by rfl'
 | 10,_=>by rfl'
 | 11,_=>by rfl'
 | 12,_=>by rfl'
 | 13,_=>by rfl'
 | 14,_=>by rfl'
 | 15,_=>by rfl'
 | 16,_=>by rfl'
 | 17,_=>by rfl'
 | 18,_=>by rfl'
 | 19,_=>by rfl'
 | n+20,h=>absurd h (by exact iK)
theorem NC(n:Nat)(scr nb:AV)(acc:List Nat)(y:Int)(v:Nat)(d:Nat)(hv:v<8)(h:(y.fdiv 80).fmod 8=.ofNat v):pex (n+30) cD [(aan,.val scr),(aas,.val bV),(aaq,.val nb),(aam,.val (.str acc)),([120],.val (.int y)),(aar,.val (.str (kd d).text)),(aap,.val (.bool (kd d).bar)),(aao,.val (bn (kd d).rngs)),(aay,.val (.int (.ofNat 3)))] [] (at_ dB 2)=some (.next,[(aan,.val scr),(aas,.val bV),(aaq,.val nb),(aam,.val (.str acc)),([120],.val (.int y)),(aar,.val (.str (kd d).text)),(aap,.val (.bool (kd d).bar)),(aao,.val (bn (kd d).rngs)),(aay,.val (.int (.ofNat 3))),(aaw,.val (.str (dW d 3 v)))],[]):=by
 refine aa (ec) (aa (eV (v:=false) (by rfl')) ((aR (ρ1:=[(aan,.val scr),(aas,.val bV),(aaq,.val nb),(aam,.val (.str acc)),([120],.val (.int y)),(aar,.val (.str (kd d).text)),(aap,.val (.bool (kd d).bar)),(aao,.val (bn (kd d).rngs)),(aay,.val (.int (.ofNat 3))),(aaw,.val (.str (dW d 3 v)))]) (σ1:=[]) ?_).trans (by rfl')));refine aa (eV (v:=true) (by rfl')) ((aR (ρ1:=[(aan,.val scr),(aas,.val bV),(aaq,.val nb),(aam,.val (.str acc)),([120],.val (.int y)),(aar,.val (.str (kd d).text)),(aap,.val (.bool (kd d).bar)),(aao,.val (bn (kd d).rngs)),(aay,.val (.int (.ofNat 3))),(aaw,.val (.str (dW d 3 v)))]) (σ1:=[]) ?_).trans (by rfl'));exact eC (by rfl') trivial (fG (a:=.str oJ) (x:=.int (.ofNat v)) trivial (by rfl') (eJ (a:=.int (y.fdiv 80)) (b:=.int 8) (eJ (a:=.int y) (b:=.int 80) (by rfl') (by rfl') (by rfl')) (by rfl') (l8 h)) (AP v hv)) (by rfl')
theorem ND(n:Nat)(scr nb:AV)(acc:List Nat)(y:Int)(v:Nat)(s0:List Nat):∀d,d<20->pex (n+30) cD [(aan,.val scr),(aas,.val bV),(aaq,.val nb),(aam,.val (.str acc)),([120],.val (.int y)),(aar,.val (.str (kd d).text)),(aap,.val (.bool (kd d).bar)),(aao,.val (bn (kd d).rngs)),(aay,.val (.int (.ofNat 0))),(aaw,.val (.str s0))] [] (at_ dB 2)=some (.next,[(aan,.val scr),(aas,.val bV),(aaq,.val nb),(aam,.val (.str acc)),([120],.val (.int y)),(aar,.val (.str (kd d).text)),(aap,.val (.bool (kd d).bar)),(aao,.val (bn (kd d).rngs)),(aay,.val (.int (.ofNat 0))),(aaw,.val (.str (dW d 0 v)))],[])
 | 0,_=>by rfl'
 | 1,_=>by rfl'
 | 2,_=>by rfl'
 | 3,_=>by rfl'
 | 4,_=>by rfl'
 | 5,_=>by rfl'
 | 6,_=>by rfl'
 | 7,_=>by rfl'
 | 8,_=>by rfl'
 | 9,_=>by rfl'
 | 10,_=>by rfl'
 | 11,_=>by rfl'
 | 12,_=>by rfl'
 | 13,_=>by rfl'
 | 14,_=>by rfl'
 | 15,_=>by rfl'
 | 16,_=>by rfl'
 | 17,_=>by rfl'
 | 18,_=>by rfl'
 | 19,_=>by rfl'
 | n+20,h=>absurd h (by exact iK)
theorem NE(n:Nat)(scr nb:AV)(acc:List Nat)(y:Int)(v:Nat)(s0:List Nat):∀d,d<20->pex (n+30) cD [(aan,.val scr),(aas,.val bV),(aaq,.val nb),(aam,.val (.str acc)),([120],.val (.int y)),(aar,.val (.str (kd d).text)),(aap,.val (.bool (kd d).bar)),(aao,.val (bn (kd d).rngs)),(aay,.val (.int (.ofNat 1))),(aaw,.val (.str s0))] [] (at_ dB 2)=some (.next,[(aan,.val scr),(aas,.val bV),(aaq,.val nb),(aam,.val (.str acc)),([120],.val (.int y)),(aar,.val (.str (kd d).text)),(aap,.val (.bool (kd d).bar)),(aao,.val (bn (kd d).rngs)),(aay,.val (.int (.ofNat 1))),(aaw,.val (.str (dW d 1 v)))],[])
 | 0,_=>by rfl'
 | 1,_=>by rfl'
 | 2,_=>by rfl'
 | 3,_=>by rfl'
 | 4,_=>by rfl'
 | 5,_=>by rfl'
 | 6,_=>by rfl'
 | 7,_=>by rfl'
 | 8,_=>by rfl'
 | 9,_=>by rfl'
 | 10,_=>by rfl'
 | 11,_=>by rfl'
 | 12,_=>by rfl'
 | 13,_=>by rfl'
 | 14,_=>by rfl'
 | 15,_=>by rfl'
 | 16,_=>by rfl'
 | 17,_=>by rfl'
 | 18,_=>by rfl'
 | 19,_=>by rfl'
 | n+20,h=>absurd h (by exact iK)
theorem NF(n:Nat)(scr nb:AV)(acc:List Nat)(y:Int)(v:Nat)(s0:List Nat):∀d,d<20->pex (n+30) cD [(aan,.val scr),(aas,.val bV),(aaq,.val nb),(aam,.val (.str acc)),([120],.val (.int y)),(aar,.val (.str (kd d).text)),(aap,.val (.bool (kd d).bar)),(aao,.val (bn (kd d).rngs)),(aay,.val (.int (.ofNat 2))),(aaw,.val (.str s0))] [] (at_ dB 2)=some (.next,[(aan,.val scr),(aas,.val bV),(aaq,.val nb),(aam,.val (.str acc)),([120],.val (.int y)),(aar,.val (.str (kd d).text)),(aap,.val (.bool (kd d).bar)),(aao,.val (bn (kd d).rngs)),(aay,.val (.int (.ofNat 2))),(aaw,.val (.str (dW d 2 v)))],[])
 | 0,_=>by rfl'
 | 1,_=>by rfl'
 | 2,_=>by rfl'
 | 3,_=>by rfl'
 | 4,_=>by rfl'
 | 5,_=>by rfl'
 | 6,_=>by rfl'
 | 7,_=>by rfl'
 | 8,_=>by rfl'
 | 9,_=>by rfl'
 | 10,_=>by rfl'
 | 11,_=>by rfl'
 | 12,_=>by rfl'
 | 13,_=>by rfl'
 | 14,_=>by rfl'
 | 15,_=>by rfl'
 | 16,_=>by rfl'
 | 17,_=>by rfl'
 | 18,_=>by rfl'
 | 19,_=>by rfl'
 | n+20,h=>absurd h (by exact iK)
theorem NG(n:Nat)(scr nb:AV)(acc:List Nat)(y:Int)(v:Nat)(s0:List Nat)(d:Nat)(hv:v<8)(h:(y.fdiv 80).fmod 8=.ofNat v):pex (n+30) cD [(aan,.val scr),(aas,.val bV),(aaq,.val nb),(aam,.val (.str acc)),([120],.val (.int y)),(aar,.val (.str (kd d).text)),(aap,.val (.bool (kd d).bar)),(aao,.val (bn (kd d).rngs)),(aay,.val (.int (.ofNat 3))),(aaw,.val (.str s0))] [] (at_ dB 2)=some (.next,[(aan,.val scr),(aas,.val bV),(aaq,.val nb),(aam,.val (.str acc)),([120],.val (.int y)),(aar,.val (.str (kd d).text)),(aap,.val (.bool (kd d).bar)),(aao,.val (bn (kd d).rngs)),(aay,.val (.int (.ofNat 3))),(aaw,.val (.str (dW d 3 v)))],[]):=by
 refine aa (ec) (aa (eV (v:=false) (by rfl')) ((aR (ρ1:=[(aan,.val scr),(aas,.val bV),(aaq,.val nb),(aam,.val (.str acc)),([120],.val (.int y)),(aar,.val (.str (kd d).text)),(aap,.val (.bool (kd d).bar)),(aao,.val (bn (kd d).rngs)),(aay,.val (.int (.ofNat 3))),(aaw,.val (.str (dW d 3 v)))]) (σ1:=[]) ?_).trans (by rfl')));refine aa (eV (v:=true) (by rfl')) ((aR (ρ1:=[(aan,.val scr),(aas,.val bV),(aaq,.val nb),(aam,.val (.str acc)),([120],.val (.int y)),(aar,.val (.str (kd d).text)),(aap,.val (.bool (kd d).bar)),(aao,.val (bn (kd d).rngs)),(aay,.val (.int (.ofNat 3))),(aaw,.val (.str (dW d 3 v)))]) (σ1:=[]) ?_).trans (by rfl'));exact eC (by rfl') trivial (fG (a:=.str oJ) (x:=.int (.ofNat v)) trivial (by rfl') (eJ (a:=.int (y.fdiv 80)) (b:=.int 8) (eJ (a:=.int y) (b:=.int 80) (by rfl') (by rfl') (by rfl')) (by rfl') (l8 h)) (AP v hv)) (by rfl')
theorem e3:at_ dB 3=.Assign [.Name (eA (at_ dB 3)) (dq (at_ dB 3))] (.BinOp (aI (ay (at_ dB 3))) .Add (bj (ay (at_ dB 3))) (bl (ay (at_ dB 3)))) (du (at_ dB 3)):=by rfl'
theorem AQ(n:Nat)(scr nb:AV)(acc:List Nat)(y:Int)(d w:Nat)(s:List Nat)(h:(acc++s).length<=aD):pex (n+10) cD (rB scr nb acc y d w s) [] (at_ dB 3)=some (.next,rB scr nb (acc++s) y d w s,[]):=by
 exact aa (e3) (eC (by rfl') trivial (eJ (a:=.str acc) (b:=.str s) (by rfl') (by rfl') (jy h)) (by rfl'))
theorem AR:dB=[at_ dB 0,at_ dB 1,at_ dB 2,at_ dB 3]:=by rfl'
theorem NH(v:Nat):((Xr 20).all λd=>(Xr 4).all λw=>YG (dW d w v).length 2)=true:=by rfl'
theorem u7(d w v:Nat)(hd:d<20)(hw:w<4):(dW d w v).length<=2:=Xn (YP.mp (YP.mp (NH v) d (Ye.mpr hd)) w (Ye.mpr hw))
theorem NI(n:Nat)(scr nb:AV)(acc:List Nat)(y:Int)(d w v:Nat)(hd:d<20)(hw:w<4)(hv:v<8)(h1:y.fmod 20=.ofNat d)(h2:(y.fdiv 20).fmod 4=.ofNat w)(h3:(y.fdiv 80).fmod 8=.ofNat v)(hl:acc.length<=100) :
  pst (n+40) cD [(aan,.val scr),(aas,.val bV),(aaq,.val nb),(aam,.val (.str acc)),([120],.val (.int y))] [] dB=some (.next,rB scr nb (acc++dW d w v) y d w (dW d w v),[]):=by
 have hs:=u7 d w v hd hw;have hm:aD=4096:=rfl;rw[AR];refine(aR (Nv (n+29) scr nb acc y d hd h1)).trans ((aR (Nw (n+28) scr nb acc y d w h2)).trans ?_);refine ZY (aR (ρ1:=rB scr nb acc y d w (dW d w v)) (σ1:=[]) ?_) ((aR (AQ (n+26) scr nb acc y d w (dW d w v) (by rw[Om];exact FQ hl hs hm))).trans (by rfl'))
 match w,hw with
 | 0,_=>exact Nz (n+7) scr nb acc y v d hd
 | 1,_=>exact NA (n+7) scr nb acc y v d hd
 | 2,_=>exact NB (n+7) scr nb acc y v d hd
 | 3,_=>exact NC (n+7) scr nb acc y v d hv h3
theorem NJ(n:Nat)(scr nb:AV)(acc:List Nat)(y x:Int)(d0 w0:Nat)(s0:List Nat)(d w v:Nat)(hd:d<20)(hw:w<4)(hv:v<8)(h1:y.fmod 20=.ofNat d)(h2:(y.fdiv 20).fmod 4=.ofNat w)(h3:(y.fdiv 80).fmod 8=.ofNat v)(hl:acc.length<=100) :
  pst (n+40) cD [(aan,.val scr),(aas,.val bV),(aaq,.val nb),(aam,.val (.str acc)),([120],.val (.int y)),(aar,.val (.str (kd d0).text)),(aap,.val (.bool (kd d0).bar)),(aao,.val (bn (kd d0).rngs)),(aay,.val (.int (.ofNat w0))),(aaw,.val (.str s0))] [] dB=some (.next,rB scr nb (acc++dW d w v) y d w (dW d w v),[]):=by
 have hs:=u7 d w v hd hw;have hm:aD=4096:=rfl;rw[AR];refine(aR (Nx (n+29) scr nb acc y d x d0 w0 s0 hd h1)).trans ((aR (Ny (n+28) scr nb acc y d w x d0 w0 s0 h2)).trans ?_);refine ZY (aR (ρ1:=rB scr nb acc y d w (dW d w v)) (σ1:=[]) ?_) ((aR (AQ (n+26) scr nb acc y d w (dW d w v) (by rw[Om];omega))).trans (by rfl'))
 match w,hw with
 | 0,_=>exact ND (n+7) scr nb acc y v s0 d hd
 | 1,_=>exact NE (n+7) scr nb acc y v s0 d hd
 | 2,_=>exact NF (n+7) scr nb acc y v s0 d hd
 | 3,_=>exact NG (n+7) scr nb acc y v s0 d hv h3
noncomputable def jb(y:Int):Nat:=(y.fmod 20).toNat
noncomputable def oK(y:Int):Nat:=((y.fdiv 20).fmod 4).toNat
noncomputable def NK(y:Int):Nat:=((y.fdiv 80).fmod 8).toNat
theorem fq(y:Int)(k:Nat)(hk:0<k):y.fmod (.ofNat k)=.ofNat (y.fmod (.ofNat k)).toNat/\(y.fmod (.ofNat k)).toNat<k:=by
 have h0:0<=y.fmod (.ofNat k):=Int.fmod_nonneg_of_pos y (by show(0:Int)<(k:Int);exact w7 hk);have h1:y.fmod (.ofNat k)<(.ofNat k):=Int.fmod_lt_of_pos y (by show(0:Int)<(k:Int);exact w7 hk);constructor
 ·show _=((y.fmod (.ofNat k)).toNat:Int);exact Hz h0
 ·have:(Int.ofNat k)=(k:Int):=rfl;omega
noncomputable def eZ(y:Int):List Nat:=dW (jb y) (oK y) (NK y)
noncomputable def qP(n:Nat):AV->ai->S->Option (bG×ai×S):=λt ρ σ=>bo (eG cD.sc (gN (au 19 4)) t ρ) λρ1=>pst n cD ρ1 σ dB
theorem NL(n:Nat)(scr nb:AV)(acc:List Nat)(y:Int)(hl:acc.length<=100):qP (n+40) (.int y) (rA scr nb acc) []=some (.next,rB scr nb (acc++eZ y) y (jb y) (oK y) (eZ y),[]):=
 NI n scr nb acc y _ _ _ (fq y 20 (by decide)).2 (fq _ 4 (by decide)).2 (fq _ 8 (by decide)).2 (fq y 20 (by decide)).1 (fq _ 4 (by decide)).1 (fq _ 8 (by decide)).1 hl
theorem NM(n:Nat)(scr nb:AV)(acc:List Nat)(y x:Int)(d0 w0:Nat)(s0:List Nat)(hl:acc.length<=100):qP (n+40) (.int y) (rB scr nb acc x d0 w0 s0) []=some (.next,rB scr nb (acc++eZ y) y (jb y) (oK y) (eZ y),[]):=
 NJ n scr nb acc y x d0 w0 s0 _ _ _ (fq y 20 (by decide)).2 (fq _ 4 (by decide)).2 (fq _ 8 (by decide)).2 (fq y 20 (by decide)).1 (fq _ 4 (by decide)).1 (fq _ 8 (by decide)).1 hl
theorem AS(y:Int):(eZ y).length<=2:=u7 _ _ _ (fq y 20 (by decide)).2 (fq _ 4 (by decide)).2
theorem AT(n:Nat)(scr nb:AV):∀(ys:List Int)(acc:List Nat)(x:Int)(d0 w0:Nat)(s0:List Nat),acc.length+2 * ys.length<=100->
  ∃x' d' w' s',gn (qP (n+40)) (ys.map AV.int) (rB scr nb acc x d0 w0 s0) []=some (.next,rB scr nb (acc++ys.flatMap eZ) x' d' w' s',[])
 | [],acc,x,d0,w0,s0,_=>⟨x,d0,w0,s0,by rw[List.flatMap_nil,Yc];rfl⟩
 | y::ys,acc,x,d0,w0,s0,h=>by
  have:=AS y;rw[W5]at h;refine jh (AT n scr nb ys (acc++eZ y) y (jb y) (oK y) (eZ y) (by rw[Om];omega)) λx' d' w' s' e=>?_;refine⟨x',d',w',s',?_⟩;rw[YE,l6 (NM n scr nb acc y x d0 w0 s0 (by exact HA h)),e,List.flatMap_cons,XO]
theorem NN:bt (am 19)=[au 19 0,au 19 1,au 19 2,au 19 3,au 19 4,au 19 5]:=by rfl'
theorem NO:au 19 4=.For (gN (au 19 4)) (m7 (au 19 4)) dB [] (oE (au 19 4)):=by rfl'
noncomputable def rE:Expr:=cW (au 19 5)
noncomputable def rT:List Expr:=match rE with | .Tuple l _ _=>l | _=>[]
noncomputable def rC:Expr:=rT.getD 0 e0
noncomputable def rS:Expr:=rT.getD 1 e0
noncomputable def rK:Nat:=match rE with | .Tuple _ k _=>k | _=>0
noncomputable def NP:Pos:=match rE with | .Tuple _ _ p=>p | _=>default
theorem NQ:au 19 5=.Return (some (.Tuple [.ListComp (.Subscript (cY (bw rC)) (.BinOp (aI (dj (bw rC))) .Mod (bj (dj (bw rC))) (bl (dj (bw rC)))) (eH (bw rC))) [⟨fh rC,fj rC,[],0⟩] (fk rC) (fm rC),rS] rK NP)) (jE (au 19 5)):=by rfl'
theorem NR(n:Nat)(scr:AV)(ys:List Int)(nm':List Nat)(x:Int)(d w:Nat)(s:List Nat):pex (n+20) cD (rB scr (.lst (ys.map AV.int)) nm' x d w s) [] (au 19 5)=some (.ret (.val (.tup [.lst (ys.map λy=>(kd (jb y)).av),.str (nm'.take 6)])),rB scr (.lst (ys.map AV.int)) nm' x d w s,[]):=by
 rw[NQ];refine jF (Nm (fo (it:=.val (.lst (ys.map AV.int))) (ts:=ys.map AV.int) (ρ0:=[(aas,.val bV)]) (by rfl') (by rfl') (by rfl') (by rfl') (kc (h:=λy=>(kd (jb y)).av) (by rfl') λy _=>(ah ([(aas,.val bV),([120],.val (.int y))]) (by rfl') ?_))) (by rfl'));have h:=fq y 20 (by decide);exact fG (a:=bV) (x:=.int (.ofNat (jb y))) trivial (by rfl') (eJ (a:=.int y) (b:=.int 20) (by rfl') (by rfl') (l8 h.1)) (u6 _ h.2)
theorem NS(xs:List Int):bJ T1 0 [] 100 (am 19) [.lst (xs.map AV.int)]=some (.tup [.lst ((cK xs).map λy=>(kd (jb y)).av),.str (((cK xs).flatMap eZ).take 6)]):=by
 refine aw (AL xs) λh8 h2=>?_;have hr:∃y ys,cK xs=y::ys:=by
  cases e:cK xs with
  | nil=>rw[e]at h2;simp at h2
  | cons y ys=>exact(dZ y ys rfl)
 refine iH hr λy ys e=>?_;have hs:=AS y;rw[e,W5]at h8;refine jh (AT 54 (.lst (xs.map AV.int)) (.lst ((cK xs).map AV.int)) ys (eZ y) y (jb y) (oK y) (eZ y) (by exact Ge h8 hs)) λx' d' w' s' hl=>?_;have key:pst 100 cD [(aan,.val (.lst (xs.map AV.int)))] [] (bt (am 19))=some (.ret (.val (.tup [.lst ((cK xs).map λy=>(kd (jb y)).av),.str (((cK xs).flatMap eZ).take 6)])),rB (.lst (xs.map AV.int)) (.lst ((cK xs).map AV.int)) ((cK xs).flatMap eZ) x' d' w' s',[]):=by
  rw[NN];refine(aR (No 89 xs)).trans ((aR (Nq 88 xs)).trans ((aR (Nt 87 xs)).trans ((aR (Nu 86 xs)).trans ?_)));refine ZY (aR (ρ1:=rB (.lst (xs.map AV.int)) (.lst ((cK xs).map AV.int)) ((cK xs).flatMap eZ) x' d' w' s') (σ1:=[]) ?_) ?_
  ·rw[NO];refine qM (v:=.val (.lst ((cK xs).map AV.int))) (ts:=(cK xs).map AV.int) (by rfl') (by rfl') ?_;show gn (qP 94) ((cK xs).map AV.int) (rA (.lst (xs.map AV.int)) (.lst ((cK xs).map AV.int)) []) []=_;rw[show(cK xs).map AV.int=.int y::ys.map AV.int from by rw[e];rfl];refine(l6 (NL 54 _ _ [] y (Y4 _))).trans ?_;rw[<-show(cK xs).map AV.int=.int y::ys.map AV.int from by rw[e];rfl];rw[show(cK xs).flatMap eZ=eZ y++ys.flatMap eZ from by rw[e];rfl];exact hl
  ·exact i9 (NR 74 (.lst (xs.map AV.int)) (cK xs) ((cK xs).flatMap eZ) x' d' w' s')
 exact qN (by rfl') (by rfl') key rfl
noncomputable def cM:aH:={tab:=T0,sc:=aF (am 20),own:=[],gen:=0}
noncomputable abbrev aP(R:List Bool):AV:=.lst (R.map AV.bool)
noncomputable def bz(d:Nat):Bool:=match (kd d).text with
 | 42::_=>true
 | _=>false
noncomputable def bg(k:k8)(c:Nat):Bool:=(k.rngs.any λq=>gk [q.1] [c]&&gk [c] [q.2]) != k.bar
noncomputable def fu(nm':List Nat):List Bool:=(Xr (nm'.length+1)).map λk=>k==0
noncomputable def bu(nm':List Nat)(R:List Bool)(d:Nat):List Bool:=match bz d with
 | true=>(Xr R.length).map λk=>(R.take (k+1)).any id
 | false=>false::(Xr nm'.length).map λk=>R.getD k false&&(nm'.map (bg (kd d))).getD k false
noncomputable abbrev mB:List Stmt:=hK (au 20 1)
theorem NT:au 20 0=.Assign [.Name (eA (au 20 0)) (dq (au 20 0))] (.ListComp (.Compare (aI (bw (ay (au 20 0)))) [.Eq] [bj (bw (ay (au 20 0)))] (bl (bw (ay (au 20 0))))) [⟨fh (ay (au 20 0)),fj (ay (au 20 0)),[],0⟩] (fk (ay (au 20 0))) (fm (ay (au 20 0)))) (du (au 20 0)):=by rfl'
theorem NU(k:Nat):lE (.int (.ofNat k)) (.int 0)=some (k==0):=by
 cases k<;>rfl
theorem NV(n:Nat)(its:AV)(nm':List Nat)(h:nm'.length<=100):pex (n+20) cM [(aat,.val its),(aam,.val (.str nm'))] [] (au 20 0)=some (.next,[(aat,.val its),(aam,.val (.str nm')),(aau,.val (aP (fu nm')))],[]):=by
 refine aa (NT) (eC (by rfl') trivial (fo (it:=.rng 0 (.ofNat (nm'.length+1)) 1) (ts:=(Xr (nm'.length+1)).map λi=>AV.int (.ofNat i)) (ρ0:=[]) (by rfl') (by rfl') (l7 (by exact wC h)) (by rfl') (m9 (f:=λk=>k==0) (by rfl') λk _=>(ah ([([107],.val (.int (.ofNat k)))]) (by rfl') (lc (a:=.int (.ofNat k)) (b:=.int 0) (by rfl') (by rfl') (NU k))))) (by rfl'))
theorem NW:au 20 1=.For (gN (au 20 1)) (m7 (au 20 1)) mB [] (oE (au 20 1)):=by rfl'
theorem NX(its:AV)(nm':List Nat)(R:List Bool)(d:Nat):eG cM.sc (gN (au 20 1)) (kd d).av [(aat,.val its),(aam,.val (.str nm')),(aau,.val (aP R))]=some [(aat,.val its),(aam,.val (.str nm')),(aau,.val (aP R)),(aar,.val (.str (kd d).text)),(aap,.val (.bool (kd d).bar)),(aao,.val (bn (kd d).rngs))]:=by rfl'
theorem NY(its:AV)(nm':List Nat)(R:List Bool)(d0:Nat)(d:Nat):eG cM.sc (gN (au 20 1)) (kd d).av [(aat,.val its),(aam,.val (.str nm')),(aau,.val (aP R)),(aar,.val (.str (kd d0).text)),(aap,.val (.bool (kd d0).bar)),(aao,.val (bn (kd d0).rngs))]=some [(aat,.val its),(aam,.val (.str nm')),(aau,.val (aP R)),(aar,.val (.str (kd d).text)),(aap,.val (.bool (kd d).bar)),(aao,.val (bn (kd d).rngs))]:=by rfl'
theorem AU(n:Nat)(its:AV)(nm':List Nat)(R:List Bool):∀d,d<20->pt (n+10) cM [(aat,.val its),(aam,.val (.str nm')),(aau,.val (aP R)),(aar,.val (.str (kd d).text)),(aap,.val (.bool (kd d).bar)),(aao,.val (bn (kd d).rngs))] [] (aV (at_ mB 0))=some (bz d,[])
 | 0,_=>by rfl'
 | 1,_=>by rfl'
 | 2,_=>by rfl'
 | 3,_=>by rfl'
 | 4,_=>by rfl'
 | 5,_=>by rfl'
 | 6,_=>by rfl'
 | 7,_=>by rfl'
 | 8,_=>by rfl'
 | 9,_=>by rfl'
 | 10,_=>by rfl'
 | 11,_=>by rfl'
 | 12,_=>by rfl'
 | 13,_=>by rfl'
 | 14,_=>by rfl'
 | 15,_=>by rfl'
 | 16,_=>by rfl'
 | 17,_=>by rfl'
 | 18,_=>by rfl'
 | 19,_=>by rfl'
 | n+20,h=>absurd h (by exact iK)
theorem oM(its:AV)(nm':List Nat)(R:List Bool)(d0:Nat)(f0:List Bool)(d:Nat):eG cM.sc (gN (au 20 1)) (kd d).av [(aat,.val its),(aam,.val (.str nm')),(aau,.val (aP R)),(aar,.val (.str (kd d0).text)),(aap,.val (.bool (kd d0).bar)),(aao,.val (bn (kd d0).rngs)),(aaF,.val (aP f0))]=some [(aat,.val its),(aam,.val (.str nm')),(aau,.val (aP R)),(aar,.val (.str (kd d).text)),(aap,.val (.bool (kd d).bar)),(aao,.val (bn (kd d).rngs)),(aaF,.val (aP f0))]:=by rfl'
theorem AW(n:Nat)(its:AV)(nm':List Nat)(R:List Bool)(f0:List Bool):∀d,d<20->pt (n+10) cM [(aat,.val its),(aam,.val (.str nm')),(aau,.val (aP R)),(aar,.val (.str (kd d).text)),(aap,.val (.bool (kd d).bar)),(aao,.val (bn (kd d).rngs)),(aaF,.val (aP f0))] [] (aV (at_ mB 0))=some (bz d,[])
 | 0,_=>by rfl'
 | 1,_=>by rfl'
 | 2,_=>by rfl'
 | 3,_=>by rfl'
 | 4,_=>by rfl'
 | 5,_=>by rfl'
 | 6,_=>by rfl'
 | 7,_=>by rfl'
 | 8,_=>by rfl'
 | 9,_=>by rfl'
 | 10,_=>by rfl'
 | 11,_=>by rfl'
 | 12,_=>by rfl'
 | 13,_=>by rfl'
 | 14,_=>by rfl'
 | 15,_=>by rfl'
 | 16,_=>by rfl'
 | 17,_=>by rfl'
 | 18,_=>by rfl'
 | 19,_=>by rfl'
 | n+20,h=>absurd h (by exact iK)
noncomputable abbrev sA:Stmt:=at_ (aO (at_ mB 0)) 0
noncomputable abbrev sF:Stmt:=at_ (cB (at_ mB 0)) 0
noncomputable abbrev sR:Stmt:=at_ (cB (at_ mB 0)) 1
theorem AX:sA=.Assign [.Name (eA sA) (dq sA)] (.ListComp (.Compare (aI (bw (ay sA))) [.In] [bj (bw (ay sA))] (bl (bw (ay sA)))) [⟨fh (ay sA),fj (ay sA),[],0⟩] (fk (ay sA)) (fm (ay sA))) (du sA):=by rfl'
theorem NZ(n:Nat)(its:AV)(nm':List Nat)(R:List Bool)(d:Nat)(h:R.length<=100):pex (n+20) cM [(aat,.val its),(aam,.val (.str nm')),(aau,.val (aP R)),(aar,.val (.str (kd d).text)),(aap,.val (.bool (kd d).bar)),(aao,.val (bn (kd d).rngs))] [] sA=some (.next,[(aat,.val its),(aam,.val (.str nm')),(aau,.val (aP ((Xr R.length).map λk=>(R.take (k+1)).any id))),(aar,.val (.str (kd d).text)),(aap,.val (.bool (kd d).bar)),(aao,.val (bn (kd d).rngs))],[]):=by
 refine aa (AX) ?_;refine eC (by rfl') trivial (fo (it:=.rng 0 (.ofNat (R.map AV.bool).length) 1) (ts:=(Xr R.length).map λi=>AV.int (.ofNat i)) (ρ0:=[(aau,.val (aP R))]) (by rfl') (by rfl') (by rw[W7];exact l7 (by exact pD h)) (by rfl')
  (m9 (f:=λk=>(R.take (k+1)).any id) (by rfl') λk _=>(ah ([(aau,.val (aP R)),([107],.val (.int (.ofNat k)))]) (by rfl') (lc (a:=.bool true) (b:=.lst ((R.map AV.bool).take (k+1))) (by rfl') (by rfl') ?_)))) (by rfl')
 rw[<-List.map_take];exact uZ _
theorem N0(n:Nat)(its:AV)(nm':List Nat)(R:List Bool)(d:Nat)(f0:List Bool)(h:R.length<=100):pex (n+20) cM [(aat,.val its),(aam,.val (.str nm')),(aau,.val (aP R)),(aar,.val (.str (kd d).text)),(aap,.val (.bool (kd d).bar)),(aao,.val (bn (kd d).rngs)),(aaF,.val (aP f0))] [] sA=some (.next,[(aat,.val its),(aam,.val (.str nm')),(aau,.val (aP ((Xr R.length).map λk=>(R.take (k+1)).any id))),(aar,.val (.str (kd d).text)),(aap,.val (.bool (kd d).bar)),(aao,.val (bn (kd d).rngs)),(aaF,.val (aP f0))],[]):=by
 refine aa (AX) ?_;refine eC (by rfl') trivial (fo (it:=.rng 0 (.ofNat (R.map AV.bool).length) 1) (ts:=(Xr R.length).map λi=>AV.int (.ofNat i)) (ρ0:=[(aau,.val (aP R))]) (by rfl') (by rfl') (by rw[W7];exact l7 (by exact pD h)) (by rfl')
  (m9 (f:=λk=>(R.take (k+1)).any id) (by rfl') λk _=>(ah ([(aau,.val (aP R)),([107],.val (.int (.ofNat k)))]) (by rfl') (lc (a:=.bool true) (b:=.lst ((R.map AV.bool).take (k+1))) (by rfl') (by rfl') ?_)))) (by rfl')
 rw[<-List.map_take];exact uZ _
noncomputable abbrev fC:Expr:=ay sF
noncomputable abbrev fI:Expr:=aI (aI (bw fC))
noncomputable def N1:Expr->Expr | .Compare l _ _ _=>l | _=>e0
noncomputable def N2:Expr->Expr | .Compare _ _ [r,_] _=>r | _=>e0
noncomputable def N3:Expr->Expr | .Compare _ _ [_,q] _=>q | _=>e0
noncomputable abbrev fT:Expr:=(qL fI).getD 0 e0
theorem AY:sF=.Assign [.Name (eA sF) (dq sF)] (.ListComp (.Compare (.Compare (.ListComp (bw fI) [⟨fh fI,fj fI,[.Compare (N1 fT) [.LtE,.LtE] [N2 fT,N3 fT] (bl fT)],0⟩] (fk fI) (fm fI)) [.NotEq] [bj (aI (bw fC))] (bl (aI (bw fC)))) [.NotEq] [bj (bw fC)] (bl (bw fC))) [⟨fh fC,fj fC,[],0⟩] (fk fC) (fm fC)) (du sF):=by rfl'
theorem N4(L:List AV):lE (.lst L) (.lst [])=some L.isEmpty:=by cases L<;>rfl
theorem AZ(l:List (Nat×Nat))(t:Nat×Nat->Bool):fe .NotEq (.lst ((l.filter t).map λ_=>AV.int 1)) (.lst [])=some (l.any t):=by
 show(lE _ _).map (!·)=_;rw[N4];congr 1;induction l with
 | nil=>rfl
 | cons x l ih=>
  refine aa (List.filter_cons) (aa (List.any_cons) ?_);cases h:t x
  ·rw[if_neg (by simp),Bool.false_or];exact ih
  ·rfl
theorem A0(a b:Bool):fe .NotEq (.bool a) (.bool b)=some (a != b):=rfl
theorem N5(n:Nat)(its:AV)(nm':List Nat)(R:List Bool)(d:Nat):pex (n+30) cM [(aat,.val its),(aam,.val (.str nm')),(aau,.val (aP R)),(aar,.val (.str (kd d).text)),(aap,.val (.bool (kd d).bar)),(aao,.val (bn (kd d).rngs))] [] sF=some (.next,[(aat,.val its),(aam,.val (.str nm')),(aau,.val (aP R)),(aar,.val (.str (kd d).text)),(aap,.val (.bool (kd d).bar)),(aao,.val (bn (kd d).rngs)),(aaF,.val (aP (nm'.map (bg (kd d)))))],[]):=by
 refine aa (AY) ?_;refine eC (by rfl') trivial (fo (it:=.val (.str nm')) (ts:=nm'.map λc=>.str [c]) (ρ0:=[(aap,.val (.bool (kd d).bar)),(aao,.val (bn (kd d).rngs))]) (by rfl') (by rfl') (by rfl') (by rfl')
  (m9 (f:=bg (kd d)) (by rfl') λch _=>(ah ([(aap,.val (.bool (kd d).bar)),(aao,.val (bn (kd d).rngs)),(aaw,.val (.str [ch]))]) (by rfl') ?_))) (by rfl')
 refine lc (a:=.bool ((kd d).rngs.any λq=>gk [q.1] [ch]&&gk [ch] [q.2])) (b:=.bool (kd d).bar) (lc (b:=.lst []) (fo (it:=.val (bn (kd d).rngs)) (ts:=(kd d).rngs.map λq=>.tup [.str [q.1],.str [q.2]]) (ρ0:=[(aaw,.val (.str [ch]))]) (by rfl') (by rfl') (by rfl') (by rfl')
  (oH (h:=λ_=>AV.int 1) (t:=λq=>gk [q.1] [ch]&&gk [ch] [q.2]) (by rfl') λq _=>(de ([(aaw,.val (.str [ch])),([108,111,119],.val (.str [q.1])),([104,105,103,104],.val (.str [q.2]))]) (by rfl') (AJ (a:=.str [q.1]) (b:=.str [ch]) (d:=.str [q.2]) (by rfl') (by rfl') (by rfl') (by rfl') rfl rfl) (λ_=>by rfl')))) (by rfl') (AZ _ _)) (by rfl') (A0 _ _)
theorem N6(n:Nat)(its:AV)(nm':List Nat)(R:List Bool)(d:Nat)(f0:List Bool):pex (n+30) cM [(aat,.val its),(aam,.val (.str nm')),(aau,.val (aP R)),(aar,.val (.str (kd d).text)),(aap,.val (.bool (kd d).bar)),(aao,.val (bn (kd d).rngs)),(aaF,.val (aP f0))] [] sF=some (.next,[(aat,.val its),(aam,.val (.str nm')),(aau,.val (aP R)),(aar,.val (.str (kd d).text)),(aap,.val (.bool (kd d).bar)),(aao,.val (bn (kd d).rngs)),(aaF,.val (aP (nm'.map (bg (kd d)))))],[]):=by
 refine aa (AY) ?_;refine eC (by rfl') trivial (fo (it:=.val (.str nm')) (ts:=nm'.map λc=>.str [c]) (ρ0:=[(aap,.val (.bool (kd d).bar)),(aao,.val (bn (kd d).rngs))]) (by rfl') (by rfl') (by rfl') (by rfl')
  (m9 (f:=bg (kd d)) (by rfl') λch _=>(ah ([(aap,.val (.bool (kd d).bar)),(aao,.val (bn (kd d).rngs)),(aaw,.val (.str [ch]))]) (by rfl') ?_))) (by rfl')
 refine lc (a:=.bool ((kd d).rngs.any λq=>gk [q.1] [ch]&&gk [ch] [q.2])) (b:=.bool (kd d).bar) (lc (b:=.lst []) (fo (it:=.val (bn (kd d).rngs)) (ts:=(kd d).rngs.map λq=>.tup [.str [q.1],.str [q.2]]) (ρ0:=[(aaw,.val (.str [ch]))]) (by rfl') (by rfl') (by rfl') (by rfl')
  (oH (h:=λ_=>AV.int 1) (t:=λq=>gk [q.1] [ch]&&gk [ch] [q.2]) (by rfl') λq _=>(de ([(aaw,.val (.str [ch])),([108,111,119],.val (.str [q.1])),([104,105,103,104],.val (.str [q.2]))]) (by rfl') (AJ (a:=.str [q.1]) (b:=.str [ch]) (d:=.str [q.2]) (by rfl') (by rfl') (by rfl') (by rfl') rfl rfl) (λ_=>by rfl')))) (by rfl') (AZ _ _)) (by rfl') (A0 _ _)
noncomputable abbrev rL:Expr:=bj (ay sR)
noncomputable def qQ:Expr->Expr | .BoolOp _ [l,_] _=>l | _=>e0
noncomputable def qR:Expr->Expr | .BoolOp _ [_,r] _=>r | _=>e0
noncomputable def jd:Expr->Pos | .BoolOp _ _ p=>p | _=>default
theorem N7:sR=.Assign [.Name (eA sR) (dq sR)] (.BinOp (aI (ay sR)) .Add (.ListComp (.BoolOp .And [.Subscript (cY (qQ (bw rL))) (dj (qQ (bw rL))) (eH (qQ (bw rL))),.Subscript (cY (qR (bw rL))) (dj (qR (bw rL))) (eH (qR (bw rL)))] (jd (bw rL))) [⟨fh rL,fj rL,[],0⟩] (fk rL) (fm rL)) (bl (ay sR))) (du sR):=by rfl'
theorem u8{R:List Bool}{k:Nat}(h:k<R.length):R[k]?=some (R.getD k false):=by
 rw[Yb,Xo h];rfl
theorem A5(n:Nat)(its:AV)(nm':List Nat)(R:List Bool)(d:Nat)(f0:List Bool)(h1:nm'.length<=100)(h2:nm'.length<=R.length)(h3:nm'.length<=f0.length):pex (n+30) cM [(aat,.val its),(aam,.val (.str nm')),(aau,.val (aP R)),(aar,.val (.str (kd d).text)),(aap,.val (.bool (kd d).bar)),(aao,.val (bn (kd d).rngs)),(aaF,.val (aP f0))] [] sR=some (.next,[(aat,.val its),(aam,.val (.str nm')),(aau,.val (aP (false::(Xr nm'.length).map λk=>R.getD k false&&f0.getD k false))),(aar,.val (.str (kd d).text)),(aap,.val (.bool (kd d).bar)),(aao,.val (bn (kd d).rngs)),(aaF,.val (aP f0))],[]):=by
 have hm:aD=4096:=rfl;refine aa (N7) ?_;refine eC (by rfl') trivial (eJ (a:=.lst [.bool false]) (b:=aP ((Xr nm'.length).map λk=>R.getD k false&&f0.getD k false)) (v:=aP (false::(Xr nm'.length).map λk=>R.getD k false&&f0.getD k false)) (by rfl') (fo (it:=.rng 0 (.ofNat nm'.length) 1) (ts:=(Xr nm'.length).map λi=>AV.int (.ofNat i)) (ρ0:=[(aaF,.val (aP f0)),(aau,.val (aP R))]) (by rfl') (by rfl') (l7 (by exact pD h1)) (by rfl')
  (m9 (f:=λk=>R.getD k false&&f0.getD k false) (by rfl') λk hk=>(ah ([(aaF,.val (aP f0)),(aau,.val (aP R)),([107],.val (.int (.ofNat k)))]) (by rfl') (Nn (fG (a:=aP R) (x:=.int (.ofNat k)) trivial (by rfl') (by rfl') (qO (u8 (by have:=Ye.mp hk;exact wL h2 this)))) (fG (a:=aP f0) (x:=.int (.ofNat k)) trivial (by rfl') (by rfl') (qO (u8 (by have:=Ye.mp hk;exact wL h3 this)))))))) ?_) (by rfl')
 exact qd (by rw[Om,W7,W7,Yn];simp only[W5,Xq];exact Gf h1 hm)
noncomputable def mA(its:AV)(nm':List Nat)(R:List Bool):ai:=[(aat,.val its),(aam,.val (.str nm')),(aau,.val (aP R))]
noncomputable def qS(its:AV)(nm':List Nat)(R:List Bool)(d:Nat):ai:=[(aat,.val its),(aam,.val (.str nm')),(aau,.val (aP R)),(aar,.val (.str (kd d).text)),(aap,.val (.bool (kd d).bar)),(aao,.val (bn (kd d).rngs))]
noncomputable def mC(its:AV)(nm':List Nat)(R:List Bool)(d:Nat)(f:List Bool):ai:=[(aat,.val its),(aam,.val (.str nm')),(aau,.val (aP R)),(aar,.val (.str (kd d).text)),(aap,.val (.bool (kd d).bar)),(aao,.val (bn (kd d).rngs)),(aaF,.val (aP f))]
noncomputable def oN(its:AV)(nm':List Nat)(R:List Bool)(ρ:ai):Prop:=ρ=mA its nm' R\/(∃d,ρ=qS its nm' R d)\/∃d f,ρ=mC its nm' R d f
noncomputable def u9(n:Nat):AV->ai->S->Option (bG×ai×S):=λt ρ σ=>bo (eG cM.sc (gN (au 20 1)) t ρ) λρ1=>pst n cM ρ1 σ mB
theorem N8{its:AV}{nm':List Nat}{R:List Bool}{ρ:ai}(d:Nat)(h:oN its nm' R ρ):eG cM.sc (gN (au 20 1)) (kd d).av ρ=some (qS its nm' R d)\/∃f,eG cM.sc (gN (au 20 1)) (kd d).av ρ=some (mC its nm' R d f):=by
 rcases h with rfl | ⟨d0,rfl⟩ | ⟨d0,f0,rfl⟩
 ·exact .inl (NX its nm' R d)
 ·exact .inl (NY its nm' R d0 d)
 ·exact .inr ⟨f0,oM its nm' R d0 f0 d⟩
theorem A6(n:Nat){its:AV}{nm':List Nat}{R:List Bool}{ρ:ai}{d:Nat}(hd:d<20)(h1:nm'.length<=50)(h2:R.length=nm'.length+1)(h:ρ=qS its nm' R d\/∃f,ρ=mC its nm' R d f) :
  ∃ρ1,pst (n+40) cM ρ [] mB=some (.next,ρ1,[])/\oN its nm' (bu nm' R d) ρ1:=by
 have key:∀ρ1,pex (n+39) cM ρ [] (at_ mB 0)=some (.next,ρ1,[])->pst (n+40) cM ρ [] mB=some (.next,ρ1,[]):=λρ1 e=>by
  exact aa (show mB=[at_ mB 0] from by rfl') ((aR e).trans rfl)
 have eI:at_ mB 0=.If (aV (at_ mB 0)) [sA] [sF,sR] (eB (at_ mB 0)):=by rfl'
 have hl:(List.map (bg (kd d)) nm').length=nm'.length:=W7 ..;cases hs:bz d with
 | true=>
  rcases h with rfl | ⟨f,rfl⟩
  ·refine(ah (qS its nm' (bu nm' R d) d) (key _ ?_) (.inr (.inl ⟨d,rfl⟩)));refine aa (eI) ((eV (v:=true) ((AU (n+28) its nm' R d hd).trans (by rw[hs]))).trans ?_);unfold bu;exact aa (hs) ((aR (NZ (n+17) its nm' R d (by exact wM h1 h2))).trans rfl)
  ·refine(ah (mC its nm' (bu nm' R d) d f) (key _ ?_) (.inr (.inr (dZ d f rfl))));refine aa (eI) ((eV (v:=true) ((AW (n+28) its nm' R f d hd).trans (by rw[hs]))).trans ?_);unfold bu;exact aa (hs) ((aR (N0 (n+17) its nm' R d f (by exact wM h1 h2))).trans rfl)
 | false=>
  rcases h with rfl | ⟨f,rfl⟩
  ·refine(ah (mC its nm' (bu nm' R d) d (nm'.map (bg (kd d)))) (key _ ?_) (.inr (.inr (dZ d _ rfl))));refine aa (eI) ((eV (v:=false) ((AU (n+28) its nm' R d hd).trans (by rw[hs]))).trans ?_);unfold bu;exact aa (hs) ((aR (N5 (n+7) its nm' R d)).trans ((aR (A5 (n+6) its nm' R d _ (by exact sC h1) (by exact wN h2) (by exact pG hl))).trans rfl))
  ·refine(ah (mC its nm' (bu nm' R d) d (nm'.map (bg (kd d)))) (key _ ?_) (.inr (.inr (dZ d _ rfl))));refine aa (eI) ((eV (v:=false) ((AW (n+28) its nm' R f d hd).trans (by rw[hs]))).trans ?_);unfold bu;exact aa (hs) ((aR (N6 (n+7) its nm' R d f)).trans ((aR (A5 (n+6) its nm' R d _ (by exact sC h1) (by exact wN h2) (by exact pG hl))).trans rfl))
theorem oO(nm':List Nat)(R:List Bool)(d:Nat)(h:R.length=nm'.length+1):(bu nm' R d).length=nm'.length+1:=by
 unfold bu;split
 ·rw[W7,Yn,h]
 ·simp only[W5,W7,Yn]
theorem A7(n:Nat){its:AV}{nm':List Nat}(h1:nm'.length<=50):∀(ds:List Nat)(R:List Bool)(ρ:ai),(∀d∈ds,d<20)->R.length=nm'.length+1->oN its nm' R ρ->
  ∃ρ1,gn (u9 (n+40)) (ds.map λd=>(kd d).av) ρ []=some (.next,ρ1,[])/\oN its nm' (ds.foldl (bu nm') R) ρ1
 | [],R,ρ,_,_,h=>(ah ρ rfl h)
 | d::ds,R,ρ,hd,h2,h=>by
  have hb:=N8 d h;have:∃ρ1,u9 (n+40) (kd d).av ρ []=some (.next,ρ1,[])/\oN its nm' (bu nm' R d) ρ1:=by
   unfold u9;rcases hb with e | ⟨f,e⟩
   ·rw[e];exact A6 n (hd d (Xh ..)) h1 h2 (.inl rfl)
   ·(refine aa e ?_);exact A6 n (hd d (Xh ..)) h1 h2 (.inr ⟨f,rfl⟩)
  exact af this λρ1 e1 s1L=>af (A7 n h1 ds (bu nm' R d) ρ1 (λx hx=>hd x (Xc _ hx)) (oO nm' R d h2) s1L) λρ2 e2 s2L=>(ah ρ2 ((l6 e1).trans e2) s2L)
noncomputable def fY(ds:List Nat)(nm':List Nat):List Bool:=ds.foldl (bu nm') (fu nm')
theorem N9:bt (am 20)=[au 20 0,au 20 1,au 20 2]:=by rfl'
theorem Oa(ds:List Nat)(nm':List Nat)(hd:∀d∈ds,d<20)(h1:nm'.length<=50):bJ T0 0 [] 200 (am 20) [.lst (ds.map λd=>(kd d).av),.str nm']=some (aP (fY ds nm')):=by
 refine af (A7 157 (its:=.lst (ds.map λd=>(kd d).av)) h1 ds (fu nm') (mA (.lst (ds.map λd=>(kd d).av)) nm' (fu nm')) hd (by unfold fu;rw[W7,Yn]) (.inl rfl)) λρ1 e1 s1L=>?_;have h3:pex 197 cM ρ1 [] (au 20 2)=some (.ret (.val (aP (fY ds nm'))),ρ1,[]):=by
  skip;clear hd h1 e1;rcases s1L with rfl | ⟨d,rfl⟩ | ⟨d,f,rfl⟩<;>rfl'
 refine qN (t:=.val (aP (fY ds nm'))) (ρ0:=[(aat,.val (.lst (ds.map λd=>(kd d).av))),(aam,.val (.str nm'))]) (ρ':=ρ1) (σ':=[]) (by rfl') (by rfl') ?_ rfl;refine aa (N9) ((aR (NV 179 _ nm' (by exact sC h1))).trans (ZY (aR (ρ1:=ρ1) (σ1:=[]) ?_) (i9 h3)));exact aa (NW) (qM (v:=.val (.lst (ds.map λd=>(kd d).av))) (by rfl') (by rfl') e1)
noncomputable def tx(d:Nat):List Nat:=([[],[],[97],[98],[92,46],[92,92],[92,10],[46],[91,97,98,93],[91,94,97,93],[91,93,92,45,93],[91,92,45,45,97,93],[40,63,33,41],[46],[91,92,94,98,93],[91,42,63,93],[91,92,91,93],[91,94,93,93],[91,92,92,97,93],[91,94,92,45,45,97,93]]:List (List Nat)).getD d []
noncomputable def gO:List Nat:=[97,98,46,93,45,10,94,122,92,42,63,91]
noncomputable abbrev db(d:Nat)(b:Bool):AV:=.tup [.int (.ofNat (tx d).length),.bool b]
theorem eK{P:Nat->Prop}{d:Nat}(h1:2<=d)(h2:d<20)(p2:P 2)(p3:P 3)(p4:P 4)(p5:P 5)(p6:P 6)(p7:P 7)(p8:P 8)(p9:P 9)(p10:P 10)(p11:P 11)(p12:P 12)(p13:P 13)(p14:P 14)(p15:P 15)(p16:P 16)(p17:P 17)(p18:P 18)(p19:P 19):P d:=
 match d,h1,h2 with
 | 2,_,_=>p2 | 3,_,_=>p3 | 4,_,_=>p4 | 5,_,_=>p5 | 6,_,_=>p6 | 7,_,_=>p7 | 8,_,_=>p8 | 9,_,_=>p9 | 10,_,_=>p10 | 11,_,_=>p11 | 12,_,_=>p12 | 13,_,_=>p13 | 14,_,_=>p14 | 15,_,_=>p15 | 16,_,_=>p16 | 17,_,_=>p17 | 18,_,_=>p18 | 19,_,_=>p19
 | _+20,_,h=>absurd h iK
theorem A8:∀(d:Nat)(rest:List Nat),2<=d->d<20->bJ T0 0 [] 200 (am 21) [.str (tx d++rest),.str []]=some (db d false):=λd rest h1 h2=>
 by apply eK (P:=λd=>bJ T0 0 [] 200 (am 21) [.str (tx d++rest),.str []]=some (db d false)) h1 h2<;>rfl'
theorem Ob:∀(d:Nat)(rest nr:List Nat),2<=d->d<20->bJ T0 0 [] 200 (am 21) [.str (tx d++rest),.str (97::nr)]=some (db d (bg (kd d) 97)):=λd rest nr h1 h2=>
 by apply eK (P:=λd=>bJ T0 0 [] 200 (am 21) [.str (tx d++rest),.str (97::nr)]=some (db d (bg (kd d) 97))) h1 h2<;>rfl'
theorem Oc:∀(d:Nat)(rest nr:List Nat),2<=d->d<20->bJ T0 0 [] 200 (am 21) [.str (tx d++rest),.str (98::nr)]=some (db d (bg (kd d) 98)):=λd rest nr h1 h2=>
 by apply eK (P:=λd=>bJ T0 0 [] 200 (am 21) [.str (tx d++rest),.str (98::nr)]=some (db d (bg (kd d) 98))) h1 h2<;>rfl'
theorem Od:∀(d:Nat)(rest nr:List Nat),2<=d->d<20->bJ T0 0 [] 200 (am 21) [.str (tx d++rest),.str (46::nr)]=some (db d (bg (kd d) 46)):=λd rest nr h1 h2=>
 by apply eK (P:=λd=>bJ T0 0 [] 200 (am 21) [.str (tx d++rest),.str (46::nr)]=some (db d (bg (kd d) 46))) h1 h2<;>rfl'
theorem Oe:∀(d:Nat)(rest nr:List Nat),2<=d->d<20->bJ T0 0 [] 200 (am 21) [.str (tx d++rest),.str (93::nr)]=some (db d (bg (kd d) 93)):=λd rest nr h1 h2=>
 by apply eK (P:=λd=>bJ T0 0 [] 200 (am 21) [.str (tx d++rest),.str (93::nr)]=some (db d (bg (kd d) 93))) h1 h2<;>rfl'
theorem Of:∀(d:Nat)(rest nr:List Nat),2<=d->d<20->bJ T0 0 [] 200 (am 21) [.str (tx d++rest),.str (45::nr)]=some (db d (bg (kd d) 45)):=λd rest nr h1 h2=>
 by apply eK (P:=λd=>bJ T0 0 [] 200 (am 21) [.str (tx d++rest),.str (45::nr)]=some (db d (bg (kd d) 45))) h1 h2<;>rfl'
theorem Og:∀(d:Nat)(rest nr:List Nat),2<=d->d<20->bJ T0 0 [] 200 (am 21) [.str (tx d++rest),.str (10::nr)]=some (db d (bg (kd d) 10)):=λd rest nr h1 h2=>
 by apply eK (P:=λd=>bJ T0 0 [] 200 (am 21) [.str (tx d++rest),.str (10::nr)]=some (db d (bg (kd d) 10))) h1 h2<;>rfl'
theorem Oh:∀(d:Nat)(rest nr:List Nat),2<=d->d<20->bJ T0 0 [] 200 (am 21) [.str (tx d++rest),.str (94::nr)]=some (db d (bg (kd d) 94)):=λd rest nr h1 h2=>
 by apply eK (P:=λd=>bJ T0 0 [] 200 (am 21) [.str (tx d++rest),.str (94::nr)]=some (db d (bg (kd d) 94))) h1 h2<;>rfl'
theorem Oi:∀(d:Nat)(rest nr:List Nat),2<=d->d<20->bJ T0 0 [] 200 (am 21) [.str (tx d++rest),.str (122::nr)]=some (db d (bg (kd d) 122)):=λd rest nr h1 h2=>
 by apply eK (P:=λd=>bJ T0 0 [] 200 (am 21) [.str (tx d++rest),.str (122::nr)]=some (db d (bg (kd d) 122))) h1 h2<;>rfl'
theorem Oj:∀(d:Nat)(rest nr:List Nat),2<=d->d<20->bJ T0 0 [] 200 (am 21) [.str (tx d++rest),.str (92::nr)]=some (db d (bg (kd d) 92)):=λd rest nr h1 h2=>
 by apply eK (P:=λd=>bJ T0 0 [] 200 (am 21) [.str (tx d++rest),.str (92::nr)]=some (db d (bg (kd d) 92))) h1 h2<;>rfl'
theorem Ok:∀(d:Nat)(rest nr:List Nat),2<=d->d<20->bJ T0 0 [] 200 (am 21) [.str (tx d++rest),.str (42::nr)]=some (db d (bg (kd d) 42)):=λd rest nr h1 h2=>
 by apply eK (P:=λd=>bJ T0 0 [] 200 (am 21) [.str (tx d++rest),.str (42::nr)]=some (db d (bg (kd d) 42))) h1 h2<;>rfl'
theorem Ol:∀(d:Nat)(rest nr:List Nat),2<=d->d<20->bJ T0 0 [] 200 (am 21) [.str (tx d++rest),.str (63::nr)]=some (db d (bg (kd d) 63)):=λd rest nr h1 h2=>
 by apply eK (P:=λd=>bJ T0 0 [] 200 (am 21) [.str (tx d++rest),.str (63::nr)]=some (db d (bg (kd d) 63))) h1 h2<;>rfl'
theorem On:∀(d:Nat)(rest nr:List Nat),2<=d->d<20->bJ T0 0 [] 200 (am 21) [.str (tx d++rest),.str (91::nr)]=some (db d (bg (kd d) 91)):=λd rest nr h1 h2=>
 by apply eK (P:=λd=>bJ T0 0 [] 200 (am 21) [.str (tx d++rest),.str (91::nr)]=some (db d (bg (kd d) 91))) h1 h2<;>rfl'
theorem A9(d:Nat)(rest:List Nat)(c:Nat)(nr:List Nat)(h2:2<=d)(hd:d<20)(hc:c∈gO):bJ T0 0 [] 200 (am 21) [.str (tx d++rest),.str (c::nr)]=some (db d (bg (kd d) c)):=by
 simp only[gO,Xk,Xw,or_false]at hc;rcases hc with rfl | rfl | rfl | rfl | rfl | rfl | rfl | rfl | rfl | rfl | rfl | rfl
 ·exact Ob d rest nr h2 hd
 ·exact Oc d rest nr h2 hd
 ·exact Od d rest nr h2 hd
 ·exact Oe d rest nr h2 hd
 ·exact Of d rest nr h2 hd
 ·exact Og d rest nr h2 hd
 ·exact Oh d rest nr h2 hd
 ·exact Oi d rest nr h2 hd
 ·exact Oj d rest nr h2 hd
 ·exact Ok d rest nr h2 hd
 ·exact Ol d rest nr h2 hd
 ·exact On d rest nr h2 hd
noncomputable def cC:aH:={tab:=T0,sc:=aF (am 23),own:=[],gen:=0}
noncomputable abbrev aE(p:List Nat×List Nat):AV:=.tup [.str p.1,.str p.2]
theorem oQ(x:List Nat):ax x x=true:=aW.mpr rfl
theorem Oo:∀(ps:List (List Nat×List Nat)),lE (.lst (ps.map aE)) (.lst (ps.map aE))=some true:=by
 intro ps;show jm (jO 3) (ps.map aE) (ps.map aE)=some true;induction ps with
 | nil=>rfl
 | cons p ps ih=>
  refine ba (x:=jO 3 (aE p) (aE p)) (a:=true) ?_ (ba ih rfl);show bo (some (ax p.1 p.1)) (λx=>bo (bo (some (ax p.2 p.2)) λx=>bo (some true) λy=>some (x&&y)) λy=>some (x&&y))=some true;rw[oQ,oQ];rfl
theorem Op{f m:Nat}(h:m<=4096):jt (.rng (.ofNat f) (.ofNat m) 1)=some ((aac f (m-f)).map λi=>AV.int (.ofNat i))\/8192<f:=by
 by_cases hf:f<=8192
 ·left;have h1:(fK (.ofNat f)&&fK (.ofNat m))=true:=W8.mpr ⟨XB hf,XB (W6 h (by decide))⟩;have h2:(Int.ofNat m-Int.ofNat f).toNat=m-f:=by show((m:Int)-(f:Int)).toNat=m-f;exact Gg
  refine cV (b:=fK (.ofNat f)&&fK (.ofNat m)) h1 (cV (b:=YG (Int.ofNat m-Int.ofNat f).toNat aD) (h2.symm▸XB (W6 (Nat.sub_le ..) h)) ?_);rw[h2,u4]
 ·right;exact Gh hf
theorem Oq{α:Type}(g:Nat->α)(l:List α)(f:Nat)(h:∀k,(hk:k<l.length)->g k=l[k]):(aac f (l.length-f)).map g=l.drop f:=by
 refine List.ext_getElem (by simp) λi h1 h2=>?_;simp only[W7,List.length_range']at h1;rw[ZM,List.getElem_range',List.getElem_drop,Nat.one_mul];exact h _ (by exact HC h1)
noncomputable abbrev cE:Expr:=ay (au 23 0)
theorem Os:bw cE=.Subscript (cY (bw cE)) (dj (bw cE)) (eH (bw cE)):=by rfl'
theorem Ot:au 23 0=.Assign [.Name (eA (au 23 0)) (dq (au 23 0))] (.ListComp (bw cE) [⟨fh cE,fj cE,[],0⟩] (fk cE) (fm cE)) (du (au 23 0)):=by rfl'
theorem Ou{tg elt:Expr}{c:aH}{ρ:ai}{σ:S}{n:Nat}{g h:Nat->AV}(hf:iP tg ρ=true){l:List Nat}(hl:∀x∈l,∃ρ1,eG c.sc tg (g x) ρ=some ρ1/\pe n c ρ1 σ elt=some (.val (h x),σ)):pcomp (n+1) c ρ σ tg [] elt (l.map g)=some (l.map h,σ):=kc hf hl
theorem Ov(n:Nat)(z:Int)(l:List AV)(f:Nat)(hl:l.length<=4096)(hf:f<=l.length):pex (n+20) cC [(aav,.cell 0),(aaI,.val (.int (.ofNat f)))] [⟨some z,l⟩] (au 23 0)=some (.next,[(aav,.cell 0),(aaI,.val (.int (.ofNat f))),(aa1,.val (.lst (l.drop f)))],[⟨some z,l⟩]):=by
 rw[Ot];refine eC (by rfl') trivial (fo (it:=.rng (.ofNat f) (.ofNat l.length) 1) (ts:=(aac f (l.length-f)).map λi=>AV.int (.ofNat i)) (ρ0:=[(aav,.cell 0)]) (by rfl') (by rfl') ((Op hl).resolve_right (by omega)) (by rfl')
  (vs:=l.drop f) ?_) (by rfl')
 rw[<-Oq (λk=>(bP l k).getD .none) l f ?_]
 ·refine Ou (by rfl') λk hk=>(ah ([(aav,.cell 0),([107],.val (.int (.ofNat k)))]) (by rfl') ?_);have hk':k<l.length:=by have:=List.mem_range'.mp hk;omega
  obtain⟨v,hv⟩:∃v,bP l k=some v:=⟨_,u5 hk'⟩;refine aa hv ?_;rw[Os];exact Nl (q:=0) (cl:=⟨some z,l⟩) (x:=.int (.ofNat k)) trivial (by rfl') (by rfl') rfl hv
 ·intro k hk;refine aa (u5 hk) ?_;rfl
noncomputable abbrev cR:Expr:=cW (au 23 1)
theorem Ow:au 23 1=.Return (some (.Compare (.Call (.Attribute (.Name (m8 (aI cR)) (lZ (aI cR))) (l4 (aI cR)) (l5 (aI cR))) [(bx (aI cR)).getD 0 e0] [] (bB (aI cR))) [.Eq] [bj cR] (bl cR))) (jE (au 23 1)):=by rfl'
theorem Ox{z:Int}{l:List AV}{f:Nat}(h:l.length<=4096):iu pM ⟨some z,l⟩ [.int (.ofNat f)]=some (.lst (l.drop f),⟨some z,l.take f⟩):=by
 show(match ax pM pM with
  | true=>match YG l.length aD with | true=>some (.lst (l.drop f),⟨some z,l.take f⟩) | false=>none
  | false=>none:Option (AV×bE))=_
 rw[oQ,XB (show l.length<=aD from h)]
theorem Oy(n:Nat)(z:Int)(ps:List (List Nat×List Nat))(f:Nat)(hl:ps.length<=4096):pex (n+20) cC [(aav,.cell 0),(aaI,.val (.int (.ofNat f))),(aa1,.val (.lst ((ps.map aE).drop f)))] [⟨some z,ps.map aE⟩] (au 23 1)=some (.ret (.val (.bool true)),[(aav,.cell 0),(aaI,.val (.int (.ofNat f))),(aa1,.val (.lst ((ps.map aE).drop f)))],[⟨some z,(ps.map aE).take f⟩]):=by
 rw[Ow];refine jF (AF (a:=.lst ((ps.map aE).drop f)) (b:=.lst ((ps.map aE).drop f)) (σ1:=[⟨some z,(ps.map aE).take f⟩]) (jG (by rfl') (by rfl') (ke (q:=0) (cl:=⟨some z,ps.map aE⟩) (cl':=⟨some z,(ps.map aE).take f⟩) (vs:=[.int (.ofNat f)]) trivial (by rfl') rfl rfl (by rfl') (Ox (by rw[W7];exact hl)))) (by rfl') ?_);rw[<-List.map_drop];exact Oo _
theorem Oz:bt (am 23)=[au 23 0,au 23 1]:=by rfl'
theorem qT(z:Int)(ps:List (List Nat×List Nat))(f:Nat)(hl:ps.length<=4096)(hf:f<=ps.length):hH T0 0 [] 100 (am 23) ⟨some z,ps.map aE⟩ [.int (.ofNat f)]=some (.bool true,⟨some z,(ps.take f).map aE⟩):=by
 refine AI (ρ0:=[(aav,.cell 0),(aaI,.val (.int (.ofNat f)))]) (ρ':=[(aav,.cell 0),(aaI,.val (.int (.ofNat f))),(aa1,.val (.lst ((ps.map aE).drop f)))]) (rest:=[]) (by rfl') (by rfl') ?_;rw[Oz,List.map_take];exact(aR (Ov 79 z (ps.map aE) f (by rw[W7];exact hl) (by rw[W7];exact hf))).trans (i9 (Oy 78 z ps f hl))
section
variable{c:aH}
theorem je{e:Expr}{p:Pos}(h:pe n c ρ σ e=some (.val .none,σ1))(hn:pY e=true:=by rfl'):pex (n+1) c ρ σ (.Expr e p)=some (.next,ρ,σ1):=dz h (cV (b:=true&&pY e) hn rfl)
theorem hU{t:Expr}{b o:List Stmt}{p:Pos}{v:Bool}(h:pt n c ρ σ t=some (v,σ1)):pex (n+1) c ρ σ (.If t b o p)=pst n c ρ σ1 (cond v b o):=bs h rfl
theorem na{t:Expr}{b:List Stmt}{p:Pos}(h:pt n c ρ σ t=some (false,σ1)):pex (n+1) c ρ σ (.While t b [] p)=some (.next,ρ,σ1):=bs (x:=pt n c ρ σ t) h rfl
theorem l9{t:Expr}{b:List Stmt}{p:Pos}(h:pt n c ρ σ t=some (true,σ1))(hb:pst n c ρ σ1 b=some (.next,ρ1,σ2)):pex (n+1) c ρ σ (.While t b [] p)=pex n c ρ1 σ2 (.While t b [] p):=bs (x:=pt n c ρ σ t) h (k9 hb rfl)
theorem Ba{t:Expr}{b:List Stmt}{p:Pos}{v:PV}(h:pt n c ρ σ t=some (true,σ1))(hb:pst n c ρ σ1 b=some (.ret v,ρ1,σ2)):pex (n+1) c ρ σ (.While t b [] p)=some (.ret v,ρ1,σ2):=bs (x:=pt n c ρ σ t) h (k9 hb rfl)
theorem dm{st:Stmt}{r:Option (bG×ai×S)}(h:pex (n+1) c ρ σ st=r):pst (n+2) c ρ σ [st]=r:=by
 cases r with
 | none=>show b3 (pex (n+1) c ρ σ st) _=none;rw[h];rfl
 | some q=>obtain⟨o,ρ1,σ1⟩:=q;exact k9 h (by cases o<;>rfl)
theorem Bb{x:Expr}{p:Pos}{b:Bool}(h:pt n c ρ σ x=some (b,σ1)):pt (n+1) c ρ σ (.UnaryOp .Not x p)=some (!b,σ1):=bs h rfl
theorem qU{f:Expr}{a:List Expr}{k:List Keyword}{p:Pos}{v:AV}{b:Bool}(h:pe n c ρ σ (.Call f a k p)=some (.val v,σ1))(hv:iM v=some b):pt (n+1) c ρ σ (.Call f a k p)=some (b,σ1):=bs h (ba (x:=iM v) hv rfl)
theorem qV{t b o:Expr}{p:Pos}{v:Bool}(h:pt n c ρ σ t=some (v,σ1)):pe (n+1) c ρ σ (.IfExp t b o p)=pe n c ρ σ1 (cond v b o):=bs h (by cases v<;>rfl)
theorem Bc{f:Str}{q p:Pos}{args:List Expr}{vs:List PV}{z:Option (PV×S)}(hd:ax (nm f) eM=false)(h1:aB ρ (nm f)=none)(h2:gm c.sc (nm f)=some .globalImplicit)(h3:pargs n c ρ σ args=some (vs,σ1))(h:sX c.tab σ1 (nm f) vs=z):pe (n+1) c ρ σ (.Call (.Name f q) args [] p)=z:=
 cV (b:=!ax (nm f) eM) (congrArg (!·) hd) (fB h1 (cV (congrArg jT h2) (bs h3 h)))
theorem jf{f:Str}{q p:Pos}{args:List Expr}{vs:List PV}{us:List AV}{r:AV}(hd:ax (nm f) eM=false)(h1:aB ρ (nm f)=none)(h2:gm c.sc (nm f)=some .globalImplicit)(h3:pargs n c ρ σ args=some (vs,σ1))(h4:js (nm f) σ1 vs=none)
  (hc:match vs with | .cell _::_=>False | _=>True)(h5:vals vs=some us)(h6:c.tab.fn (nm f) us=some r):pe (n+1) c ρ σ (.Call (.Name f q) args [] p)=some (.val r,σ1):=
 Bc hd h1 h2 h3 (fB h4 (fB (by rcases vs with _ | ⟨v,ws⟩;rfl;cases v<;>first | rfl | exact hc.elim) (ba h5 (lM h6))))
theorem nc{f:Str}{q p:Pos}{args:List Expr}{k:Nat}{ws:List PV}{us:List AV}{cl cl':bE}{r:AV}(hd:ax (nm f) eM=false)(h1:aB ρ (nm f)=none)(h2:gm c.sc (nm f)=some .globalImplicit)(h3:pargs n c ρ σ args=some (.cell k::ws,σ1))(h4:js (nm f) σ1 (.cell k::ws)=none)
  (hc:bP σ1 k=some cl)(h5:vals ws=some us)(h6:c.tab.cf (nm f) cl us=some (r,cl')):pe (n+1) c ρ σ (.Call (.Name f q) args [] p)=some (.val r,dg σ1 k cl'):=
 Bc hd h1 h2 h3 (fB h4 (lL (x:=sW (.cell k::ws)) (a:=(k,ws)) rfl (ba hc (ba h5 (bs h6 rfl)))))
end
noncomputable def cT:aH:={tab:=T1,sc:=aF (am 24),own:=[],gen:=0}
noncomputable def tB(f:Nat)(x y:List Nat)(g:Bool):ai:=[(aav,.cell 0),(aaI,.val (.int (.ofNat f))),(aax,.val (.str x)),(aam,.val (.str y)),(aaX,.val (.bool g))]
noncomputable def tC(f:Nat)(x y:List Nat)(g:Bool)(k:Nat):ai:=[(aav,.cell 0),(aaI,.val (.int (.ofNat f))),(aax,.val (.str x)),(aam,.val (.str y)),(aaX,.val (.bool g)),([115,105,122,101],.val (.int (.ofNat k)))]
noncomputable abbrev wI:Stmt:=at_ (dw (au 24 0)) 2
noncomputable abbrev iB:List Stmt:=dw wI
noncomputable abbrev i0:Stmt:=at_ iB 0
noncomputable abbrev i1:Stmt:=at_ (cB i0) 0
noncomputable abbrev i2:Stmt:=at_ (cB i1) 0
noncomputable abbrev i3:Stmt:=at_ (cB i2) 0
noncomputable abbrev i4:Stmt:=at_ (cB i3) 0
theorem OA:i0=.If (aV i0) (aO i0) [i1] (eB i0):=by rfl'
theorem OB:i1=.If (aV i1) (aO i1) [i2] (eB i1):=by rfl'
theorem OC:i2=.If (aV i2) (aO i2) [i3] (eB i2):=by rfl'
theorem OD:i3=.If (aV i3) (aO i3) [i4] (eB i3):=by rfl'
theorem OE:i4=.If (aV i4) (aO i4) (cB i4) (eB i4):=by rfl'
theorem OF:iB=[i0]:=by rfl'
theorem oR{z:Int}{l:List AV}{a b:List Nat}(h:l.length<=4096):iu pL ⟨some z,l⟩ [.str a,.str b]=some (.none,⟨some z,l++[aE (a,b)]⟩):=by
 show(match ax pL pL with
  | true=>match YG l.length aD with | true=>some (AV.none,(⟨some z,l++[.tup [.str a,.str b]]⟩:bE)) | false=>none
  | false=>none:Option (AV×bE))=_
 rw[oQ,XB (show l.length<=aD from h)]
noncomputable abbrev j2:Stmt:=at_ (aO i1) 0
noncomputable abbrev hW:Stmt:=at_ (aO j2) 0
noncomputable abbrev j3:Stmt:=at_ (aO i2) 0
noncomputable abbrev hZ:Stmt:=at_ (cB j3) 0
theorem Bd:aO i1=[j2,at_ (aO i1) 1]:=by rfl'
theorem Be:j2=.If (aV j2) [hW] [] (eB j2):=by rfl'
theorem Bf:aO i2=[j3]:=by rfl'
theorem Bg:j3=.If (aV j3) [at_ (aO j3) 0] [hZ,at_ (cB j3) 1] (eB j3):=by rfl'
theorem OG:aO i3=[at_ (aO i3) 0]:=by rfl'
theorem Bh:hW=.Expr (.Call (.Attribute (.Name (m8 (bK hW)) (lZ (bK hW))) (l4 (bK hW)) (l5 (bK hW))) [(bx (bK hW)).getD 0 e0,(bx (bK hW)).getD 1 e0] [] (bB (bK hW))) (j9 hW):=by rfl'
theorem Bj:hZ=.Expr (.Call (.Attribute (.Name (m8 (bK hZ)) (lZ (bK hZ))) (l4 (bK hZ)) (l5 (bK hZ))) [(bx (bK hZ)).getD 0 e0,(bx (bK hZ)).getD 1 e0] [] (bB (bK hZ))) (j9 hZ):=by rfl'
theorem OH(n:Nat)(f:Nat)(x y:List Nat)(g:Bool)(z:Int)(l:List AV):pt (n+10) cT (tB f x y g) [⟨some z,l⟩] (aV i0)=some (ax x [],[⟨some z,l⟩]):=by rfl'
theorem OI(n:Nat)(f:Nat)(x y:List Nat)(g:Bool)(z:Int)(l:List AV):pt (n+10) cT (tB f x y g) [⟨some z,l⟩] (aV i1)=some (ax (x.take 3) aaQ,[⟨some z,l⟩]):=by rfl'
theorem OJ(n:Nat)(f:Nat)(x y:List Nat)(g:Bool)(z:Int)(l:List AV):pt (n+10) cT (tB f x y g) [⟨some z,l⟩] (aV i2)=some (ax (x.take 2) aaN,[⟨some z,l⟩]):=by rfl'
theorem OK(n:Nat)(f:Nat)(x y:List Nat)(g:Bool)(z:Int)(l:List AV):pt (n+10) cT (tB f x y g) [⟨some z,l⟩] (aV i3)=some (ax (x.take 3) aaT,[⟨some z,l⟩]):=by rfl'
theorem OL(n:Nat)(f:Nat)(x y:List Nat)(g:Bool)(z:Int)(l:List AV)(h:Nat):pt (n+10) cT (tB f (h::x) y g) [⟨some z,l⟩] (aV i4)=some (ax [h] [41],[⟨some z,l⟩]):=by rfl'
theorem OM(n:Nat)(f:Nat)(x y:List Nat)(g:Bool)(z:Int)(l:List AV):pt (n+10) cT (tB f x y g) [⟨some z,l⟩] (aV j2)=some (!(ax y []),[⟨some z,l⟩]):=by rfl'
theorem ON(n:Nat)(f:Nat)(x y:List Nat)(g:Bool)(z:Int)(l:List AV):pt (n+10) cT (tB f x y g) [⟨some z,l⟩] (aV j3)=some (ax y [],[⟨some z,l⟩]):=by rfl'
theorem OO(n:Nat)(f:Nat)(x y:List Nat)(g:Bool)(z:Int)(l:List AV):pex (n+10) cT (tB f x y g) [⟨some z,l⟩] (at_ (aO i1) 1)=some (.next,(tB f (x.drop 3) y g),[⟨some z,l⟩]):=by rfl'
theorem OP(n:Nat)(f:Nat)(x y:List Nat)(g:Bool)(z:Int)(l:List AV):pex (n+10) cT (tB f x y g) [⟨some z,l⟩] (at_ (aO j3) 0)=some (.next,(tB f (x.drop 2) y g),[⟨some z,l⟩]):=by rfl'
theorem OQ(n:Nat)(f:Nat)(x y:List Nat)(g:Bool)(z:Int)(l:List AV):pex (n+10) cT (tB f x y g) [⟨some z,l⟩] (at_ (aO i3) 0)=some (.next,(tB f (x.drop 3) y g),[⟨some z,l⟩]):=by rfl'
theorem OR(n:Nat)(f:Nat)(x y:List Nat)(g:Bool)(z:Int)(l:List AV)(c:Nat):pex (n+10) cT (tB f x (c::y) g) [⟨some z,l⟩] (at_ (cB j3) 1)=some (.next,(tB f x y g),[⟨some z,l⟩]):=by rfl'
theorem OS(n:Nat)(f:Nat)(x y:List Nat)(g:Bool)(z:Int)(l:List AV)(c:Nat)(h:l.length<=4096):pex (n+20) cT (tB f x (c::y) g) [⟨some z,l⟩] hW=some (.next,(tB f x (c::y) g),[⟨some z,l++[aE (x,y)]⟩]):=by
 rw[Bh];exact je (jG (by rfl') (by rfl') (ke (q:=0) (cl:=⟨some z,l⟩) (cl':=⟨some z,l++[aE (x,y)]⟩) (vs:=[.str x,.str y]) trivial (by rfl') rfl rfl (by rfl') (oR h)))
theorem OT(n:Nat)(f:Nat)(x y:List Nat)(g:Bool)(z:Int)(l:List AV)(h:l.length<=4096):pex (n+20) cT (tB f x y g) [⟨some z,l⟩] hZ=some (.next,(tB f x y g),[⟨some z,l++[aE (x.drop 2,y)]⟩]):=by
 rw[Bj];exact je (jG (by rfl') (by rfl') (ke (q:=0) (cl:=⟨some z,l⟩) (cl':=⟨some z,l++[aE (x.drop 2,y)]⟩) (vs:=[.str (x.drop 2),.str y]) trivial (by rfl') rfl rfl (by rfl') (oR h)))
theorem OU(n:Nat)(f:Nat)(x y:List Nat)(g:Bool)(k:Nat)(z:Int)(l:List AV):pt (n+10) cT (tC f x y g k) [⟨some z,l⟩] (aV i0)=some (ax x [],[⟨some z,l⟩]):=by rfl'
theorem OV(n:Nat)(f:Nat)(x y:List Nat)(g:Bool)(k:Nat)(z:Int)(l:List AV):pt (n+10) cT (tC f x y g k) [⟨some z,l⟩] (aV i1)=some (ax (x.take 3) aaQ,[⟨some z,l⟩]):=by rfl'
theorem OW(n:Nat)(f:Nat)(x y:List Nat)(g:Bool)(k:Nat)(z:Int)(l:List AV):pt (n+10) cT (tC f x y g k) [⟨some z,l⟩] (aV i2)=some (ax (x.take 2) aaN,[⟨some z,l⟩]):=by rfl'
theorem OX(n:Nat)(f:Nat)(x y:List Nat)(g:Bool)(k:Nat)(z:Int)(l:List AV):pt (n+10) cT (tC f x y g k) [⟨some z,l⟩] (aV i3)=some (ax (x.take 3) aaT,[⟨some z,l⟩]):=by rfl'
theorem OY(n:Nat)(f:Nat)(x y:List Nat)(g:Bool)(k:Nat)(z:Int)(l:List AV)(h:Nat):pt (n+10) cT (tC f (h::x) y g k) [⟨some z,l⟩] (aV i4)=some (ax [h] [41],[⟨some z,l⟩]):=by rfl'
theorem OZ(n:Nat)(f:Nat)(x y:List Nat)(g:Bool)(k:Nat)(z:Int)(l:List AV):pt (n+10) cT (tC f x y g k) [⟨some z,l⟩] (aV j2)=some (!(ax y []),[⟨some z,l⟩]):=by rfl'
theorem O0(n:Nat)(f:Nat)(x y:List Nat)(g:Bool)(k:Nat)(z:Int)(l:List AV):pt (n+10) cT (tC f x y g k) [⟨some z,l⟩] (aV j3)=some (ax y [],[⟨some z,l⟩]):=by rfl'
theorem O1(n:Nat)(f:Nat)(x y:List Nat)(g:Bool)(k:Nat)(z:Int)(l:List AV):pex (n+10) cT (tC f x y g k) [⟨some z,l⟩] (at_ (aO i1) 1)=some (.next,(tC f (x.drop 3) y g k),[⟨some z,l⟩]):=by rfl'
theorem O2(n:Nat)(f:Nat)(x y:List Nat)(g:Bool)(k:Nat)(z:Int)(l:List AV):pex (n+10) cT (tC f x y g k) [⟨some z,l⟩] (at_ (aO j3) 0)=some (.next,(tC f (x.drop 2) y g k),[⟨some z,l⟩]):=by rfl'
theorem O3(n:Nat)(f:Nat)(x y:List Nat)(g:Bool)(k:Nat)(z:Int)(l:List AV):pex (n+10) cT (tC f x y g k) [⟨some z,l⟩] (at_ (aO i3) 0)=some (.next,(tC f (x.drop 3) y g k),[⟨some z,l⟩]):=by rfl'
theorem O4(n:Nat)(f:Nat)(x y:List Nat)(g:Bool)(k:Nat)(z:Int)(l:List AV)(c:Nat):pex (n+10) cT (tC f x (c::y) g k) [⟨some z,l⟩] (at_ (cB j3) 1)=some (.next,(tC f x y g k),[⟨some z,l⟩]):=by rfl'
theorem O5(n:Nat)(f:Nat)(x y:List Nat)(g:Bool)(k:Nat)(z:Int)(l:List AV)(c:Nat)(h:l.length<=4096):pex (n+20) cT (tC f x (c::y) g k) [⟨some z,l⟩] hW=some (.next,(tC f x (c::y) g k),[⟨some z,l++[aE (x,y)]⟩]):=by
 rw[Bh];exact je (jG (by rfl') (by rfl') (ke (q:=0) (cl:=⟨some z,l⟩) (cl':=⟨some z,l++[aE (x,y)]⟩) (vs:=[.str x,.str y]) trivial (by rfl') rfl rfl (by rfl') (oR h)))
theorem O6(n:Nat)(f:Nat)(x y:List Nat)(g:Bool)(k:Nat)(z:Int)(l:List AV)(h:l.length<=4096):pex (n+20) cT (tC f x y g k) [⟨some z,l⟩] hZ=some (.next,(tC f x y g k),[⟨some z,l++[aE (x.drop 2,y)]⟩]):=by
 rw[Bj];exact je (jG (by rfl') (by rfl') (ke (q:=0) (cl:=⟨some z,l⟩) (cl':=⟨some z,l++[aE (x.drop 2,y)]⟩) (vs:=[.str (x.drop 2),.str y]) trivial (by rfl') rfl rfl (by rfl') (oR h)))
theorem qW(cl:bE)(vs:List AV):T1.cf n3 cl vs=hH T0 0 [] 100 (am 23) cl vs:=by rfl'
theorem vc(vs:List AV):T1.fn jX vs=bJ T0 0 [] 200 (am 21) vs:=by rfl'
noncomputable abbrev jc:Stmt:=at_ (aO i4) 0
noncomputable abbrev ja:Stmt:=at_ (aO i0) 1
noncomputable abbrev jr:Stmt:=at_ (aO ja) 0
noncomputable def O7:Expr->Expr | .UnaryOp _ e _=>e | _=>e0
noncomputable def O8:Expr->Pos | .UnaryOp _ _ p=>p | _=>default
noncomputable def bO:Expr->Str | .Name x _=>x | _=>Str.empty
noncomputable def bQ:Expr->Pos | .Name _ p=>p | _=>default
noncomputable def Bk:Expr->Expr | .IfExp t _ _ _=>t | _=>e0
noncomputable def Bl:Expr->Expr | .IfExp _ b _ _=>b | _=>e0
noncomputable def Bm:Expr->Expr | .IfExp _ _ o _=>o | _=>e0
noncomputable def Bn:Expr->Pos | .IfExp _ _ _ p=>p | _=>default
noncomputable abbrev qX:Expr:=O7 (aV jc)
noncomputable abbrev qY:Expr:=Bk (cW jr)
theorem O9:aO i4=[jc,at_ (aO i4) 1]:=by rfl'
theorem Bo:jc=.If (.UnaryOp .Not (.Call (.Name (bO (aJ qX)) (bQ (aJ qX))) (bx qX) [] (bB qX)) (O8 (aV jc))) (aO jc) [] (eB jc):=by rfl'
theorem Bp:aO i0=[at_ (aO i0) 0,ja]:=by rfl'
theorem Bq:ja=.If (aV ja) [jr] [] (eB ja):=by rfl'
theorem Br:jr=.Return (some (.IfExp (.Call (.Name (bO (aJ qY)) (bQ (aJ qY))) (bx qY) [] (bB qY)) (Bl (cW jr)) (Bm (cW jr)) (Bn (cW jr)))) (jE jr):=by rfl'
noncomputable abbrev fH:Stmt:=at_ (cB i4) 0
noncomputable abbrev cg:Stmt:=at_ (cB i4) 1
theorem Pb:cB i4=[fH,cg]:=by rfl'
theorem Bs:fH=.Assign [.Tuple (qJ fH) (qK fH) (dq fH)] (.Call (.Name (bO (aJ (ay fH))) (bQ (aJ (ay fH)))) (bx (ay fH)) [] (bB (ay fH))) (du fH):=by rfl'
theorem Pd(n:Nat)(f:Nat)(x y:List Nat)(g:Bool)(z:Int)(ps:List (List Nat×List Nat))(h:ps.length<=4096)(hf:f<=ps.length):pex (n+20) cT (tB f x y g) [⟨some z,ps.map aE⟩] jc=some (.next,(tB f x y g),[⟨some z,(ps.take f).map aE⟩]):=by
 rw[Bo];refine(hU (v:=false) (Bb (b:=true) (qU (v:=.bool true) (nc (σ1:=[⟨some z,ps.map aE⟩]) (k:=0) (ws:=[.val (.int (.ofNat f))]) (us:=[.int (.ofNat f)]) (cl:=⟨some z,ps.map aE⟩) (cl':=⟨some z,(ps.take f).map aE⟩) (by rfl') (by rfl') (by rfl') (by rfl') (by rfl') rfl rfl ((qW _ _).trans (qT z ps f h hf))) rfl))).trans ?_;rfl
theorem Pe(n:Nat)(f:Nat)(x y:List Nat)(g:Bool)(z:Int)(l:List AV)(c:Nat):pex (n+10) cT (tB f (c::x) y g) [⟨some z,l⟩] (at_ (aO i4) 1)=some (.next,(tB f x y g),[⟨some z,l⟩]):=by rfl'
theorem Pf(n:Nat)(f:Nat)(x y:List Nat)(g:Bool)(z:Int)(l:List AV):pex (n+10) cT (tB f x y g) [⟨some z,l⟩] (at_ (aO i0) 0)=some (.next,(tB f x y false),[⟨some z,l⟩]):=by rfl'
theorem Pg(n:Nat)(f:Nat)(x y:List Nat)(g:Bool)(z:Int)(l:List AV):pt (n+10) cT (tB f x y g) [⟨some z,l⟩] (aV ja)=some (ax y [],[⟨some z,l⟩]):=by rfl'
theorem Ph(n:Nat)(f:Nat)(x y:List Nat)(g:Bool)(z:Int)(ps:List (List Nat×List Nat))(h:ps.length<=4096)(hf:f<=ps.length):pex (n+20) cT (tB f x y g) [⟨some z,ps.map aE⟩] jr=some (.ret (.val (.bool true)),(tB f x y g),[⟨some z,(ps.take f).map aE⟩]):=by
 rw[Br];refine jF ((qV (v:=true) (qU (v:=.bool true) (nc (σ1:=[⟨some z,ps.map aE⟩]) (k:=0) (ws:=[.val (.int (.ofNat f))]) (us:=[.int (.ofNat f)]) (cl:=⟨some z,ps.map aE⟩) (cl':=⟨some z,(ps.take f).map aE⟩) (by rfl') (by rfl') (by rfl') (by rfl') (by rfl') rfl rfl ((qW _ _).trans (qT z ps f h hf))) rfl)).trans ?_)
 rfl'
theorem Pk(n:Nat)(f:Nat)(x y:List Nat)(g:Bool)(z:Int)(l:List AV)(m:Nat)(b:Bool)(h:bJ T0 0 [] 200 (am 21) [.str x,.str y]=some (.tup [.int (.ofNat m),.bool b])):pex (n+20) cT (tB f x y g) [⟨some z,l⟩] fH=some (.next,tC f x y b m,[⟨some z,l⟩]):=by
 rw[Bs];exact oG (xs:=[⟨⟨[115,105,122,101]⟩⟩,⟨⟨aaX⟩⟩]) (vs:=[.int (.ofNat m),.bool b]) (by rfl') (jf (σ1:=[⟨some z,l⟩]) (vs:=[.val (.str x),.val (.str y)]) (us:=[.str x,.str y]) (by rfl') (by rfl') (by rfl') (by rfl') (by rfl') trivial rfl ((vc _).trans h)) (by rfl') (by rfl')
theorem Pl(n:Nat)(f:Nat)(x y:List Nat)(g:Bool)(k:Nat)(z:Int)(ps:List (List Nat×List Nat))(h:ps.length<=4096)(hf:f<=ps.length):pex (n+20) cT (tC f x y g k) [⟨some z,ps.map aE⟩] jc=some (.next,(tC f x y g k),[⟨some z,(ps.take f).map aE⟩]):=by
 rw[Bo];refine(hU (v:=false) (Bb (b:=true) (qU (v:=.bool true) (nc (σ1:=[⟨some z,ps.map aE⟩]) (k:=0) (ws:=[.val (.int (.ofNat f))]) (us:=[.int (.ofNat f)]) (cl:=⟨some z,ps.map aE⟩) (cl':=⟨some z,(ps.take f).map aE⟩) (by rfl') (by rfl') (by rfl') (by rfl') (by rfl') rfl rfl ((qW _ _).trans (qT z ps f h hf))) rfl))).trans ?_;rfl
theorem Pn(n:Nat)(f:Nat)(x y:List Nat)(g:Bool)(k:Nat)(z:Int)(l:List AV)(c:Nat):pex (n+10) cT (tC f (c::x) y g k) [⟨some z,l⟩] (at_ (aO i4) 1)=some (.next,(tC f x y g k),[⟨some z,l⟩]):=by rfl'
theorem Pp(n:Nat)(f:Nat)(x y:List Nat)(g:Bool)(k:Nat)(z:Int)(l:List AV):pex (n+10) cT (tC f x y g k) [⟨some z,l⟩] (at_ (aO i0) 0)=some (.next,(tC f x y false k),[⟨some z,l⟩]):=by rfl'
theorem Pq(n:Nat)(f:Nat)(x y:List Nat)(g:Bool)(k:Nat)(z:Int)(l:List AV):pt (n+10) cT (tC f x y g k) [⟨some z,l⟩] (aV ja)=some (ax y [],[⟨some z,l⟩]):=by rfl'
theorem Pr(n:Nat)(f:Nat)(x y:List Nat)(g:Bool)(k:Nat)(z:Int)(ps:List (List Nat×List Nat))(h:ps.length<=4096)(hf:f<=ps.length):pex (n+20) cT (tC f x y g k) [⟨some z,ps.map aE⟩] jr=some (.ret (.val (.bool true)),(tC f x y g k),[⟨some z,(ps.take f).map aE⟩]):=by
 rw[Br];refine jF ((qV (v:=true) (qU (v:=.bool true) (nc (σ1:=[⟨some z,ps.map aE⟩]) (k:=0) (ws:=[.val (.int (.ofNat f))]) (us:=[.int (.ofNat f)]) (cl:=⟨some z,ps.map aE⟩) (cl':=⟨some z,(ps.take f).map aE⟩) (by rfl') (by rfl') (by rfl') (by rfl') (by rfl') rfl rfl ((qW _ _).trans (qT z ps f h hf))) rfl)).trans ?_)
 rfl'
theorem Pu(n:Nat)(f:Nat)(x y:List Nat)(g:Bool)(k:Nat)(z:Int)(l:List AV)(m:Nat)(b:Bool)(h:bJ T0 0 [] 200 (am 21) [.str x,.str y]=some (.tup [.int (.ofNat m),.bool b])):pex (n+20) cT (tC f x y g k) [⟨some z,l⟩] fH=some (.next,tC f x y b m,[⟨some z,l⟩]):=by
 rw[Bs];exact oG (xs:=[⟨⟨[115,105,122,101]⟩⟩,⟨⟨aaX⟩⟩]) (vs:=[.int (.ofNat m),.bool b]) (by rfl') (jf (σ1:=[⟨some z,l⟩]) (vs:=[.val (.str x),.val (.str y)]) (us:=[.str x,.str y]) (by rfl') (by rfl') (by rfl') (by rfl') (by rfl') trivial rfl ((vc _).trans h)) (by rfl') (by rfl')
theorem Bt(n:Nat)(f:Nat)(x y:List Nat)(g:Bool)(k:Nat)(z:Int)(l:List AV):pex (n+20) cT (tC f x y g k) [⟨some z,l⟩] cg=some (.next,tC f (x.drop k) (y.drop 1) g k,[⟨some z,l⟩]):=by rfl'
noncomputable def bq(f:Nat)(x y:List Nat)(g:Bool)(ρ:ai):Prop:=ρ=tB f x y g\/∃k,ρ=tC f x y g k
section
variable{f:Nat}{x y:List Nat}{g:Bool}
theorem Q0(H:bq f x y g ρ)(n:Nat)(z:Int)(l:List AV):pt (n+10) cT ρ [⟨some z,l⟩] (aV i0)=some ((ax x []),[⟨some z,l⟩]):=by
 rcases H with rfl | ⟨k,rfl⟩
 ·exact OH n f x y g z l
 ·exact OU n f x y g k z l
theorem Q1(H:bq f x y g ρ)(n:Nat)(z:Int)(l:List AV):pt (n+10) cT ρ [⟨some z,l⟩] (aV i1)=some ((ax (x.take 3) aaQ),[⟨some z,l⟩]):=by
 rcases H with rfl | ⟨k,rfl⟩
 ·exact OI n f x y g z l
 ·exact OV n f x y g k z l
theorem Q2(H:bq f x y g ρ)(n:Nat)(z:Int)(l:List AV):pt (n+10) cT ρ [⟨some z,l⟩] (aV i2)=some ((ax (x.take 2) aaN),[⟨some z,l⟩]):=by
 rcases H with rfl | ⟨k,rfl⟩
 ·exact OJ n f x y g z l
 ·exact OW n f x y g k z l
theorem Q3(H:bq f x y g ρ)(n:Nat)(z:Int)(l:List AV):pt (n+10) cT ρ [⟨some z,l⟩] (aV i3)=some ((ax (x.take 3) aaT),[⟨some z,l⟩]):=by
 rcases H with rfl | ⟨k,rfl⟩
 ·exact OK n f x y g z l
 ·exact OX n f x y g k z l
theorem QN(H:bq f x y g ρ)(n:Nat)(z:Int)(l:List AV):pt (n+10) cT ρ [⟨some z,l⟩] (aV j2)=some ((!(ax y [])),[⟨some z,l⟩]):=by
 rcases H with rfl | ⟨k,rfl⟩
 ·exact OM n f x y g z l
 ·exact OZ n f x y g k z l
theorem QM(H:bq f x y g ρ)(n:Nat)(z:Int)(l:List AV):pt (n+10) cT ρ [⟨some z,l⟩] (aV j3)=some ((ax y []),[⟨some z,l⟩]):=by
 rcases H with rfl | ⟨k,rfl⟩
 ·exact ON n f x y g z l
 ·exact O0 n f x y g k z l
theorem QA(H:bq f x y g ρ)(n:Nat)(z:Int)(l:List AV):pt (n+10) cT ρ [⟨some z,l⟩] (aV ja)=some ((ax y []),[⟨some z,l⟩]):=by
 rcases H with rfl | ⟨k,rfl⟩
 ·exact Pg n f x y g z l
 ·exact Pq n f x y g k z l
theorem Q4{h:Nat}(H:bq f (h::x) y g ρ)(n:Nat)(z:Int)(l:List AV):pt (n+10) cT ρ [⟨some z,l⟩] (aV i4)=some (ax [h] [41],[⟨some z,l⟩]):=by
 rcases H with rfl | ⟨k,rfl⟩
 ·exact OL n f x y g z l h
 ·exact OY n f x y g k z l h
theorem A3(H:bq f x y g ρ)(n:Nat)(z:Int)(l:List AV):∃ρ1,pex (n+10) cT ρ [⟨some z,l⟩] (at_ (aO i1) 1)=some (.next,ρ1,[⟨some z,l⟩])/\bq f (x.drop 3) y g ρ1:=by
 rcases H with rfl | ⟨k,rfl⟩
 ·exact(ah _ (OO n f x y g z l) (.inl rfl))
 ·exact(ah _ (O1 n f x y g k z l) (.inr ⟨k,rfl⟩))
theorem A2(H:bq f x y g ρ)(n:Nat)(z:Int)(l:List AV):∃ρ1,pex (n+10) cT ρ [⟨some z,l⟩] (at_ (aO j3) 0)=some (.next,ρ1,[⟨some z,l⟩])/\bq f (x.drop 2) y g ρ1:=by
 rcases H with rfl | ⟨k,rfl⟩
 ·exact(ah _ (OP n f x y g z l) (.inl rfl))
 ·exact(ah _ (O2 n f x y g k z l) (.inr ⟨k,rfl⟩))
theorem A4(H:bq f x y g ρ)(n:Nat)(z:Int)(l:List AV):∃ρ1,pex (n+10) cT ρ [⟨some z,l⟩] (at_ (aO i3) 0)=some (.next,ρ1,[⟨some z,l⟩])/\bq f (x.drop 3) y g ρ1:=by
 rcases H with rfl | ⟨k,rfl⟩
 ·exact(ah _ (OQ n f x y g z l) (.inl rfl))
 ·exact(ah _ (O3 n f x y g k z l) (.inr ⟨k,rfl⟩))
theorem AN{c:Nat}(H:bq f x (c::y) g ρ)(n:Nat)(z:Int)(l:List AV):∃ρ1,pex (n+10) cT ρ [⟨some z,l⟩] (at_ (cB j3) 1)=some (.next,ρ1,[⟨some z,l⟩])/\bq f x y g ρ1:=by
 rcases H with rfl | ⟨k,rfl⟩
 ·exact(ah _ (OR n f x y g z l c) (.inl rfl))
 ·exact(ah _ (O4 n f x y g k z l c) (.inr ⟨k,rfl⟩))
theorem A1{c:Nat}(H:bq f (c::x) y g ρ)(n:Nat)(z:Int)(l:List AV):∃ρ1,pex (n+10) cT ρ [⟨some z,l⟩] (at_ (aO i4) 1)=some (.next,ρ1,[⟨some z,l⟩])/\bq f x y g ρ1:=by
 rcases H with rfl | ⟨k,rfl⟩
 ·exact(ah _ (Pe n f x y g z l c) (.inl rfl))
 ·exact(ah _ (Pn n f x y g k z l c) (.inr ⟨k,rfl⟩))
theorem GO(H:bq f x y g ρ)(n:Nat)(z:Int)(l:List AV):∃ρ1,pex (n+10) cT ρ [⟨some z,l⟩] (at_ (aO i0) 0)=some (.next,ρ1,[⟨some z,l⟩])/\bq f x y false ρ1:=by
 rcases H with rfl | ⟨k,rfl⟩
 ·exact(ah _ (Pf n f x y g z l) (.inl rfl))
 ·exact(ah _ (Pp n f x y g k z l) (.inr ⟨k,rfl⟩))
theorem Pv{c:Nat}(H:bq f x (c::y) g ρ)(n:Nat)(z:Int)(l:List AV)(h:l.length<=4096):pex (n+20) cT ρ [⟨some z,l⟩] hW=some (.next,ρ,[⟨some z,l++[aE (x,y)]⟩]):=by
 rcases H with rfl | ⟨k,rfl⟩
 ·exact OS n f x y g z l c h
 ·exact O5 n f x y g k z l c h
theorem P3(H:bq f x y g ρ)(n:Nat)(z:Int)(l:List AV)(h:l.length<=4096):pex (n+20) cT ρ [⟨some z,l⟩] hZ=some (.next,ρ,[⟨some z,l++[aE (x.drop 2,y)]⟩]):=by
 rcases H with rfl | ⟨k,rfl⟩
 ·exact OT n f x y g z l h
 ·exact O6 n f x y g k z l h
theorem Pw(H:bq f x y g ρ)(n:Nat)(z:Int)(ps:List (List Nat×List Nat))(h:ps.length<=4096)(hf:f<=ps.length):pex (n+20) cT ρ [⟨some z,ps.map aE⟩] jc=some (.next,ρ,[⟨some z,(ps.take f).map aE⟩]):=by
 rcases H with rfl | ⟨k,rfl⟩
 ·exact Pd n f x y g z ps h hf
 ·exact Pl n f x y g k z ps h hf
theorem Px(H:bq f x y g ρ)(n:Nat)(z:Int)(ps:List (List Nat×List Nat))(h:ps.length<=4096)(hf:f<=ps.length):pex (n+20) cT ρ [⟨some z,ps.map aE⟩] jr=some (.ret (.val (.bool true)),ρ,[⟨some z,(ps.take f).map aE⟩]):=by
 rcases H with rfl | ⟨k,rfl⟩
 ·exact Ph n f x y g z ps h hf
 ·exact Pr n f x y g k z ps h hf
theorem Py(H:bq f x y g ρ)(n:Nat)(z:Int)(l:List AV)(m:Nat)(b:Bool)(h:bJ T0 0 [] 200 (am 21) [.str x,.str y]=some (.tup [.int (.ofNat m),.bool b])) :
  ∃ρ1,pst (n+22) cT ρ [⟨some z,l⟩] (cB i4)=some (.next,ρ1,[⟨some z,l⟩])/\bq f (x.drop m) (y.drop 1) b ρ1:=by
 refine aa (Pb) ((ah (tC f (x.drop m) (y.drop 1) b m) ?_ (.inr ⟨m,rfl⟩)));rcases H with rfl | ⟨k,rfl⟩
 ·exact(aR (Pk (n+1) f x y g z l m b h)).trans ((aR (Bt n f x y b m z l)).trans rfl)
 ·exact(aR (Pu (n+1) f x y g k z l m b h)).trans ((aR (Bt n f x y b m z l)).trans rfl)
theorem lf{σ:S}{r:Option (bG×ai×S)}{n:Nat}{v:Bool}(h:pt (n+1) cT ρ σ (aV i0)=some (v,σ))(hr:pst (n+1) cT ρ σ (cond v (aO i0) [i1])=r):pst (n+3) cT ρ σ iB=r:=by
 exact aa (OF) (dm (aa (OA) (aa (hU h) hr)))
theorem ng{σ:S}{r:Option (bG×ai×S)}{n:Nat}{v:Bool}(h:pt (n+1) cT ρ σ (aV i1)=some (v,σ))(hr:pst (n+1) cT ρ σ (cond v (aO i1) [i2])=r):pst (n+3) cT ρ σ [i1]=r:=by
 exact dm (aa (OB) (aa (hU h) hr))
theorem qZ{σ:S}{r:Option (bG×ai×S)}{n:Nat}{v:Bool}(h:pt (n+1) cT ρ σ (aV i2)=some (v,σ))(hr:pst (n+1) cT ρ σ (cond v (aO i2) [i3])=r):pst (n+3) cT ρ σ [i2]=r:=by
 exact dm (aa (OC) (aa (hU h) hr))
theorem Bu{σ:S}{r:Option (bG×ai×S)}{n:Nat}{v:Bool}(h:pt (n+1) cT ρ σ (aV i3)=some (v,σ))(hr:pst (n+1) cT ρ σ (cond v (aO i3) [i4])=r):pst (n+3) cT ρ σ [i3]=r:=by
 exact dm (aa (OD) (aa (hU h) hr))
theorem Pz{σ:S}{r:Option (bG×ai×S)}{n:Nat}{v:Bool}(h:pt (n+1) cT ρ σ (aV i4)=some (v,σ))(hr:pst (n+1) cT ρ σ (cond v (aO i4) (cB i4))=r):pst (n+3) cT ρ σ [i4]=r:=by
 exact dm (aa (OE) (aa (hU h) hr))
theorem Bv{h:Nat}(H:bq f (h::x) y g ρ){z:Int}{l:List AV}{r:Option (bG×ai×S)}{n:Nat}(e1:ax ((h::x).take 3) aaQ=false)(e2:ax ((h::x).take 2) aaN=false)(e3:ax ((h::x).take 3) aaT=false)
  (hr:pst (n+30) cT ρ [⟨some z,l⟩] (cond (ax [h] [41]) (aO i4) (cB i4))=r):pst (n+40) cT ρ [⟨some z,l⟩] iB=r:=
 lf (v:=false) ((Q0 H (n+28) z l).trans rfl) (ng (v:=false) ((Q1 H (n+26) z l).trans (by rw[e1])) (qZ (v:=false) ((Q2 H (n+24) z l).trans (by rw[e2])) (Bu (v:=false) ((Q3 H (n+22) z l).trans (by rw[e3])) (Pz (Q4 H (n+20) z l) (by simpa using hr)))))
end
section
variable{f:Nat}{x y r:List Nat}{g:Bool}{z:Int}
theorem PA{l:List AV}(H:bq f (46::42::63::r) [] g ρ):∃ρ1,pst (n+40) cT ρ [⟨some z,l⟩] iB=some (.next,ρ1,[⟨some z,l⟩])/\bq f r [] g ρ1:=by
 refine af (A3 H (n+24) z l) λρ1 e s=>(ah ρ1 (lf (v:=false) (Q0 H (n+28) z l) (ng (v:=true) (Q1 H (n+26) z l) ?_)) s);show pst (n+36) cT ρ [⟨some z,l⟩] (aO i1)=_;rw[Bd];refine(aR (ρ1:=ρ) (σ1:=[⟨some z,l⟩]) ?_).trans (dm e);rw[Be];exact(hU (v:=false) (QN H (n+24) z l)).trans rfl
theorem PB{l:List AV}{c:Nat}(hl:l.length<=4096)(H:bq f (46::42::63::r) (c::y) g ρ):∃ρ1,pst (n+40) cT ρ [⟨some z,l⟩] iB=some (.next,ρ1,[⟨some z,l++[aE (46::42::63::r,y)]⟩])/\bq f r (c::y) g ρ1:=by
 refine af (A3 H (n+24) z (l++[aE (46::42::63::r,y)])) λρ1 e s=>(ah ρ1 (lf (v:=false) (Q0 H (n+28) z l) (ng (v:=true) (Q1 H (n+26) z l) ?_)) s);show pst (n+36) cT ρ [⟨some z,l⟩] (aO i1)=_;rw[Bd];refine(aR (ρ1:=ρ) (σ1:=[⟨some z,l++[aE (46::42::63::r,y)]⟩]) ?_).trans (dm e);rw[Be];exact(hU (v:=true) (QN H (n+24) z l)).trans (dm (Pv H (n+13) z l hl))
theorem PD{l:List AV}(h3:ax ((46::42::r).take 3) aaQ=false)(H:bq f (46::42::r) [] g ρ):∃ρ1,pst (n+40) cT ρ [⟨some z,l⟩] iB=some (.next,ρ1,[⟨some z,l⟩])/\bq f r [] g ρ1:=by
 refine af (A2 H (n+21) z l) λρ1 e s=>(ah ρ1 (lf (v:=false) (Q0 H (n+28) z l) (ng (v:=false) ((Q1 H (n+26) z l).trans (by rw[h3])) (qZ (v:=true) (Q2 H (n+24) z l) ?_))) s);show pst (n+34) cT ρ [⟨some z,l⟩] (aO i2)=_;rw[Bf];refine dm (n:=n+32) ?_;rw[Bg];exact(hU (v:=true) (QM H (n+22) z l)).trans (dm e)
theorem PE{l:List AV}{c:Nat}(hl:l.length<=4096)(h3:ax ((46::42::r).take 3) aaQ=false)(H:bq f (46::42::r) (c::y) g ρ):∃ρ1,pst (n+40) cT ρ [⟨some z,l⟩] iB=some (.next,ρ1,[⟨some z,l++[aE (r,c::y)]⟩])/\bq f (46::42::r) y g ρ1:=by
 refine af (AN H (n+20) z (l++[aE (r,c::y)])) λρ1 e s=>(ah ρ1 (lf (v:=false) (Q0 H (n+28) z l) (ng (v:=false) ((Q1 H (n+26) z l).trans (by rw[h3])) (qZ (v:=true) (Q2 H (n+24) z l) ?_))) s);show pst (n+34) cT ρ [⟨some z,l⟩] (aO i2)=_;rw[Bf];refine dm (n:=n+32) ?_;rw[Bg];exact(hU (v:=false) (QM H (n+22) z l)).trans ((aR (P3 H (n+11) z l hl)).trans (dm e))
theorem PF{l:List AV}(H:bq f (40::63::62::r) y g ρ):∃ρ1,pst (n+40) cT ρ [⟨some z,l⟩] iB=some (.next,ρ1,[⟨some z,l⟩])/\bq f r y g ρ1:=by
 refine af (A4 H (n+21) z l) λρ1 e s=>(ah ρ1 (lf (v:=false) (Q0 H (n+28) z l) (ng (v:=false) (Q1 H (n+26) z l) (qZ (v:=false) (Q2 H (n+24) z l) (Bu (v:=true) (Q3 H (n+22) z l) ?_)))) s);show pst (n+32) cT ρ [⟨some z,l⟩] (aO i3)=_;rw[OG];exact dm e
theorem PG{ps:List (List Nat×List Nat)}(h:ps.length<=4096)(hf:f<=ps.length)(H:bq f (41::r) y g ρ):∃ρ1,pst (n+40) cT ρ [⟨some z,ps.map aE⟩] iB=some (.next,ρ1,[⟨some z,(ps.take f).map aE⟩])/\bq f r y g ρ1:=by
 refine af (A1 H (n+18) z ((ps.take f).map aE)) λρ1 e s=>(ah ρ1 (Bv H rfl rfl rfl ?_) s);show pst (n+30) cT ρ [⟨some z,ps.map aE⟩] (aO i4)=_;rw[O9];exact(aR (Pw H (n+9) z ps h hf)).trans (dm e)
theorem Bw{l:List AV}{h m:Nat}{b:Bool}(h1:ax ((h::r).take 3) aaQ=false)(h2:ax ((h::r).take 2) aaN=false)(h3:ax ((h::r).take 3) aaT=false)(h4:ax [h] [41]=false)
  (hf:bJ T0 0 [] 200 (am 21) [.str (h::r),.str y]=some (.tup [.int (.ofNat m),.bool b]))(H:bq f (h::r) y g ρ):∃ρ1,pst (n+40) cT ρ [⟨some z,l⟩] iB=some (.next,ρ1,[⟨some z,l⟩])/\bq f ((h::r).drop m) (y.drop 1) b ρ1:=by
 exact af (Py H (n+8) z l m b hf) λρ1 e s=>(ah ρ1 (Bv H h1 h2 h3 (by rw[h4];exact e)) s)
theorem PH{ps:List (List Nat×List Nat)}(h:ps.length<=4096)(hf:f<=ps.length)(H:bq f [] [] g ρ):∃ρ1,pst (n+40) cT ρ [⟨some z,ps.map aE⟩] iB=some (.ret (.val (.bool true)),ρ1,[⟨some z,(ps.take f).map aE⟩]):=by
 refine af (GO H (n+27) z (ps.map aE)) λρ1 e s=>⟨ρ1,lf (v:=true) (Q0 H (n+28) z (ps.map aE)) ?_⟩;show pst (n+38) cT ρ [⟨some z,ps.map aE⟩] (aO i0)=_;rw[Bp];refine(aR e).trans (dm (n:=n+35) ?_);rw[Bq];exact(hU (v:=true) (QA s (n+25) z (ps.map aE))).trans (dm (n:=n+33) (Px s (n+14) z ps h hf))
theorem PI{l:List AV}{c:Nat}(H:bq f [] (c::y) g ρ):∃ρ1,pst (n+40) cT ρ [⟨some z,l⟩] iB=some (.next,ρ1,[⟨some z,l⟩])/\bq f [] (c::y) false ρ1:=by
 refine af (GO H (n+27) z l) λρ1 e s=>(ah ρ1 (lf (v:=true) (Q0 H (n+28) z l) ?_) s);show pst (n+38) cT ρ [⟨some z,l⟩] (aO i0)=_;rw[Bp];refine(aR e).trans (dm (n:=n+35) ?_);rw[Bq];exact(hU (v:=false) (QA s (n+25) z l)).trans (by rfl')
end
inductive Tk where
 | lz | gr | op | cl
 | at (d:Nat)
noncomputable def Tk.text:Tk->List Nat
 | .lz=>aaQ
 | .gr=>aaN
 | .op=>aaT
 | .cl=>[41]
 | .at d=>tx d
noncomputable def Tk.good:Tk->Bool
 | .at d=>YG 2 d&&YU d 20
 | _=>true
noncomputable def bL:List Tk->List Nat
 | []=>[]
 | t::r=>t.text++bL r
noncomputable abbrev St:=List (List Tk×List Nat)
noncomputable abbrev sp(st:St):List (List Nat×List Nat):=st.map λp=>(bL p.1,p.2)
noncomputable abbrev br(st:St):List AV:=(sp st).map aE
noncomputable def dy(f:Nat):Nat->List Tk->List Nat->St->Option (Bool×St)
 | 0,_,_,_=>none
 | _+1,[],[],st=>some (true,st.take f)
 | _+1,[],_::_,st=>some (false,st)
 | n+1,.lz::r,[],st=>dy f n r [] st
 | n+1,.lz::r,c::y,st=>dy f n r (c::y) (st++[(.lz::r,y)])
 | n+1,.gr::r,[],st=>dy f n r [] st
 | n+1,.gr::r,c::y,st=>dy f n (.gr::r) y (st++[(r,c::y)])
 | n+1,.op::r,y,st=>dy f n r y st
 | n+1,.cl::r,y,st=>dy f n r y (st.take f)
 | _+1,.at _::_,[],st=>some (false,st)
 | n+1,.at d::r,c::y,st=>cond (bg (kd d) c) (dy f n r y st) (some (false,st))
noncomputable def dP(p:List Tk×List Nat):Prop:=(∀t∈p.1,t.good=true)/\∀c∈p.2,c∈gO
theorem PJ(t:Tk)(h:t.good=true):∃a r,t.text=a::r/\a≠42/\a≠63:=by
 cases t with
 | lz=>exact(bM 46 _ rfl (by decide) (by decide))
 | gr=>exact(bM 46 _ rfl (by decide) (by decide))
 | op=>exact(bM 40 _ rfl (by decide) (by decide))
 | cl=>exact(bM 41 _ rfl (by decide) (by decide))
 | «at» d=>
  have hd:2<=d/\d<20:=by
   simp only[Tk.good,YK]at h;exact⟨Xn h.1,by rw[<-Za];exact h.2⟩
  match d,hd with
  | 0,h=>exact absurd h.1 (by exact wo)
  | 1,h=>exact absurd h.1 (by exact wn)
  | 2,_=>exact(bM _ _ rfl (by decide) (by decide))
  | 3,_=>exact(bM _ _ rfl (by decide) (by decide))
  | 4,_=>exact(bM _ _ rfl (by decide) (by decide))
  | 5,_=>exact(bM _ _ rfl (by decide) (by decide))
  | 6,_=>exact(bM _ _ rfl (by decide) (by decide))
  | 7,_=>exact(bM _ _ rfl (by decide) (by decide))
  | 8,_=>exact(bM _ _ rfl (by decide) (by decide))
  | 9,_=>exact(bM _ _ rfl (by decide) (by decide))
  | 10,_=>exact(bM _ _ rfl (by decide) (by decide))
  | 11,_=>exact(bM _ _ rfl (by decide) (by decide))
  | 12,_=>exact(bM _ _ rfl (by decide) (by decide))
  | 13,_=>exact(bM _ _ rfl (by decide) (by decide))
  | 14,_=>exact(bM _ _ rfl (by decide) (by decide))
  | 15,_=>exact(bM _ _ rfl (by decide) (by decide))
  | 16,_=>exact(bM _ _ rfl (by decide) (by decide))
  | 17,_=>exact(bM _ _ rfl (by decide) (by decide))
  | 18,_=>exact(bM _ _ rfl (by decide) (by decide))
  | 19,_=>exact(bM _ _ rfl (by decide) (by decide))
  | n+20,h=>exact absurd h.2 (by exact iK)
theorem vd{ts:List Tk}(h:∀t∈ts,t.good=true):bL ts=[]\/∃a r,bL ts=a::r/\a≠42/\a≠63:=by
 cases ts with
 | nil=>exact .inl rfl
 | cons t ts=>
  exact bb (PJ t (h t (Xh ..))) λa r e h1 h2=>.inr (bM a (r++bL ts) (by show t.text++bL ts=_;(refine aa e ?_);rfl) h1 h2)
theorem ve{a b:Nat}(h:a≠b):XI a b=false:=by
 rw[Bool.eq_false_iff];intro e;exact h (XF e)
theorem PK{ts:List Tk}(h:∀t∈ts,t.good=true):ax ((46::42::bL ts).take 3) aaQ=false:=by
 rcases vd h with e | ⟨a,r,e,_,h2⟩
 ·rw[e];rfl
 ·rw[e];show(match XI a 63 with | true=>ax [] [] | false=>false)=false;refine aa (ve h2) ?_;rfl
theorem PL{ts:List Tk}(h:∀t∈ts,t.good=true):∀d,2<=d->d<20->∃a t,tx d++bL ts=a::t/\ax ((a::t).take 3) aaQ=false/\ax ((a::t).take 2) aaN=false/\ax ((a::t).take 3) aaT=false/\ax [a] [41]=false:=by
 have dot:∃a t,[46]++bL ts=a::t/\ax ((a::t).take 3) aaQ=false/\ax ((a::t).take 2) aaN=false/\ax ((a::t).take 3) aaT=false/\ax [a] [41]=false:=by
  refine(fy 46 (bL ts) rfl ?_ ?_ rfl rfl)
  ·rcases vd h with e | ⟨a,r,e,h1,_⟩
   ·(refine aa e ?_);rfl
   ·refine aa e ?_;show(match XI a 42 with | true=>ax (r.take 1) [63] | false=>false)=false;refine aa (ve h1) ?_;rfl
  ·rcases vd h with e | ⟨a,r,e,h1,_⟩
   ·(refine aa e ?_);rfl
   ·refine aa e ?_;show(match XI a 42 with | true=>ax [] [] | false=>false)=false;refine aa (ve h1) ?_;rfl
 intro d h2 hd
 match d,h2,hd with
 | 0,h,_=>exact absurd h (by exact wo)
 | 1,h,_=>exact absurd h (by exact wn)
 | 2,_,_=>exact(fy _ _ rfl rfl rfl rfl rfl)
 | 3,_,_=>exact(fy _ _ rfl rfl rfl rfl rfl)
 | 4,_,_=>exact(fy _ _ rfl rfl rfl rfl rfl)
 | 5,_,_=>exact(fy _ _ rfl rfl rfl rfl rfl)
 | 6,_,_=>exact(fy _ _ rfl rfl rfl rfl rfl)
 | 7,_,_=>exact dot
 | 8,_,_=>exact(fy _ _ rfl rfl rfl rfl rfl)
 | 9,_,_=>exact(fy _ _ rfl rfl rfl rfl rfl)
 | 10,_,_=>exact(fy _ _ rfl rfl rfl rfl rfl)
 | 11,_,_=>exact(fy _ _ rfl rfl rfl rfl rfl)
 | 12,_,_=>exact(fy _ _ rfl rfl rfl rfl rfl)
 | 13,_,_=>exact dot
 | 14,_,_=>exact(fy _ _ rfl rfl rfl rfl rfl)
 | 15,_,_=>exact(fy _ _ rfl rfl rfl rfl rfl)
 | 16,_,_=>exact(fy _ _ rfl rfl rfl rfl rfl)
 | 17,_,_=>exact(fy _ _ rfl rfl rfl rfl rfl)
 | 18,_,_=>exact(fy _ _ rfl rfl rfl rfl rfl)
 | 19,_,_=>exact(fy _ _ rfl rfl rfl rfl rfl)
 | n+20,_,h=>exact absurd h (by lia)
theorem PM{d:Nat}(h:(Tk.at d).good=true):2<=d/\d<20:=by
 simp only[Tk.good,YK]at h;exact⟨Xn h.1,by rw[<-Za];exact h.2⟩
theorem q8:wI=.While (dG wI) iB [] (fX wI):=by rfl'
section
variable{f:Nat}{x y:List Nat}{g:Bool}
theorem QW(H:bq f x y g ρ)(n:Nat)(z:Int)(l:List AV):pt (n+10) cT ρ [⟨some z,l⟩] (dG wI)=some (g,[⟨some z,l⟩]):=by
 rcases H with rfl | ⟨k,rfl⟩<;>rfl'
end
theorem vf(st:St)(p:List Tk×List Nat):br (st++[p])=br st++[aE (bL p.1,p.2)]:=by
 dsimp only[br,sp];refine aa (Y0) (aa (Y0) ?_);rfl
theorem Bx(st:St)(f:Nat):(sp st).take f=sp (st.take f):=by unfold sp;rw[List.map_take]
theorem oS(st:St):(sp st).length=st.length:=W7 ..
theorem vg(st:St):(br st).length=st.length:=by unfold br;rw[W7,oS]
theorem PN(f:Nat)(z:Int):∀(k:Nat)(ts:List Tk)(y:List Nat)(st st':St)(b:Bool)(m:Nat)(ρ:ai),dy f k ts y st=some (b,st')->dP (ts,y)->st.length+k<=4096->f<=st.length->bq f (bL ts) y true ρ->
  (b=true/\∃ρ1,pex (m+k+45) cT ρ [⟨some z,br st⟩] wI=some (.ret (.val (.bool true)),ρ1,[⟨some z,br st'⟩]))\/
  (b=false/\∃ρ1 x' y',pex (m+k+45) cT ρ [⟨some z,br st⟩] wI=some (.next,ρ1,[⟨some z,br st'⟩])/\bq f x' y' false ρ1):=by
 intro k;induction k with
 | zero=>intro ts y st st' b m ρ h;exact aT h
 | succ k ih=>
  intro ts y st st' b m ρ h G hl hf H;have go:∀{ts':List Tk}{y':List Nat}{st1:St}{ρ1:ai},pst (m+k+1+44) cT ρ [⟨some z,br st⟩] iB=some (.next,ρ1,[⟨some z,br st1⟩])->bq f (bL ts') y' true ρ1->dy f k ts' y' st1=some (b,st')->dP (ts',y')->st1.length+k<=4096->f<=st1.length->
    (b=true/\∃ρ1,pex (m+(k+1)+45) cT ρ [⟨some z,br st⟩] wI=some (.ret (.val (.bool true)),ρ1,[⟨some z,br st'⟩]))\/
    (b=false/\∃ρ1 x' y',pex (m+(k+1)+45) cT ρ [⟨some z,br st⟩] wI=some (.next,ρ1,[⟨some z,br st'⟩])/\bq f x' y' false ρ1):=by
   intro ts' y' st1 ρ1 e H1 h1 G1 l1 f1;have step:pex (m+(k+1)+45) cT ρ [⟨some z,br st⟩] wI=pex (m+k+45) cT ρ1 [⟨some z,br st1⟩] wI:=by
    have:=l9 (p:=fX wI) (QW H (m+k+35) z (br st)) e;rw[<-q8]at this;exact this
   rcases ih ts' y' st1 st' b m ρ1 h1 G1 l1 f1 H1 with ⟨hb,ρ2,e2⟩ | ⟨hb,ρ2,x2,y2,e2,H2⟩
   ·exact .inl (gB hb ρ2 (step.trans e2))
   ·exact .inr ⟨hb,ρ2,x2,y2,step.trans e2,H2⟩
  have stop:∀{x' y':List Nat}{ρ1:ai},pst (m+k+1+44) cT ρ [⟨some z,br st⟩] iB=some (.next,ρ1,[⟨some z,br st⟩])->bq f x' y' false ρ1->
    ∃ρ1 x' y',pex (m+(k+1)+45) cT ρ [⟨some z,br st⟩] wI=some (.next,ρ1,[⟨some z,br st⟩])/\bq f x' y' false ρ1:=by
   intro x' y' ρ1 e H1;refine(lA ρ1 x' y' ?_ H1);have:=l9 (p:=fX wI) (QW H (m+k+35) z (br st)) e;rw[<-q8]at this;exact this.trans (aa (q8) (na (QW H1 (m+k+34) z (br st))))
  cases ts with
  | nil=>
   cases y with
   | nil=>
    refine ck (h:some (true,st.take f)=some (b,st')) ?_;refine al (PH (n:=m+k+5) (z:=z) (ps:=sp st) (by simp only[oS];exact pE hl) (by simp only[oS];exact hf) H) λρ1 e=>?_;rw[Bx]at e;refine .inl (gB rfl ρ1 ?_);have:=Ba (p:=fX wI) (QW H (m+k+35) z (br st)) e;rw[<-q8]at this;exact this
   | cons c y=>
    exact ck (h:some (false,st)=some (b,st')) (af (PI (n:=m+k+5) (z:=z) (l:=br st) H) λρ1 e H1=>.inr ⟨rfl,stop e H1⟩)
  | cons t r=>
   have Gr:dP (r,y):=⟨λq hq=>G.1 q (Xc _ hq),G.2⟩;cases t with
   | lz=>
    cases y with
    | nil=>
     exact af (PA (n:=m+k+5) (z:=z) (l:=br st) H) λρ1 e H1=>go e H1 h Gr (by exact pF hl) hf
    | cons c y=>
     refine af (PB (n:=m+k+5) (z:=z) (l:=br st) (by simp only[vg];exact pE hl) H) λρ1 e H1=>?_;have e':pst (m+k+1+44) cT ρ [⟨some z,br st⟩] iB=some (.next,ρ1,[⟨some z,br (st++[(.lz::r,y)])⟩]):=by rw[vf];exact e
     exact go e' H1 h Gr (by (refine aa Om ?_);simp only[W5,Xq];exact ww hl) (by (refine aa Om ?_);exact wx hf)
   | gr=>
    have h3:=PK (λq hq=>G.1 q (Xc _ hq):∀t∈r,t.good=true);cases y with
    | nil=>
     exact af (PD (n:=m+k+5) (z:=z) (l:=br st) h3 H) λρ1 e H1=>go e H1 h Gr (by exact pF hl) hf
    | cons c y=>
     refine af (PE (n:=m+k+5) (z:=z) (l:=br st) (by simp only[vg];exact pE hl) h3 H) λρ1 e H1=>?_;have e':pst (m+k+1+44) cT ρ [⟨some z,br st⟩] iB=some (.next,ρ1,[⟨some z,br (st++[(r,c::y)])⟩]):=by rw[vf];exact e
     exact go (ts':=.gr::r) e' H1 h ⟨G.1,λq hq=>G.2 q (Xc _ hq)⟩ (by (refine aa Om ?_);simp only[W5,Xq];exact ww hl) (by (refine aa Om ?_);exact wx hf)
   | op=>
    exact af (PF (n:=m+k+5) (z:=z) (l:=br st) H) λρ1 e H1=>go e H1 h Gr (by exact pF hl) hf
   | cl=>
    refine af (PG (n:=m+k+5) (z:=z) (ps:=sp st) (by simp only[oS];exact pE hl) (by simp only[oS];exact hf) H) λρ1 e H1=>?_;rw[Bx]at e;exact go e H1 h Gr (by (refine aa Xy ?_);exact EN hl) (by (refine aa Xy ?_);exact wy hf)
   | «at» d=>
    have hd:=PM (G.1 (.at d) (Xh ..));refine sj (PL (λq hq=>G.1 q (Xc _ hq):∀t∈r,t.good=true) d hd.1 hd.2) λa t ea t1 t2 t3 t4=>?_;have H':bq f (a::t) y true ρ:=by (refine aS ea ?_);exact H
    have drop:(a::t).drop (tx d).length=bL r:=by (refine aS ea ?_;refine aa List.drop_left ?_;rfl)
    clear Gr;cases y with
    | nil=>
     refine ck (h:some (false,st)=some (b,st')) ?_;refine af (Bw (n:=m+k+5) (z:=z) (l:=br st) t1 t2 t3 t4 (by (refine aS ea ?_);exact A8 d (bL r) hd.1 hd.2) H') λρ1 e H1=>?_;exact .inr ⟨rfl,stop e H1⟩
    | cons c y=>
     have hfst:=A9 d (bL r) c y hd.1 hd.2 (G.2 c (Xh ..));refine af (Bw (n:=m+k+5) (z:=z) (l:=br st) t1 t2 t3 t4 (by (refine aS ea ?_);exact hfst) H') λρ1 e H1=>?_;rw[drop]at H1;refine cQ (h:cond (bg (kd d) c) _ _=some (b,st')) (λhb h=>?_) λhb h=>?_
     ·rw[hb]at H1;exact go e H1 h ⟨λq hq=>G.1 q (Xc _ hq),λq hq=>G.2 q (Xc _ hq)⟩ (by exact pF hl) hf
     ·rw[hb]at H1;exact ck h (.inr ⟨rfl,stop e H1⟩)
noncomputable def tA(f:Nat):ai:=[(aav,.cell 0),(aaI,.val (.int (.ofNat f)))]
noncomputable def tP(f:Nat)(x y:List Nat):ai:=[(aav,.cell 0),(aaI,.val (.int (.ofNat f))),(aax,.val (.str x)),(aam,.val (.str y))]
noncomputable abbrev oW:Stmt:=au 24 0
noncomputable abbrev oB:List Stmt:=dw oW
noncomputable abbrev o0:Stmt:=at_ oB 0
noncomputable abbrev o1:Stmt:=at_ oB 1
theorem vh:oW=.While (dG oW) oB [] (fX oW):=by rfl'
theorem PO:oB=[o0,o1,wI]:=by rfl'
theorem vi:o0=.Assign [.Tuple (qJ o0) (qK o0) (dq o0)] (.Call (.Attribute (.Name (m8 (ay o0)) (lZ (ay o0))) (l4 (ay o0)) (l5 (ay o0))) [] [] (bB (ay o0))) (du o0):=by rfl'
theorem vj{n:Nat}{c:aH}{ρ ρ1:ai}{σ σ1:S}{ts:List Expr}{k:Nat}{tp p:Pos}{e:Expr}{xs:List Str}{vs:List AV}(hx:jR ts=some xs)(h:pe n c ρ σ e=some (.val (.tup vs),σ1))(hs:pW c.sc [.Tuple ts k tp] e=some none)(hr:ju c.sc ρ xs vs=some ρ1):pex (n+1) c ρ σ (.Assign [.Tuple ts k tp] e p)=some (.next,ρ1,σ1):=
 ba (x:=jR ts) hx (dz h (ba (a:=vs) rfl (ba hs (ba hr rfl))))
theorem vk{z:Int}{l:List AV}{v:AV}:iu xl ⟨some z,l++[v]⟩ []=some (v,⟨some z,l⟩):=by
 show bp (nO (l++[v]).reverse) (λv r=>some (v,(⟨some z,r.reverse⟩:bE)))=_;exact aa List.reverse_append (congrArg (λr=>some (v,(⟨some z,r⟩:bE))) (List.reverse_reverse l))
noncomputable def lg(f:Nat)(ρ:ai):Prop:=ρ=tA f\/∃x y g,bq f x y g ρ
theorem oT(f:Nat)(ρ:ai)(H:lg f ρ)(n:Nat)(z:Int)(l:List AV):pt (n+10) cT ρ [⟨some z,l⟩] (dG oW)=some (gX (.ofNat f) (.ofNat l.length),[⟨some z,l⟩]):=by
 rcases H with rfl | ⟨x,y,g,rfl | ⟨k,rfl⟩⟩<;>rfl'
theorem PP(n f:Nat)(x y:List Nat)(z:Int)(l:List AV):pex (n+20) cT (tA f) [⟨some z,l++[aE (x,y)]⟩] o0=some (.next,tP f x y,[⟨some z,l⟩]):=by
 rw[vi];exact vj (xs:=[⟨⟨aax⟩⟩,⟨⟨aam⟩⟩]) (vs:=[.str x,.str y]) (by rfl') (jG (by rfl') (by rfl') (ke (q:=0) (cl:=⟨some z,l++[aE (x,y)]⟩) (cl':=⟨some z,l⟩) (vs:=[]) trivial (by rfl') rfl rfl (by rfl') vk)) (by rfl') (by rfl')
theorem PQ(n f:Nat)(x y x0 y0:List Nat)(g:Bool)(z:Int)(l:List AV):pex (n+20) cT (tB f x0 y0 g) [⟨some z,l++[aE (x,y)]⟩] o0=some (.next,tB f x y g,[⟨some z,l⟩]):=by
 rw[vi];exact vj (xs:=[⟨⟨aax⟩⟩,⟨⟨aam⟩⟩]) (vs:=[.str x,.str y]) (by rfl') (jG (by rfl') (by rfl') (ke (q:=0) (cl:=⟨some z,l++[aE (x,y)]⟩) (cl':=⟨some z,l⟩) (vs:=[]) trivial (by rfl') rfl rfl (by rfl') vk)) (by rfl') (by rfl')
theorem PR(n f:Nat)(x y x0 y0:List Nat)(g:Bool)(k:Nat)(z:Int)(l:List AV):pex (n+20) cT (tC f x0 y0 g k) [⟨some z,l++[aE (x,y)]⟩] o0=some (.next,tC f x y g k,[⟨some z,l⟩]):=by
 rw[vi];exact vj (xs:=[⟨⟨aax⟩⟩,⟨⟨aam⟩⟩]) (vs:=[.str x,.str y]) (by rfl') (jG (by rfl') (by rfl') (ke (q:=0) (cl:=⟨some z,l++[aE (x,y)]⟩) (cl':=⟨some z,l⟩) (vs:=[]) trivial (by rfl') rfl rfl (by rfl') vk)) (by rfl') (by rfl')
theorem dP.tail{ts:List Tk}{c:Nat}{y:List Nat}(h:dP (ts,c::y)):dP (ts,y):=⟨h.1,λ_ hq=>h.2 _ (show _∈c::y from Xc _ hq)⟩
theorem PS(f:Nat):∀(k:Nat)(ts:List Tk)(y:List Nat)(st st':St)(b:Bool),dy f k ts y st=some (b,st')->dP (ts,y)->(∀p∈st,dP p)->f<=st.length->(∀p∈st',dP p)/\f<=st'.length/\st'.length<=st.length+k/\st'.take f=st.take f/\(b=true->st'.length=f):=by
 intro k;induction k with
 | zero=>intro ts y st st' b h;trivial
 | succ k ih=>
  intro ts y st st' b h G Gs hf;have G1:∀{t r},ts=t::r->dP (r,y):=λe=>⟨λq hq=>G.1 q (by (refine aa e ?_);exact Xc _ hq),G.2⟩;have tk:∀p∈st.take f,dP p:=λp hp=>Gs p (Zg hp);have same:∀{st1},(b=false/\st1=st)->(∀p∈st1,dP p)/\f<=st1.length/\st1.length<=st.length+(k+1)/\st1.take f=st.take f/\(b=true->st1.length=f):=by
   rintro st1 ⟨hb,rfl⟩;exact⟨Gs,hf,by exact EP,rfl,λe=>by rw[hb]at e;cases e⟩
  have grow:∀{p:List Tk×List Nat}{ts' y'},dP p->dP (ts',y')->dy f k ts' y' (st++[p])=some (b,st')->(∀p∈st',dP p)/\f<=st'.length/\st'.length<=st.length+(k+1)/\st'.take f=st.take f/\(b=true->st'.length=f):=by
   intro p ts' y' Gp G' h';refine km (ih ts' y' (st++[p]) st' b h' G' (λq hq=>by clear same h';rcases Yv.mp hq with h | h;exact Gs q h;(refine aa (Xi.mp h) ?_);exact Gp) (by (refine aa Om ?_);lia)) λa1 a2 a3 a4 a5=>?_;rw[Om]at a3;exact⟨a1,a2,by exact ER a3,a4.trans (List.take_append_of_le_length hf),a5⟩
  have on:∀{ts' y'},dP (ts',y')->dy f k ts' y' st=some (b,st')->(∀p∈st',dP p)/\f<=st'.length/\st'.length<=st.length+(k+1)/\st'.take f=st.take f/\(b=true->st'.length=f):=by
   intro ts' y' G' h';exact km (ih ts' y' st st' b h' G' Gs hf) λa1 a2 a3 a4 a5=>⟨a1,a2,by exact ES a3,a4,a5⟩
  cases ts with
  | nil=>
   cases y with
   | nil=>
    clear same grow on;refine ck (h:some (true,st.take f)=some (b,st')) ?_;exact⟨tk,by (refine aa Xy ?_);exact wy hf,by (refine aa Xy ?_);exact ET,by rw[List.take_take,Nat.min_self],λ_=>by (refine aa Xy ?_);lia⟩
   | cons c y=>
    have q:=Xv (W9 (h:some (false,st)=some (b,st')));exact same ⟨q.1.symm,q.2.symm⟩
  | cons t r=>
   have Gr:=G1 rfl;cases t with
   | lz=>
    cases y with
    | nil=>exact on Gr h
    | cons c y=>exact grow (dP.tail G) Gr h
   | gr=>
    cases y with
    | nil=>exact on Gr h
    | cons c y=>exact grow Gr (dP.tail G) h
   | op=>exact on Gr h
   | cl=>
    refine km (ih r y (st.take f) st' b h Gr tk (by (refine aa Xy ?_);lia)) λa1 a2 a3 a4 a5=>?_;rw[Xy]at a3;exact⟨a1,a2,by lia,by simp only[a4,List.take_take,Nat.min_self],a5⟩
   | «at» d=>
    clear G1;cases y with
    | nil=>
     have q:=Xv (W9 (h:some (false,st)=some (b,st')));exact same ⟨q.1.symm,q.2.symm⟩
    | cons c y=>
     refine cQ (h:cond (bg (kd d) c) _ _=some (b,st')) (λ_ h=>on (dP.tail Gr) h) λ_ h=>?_;have q:=Xv (W9 h);exact same ⟨q.1.symm,q.2.symm⟩
noncomputable def cj(f k:Nat):Nat->St->Option (Bool×St)
 | 0,_=>none
 | n+1,st=>cond (YU f st.length) (bo st.getLast? λp=>bp (dy f k p.1 p.2 st.dropLast) λb st'=>cond b (some (true,st')) (cj f k n st')) (some (false,st))
theorem PT{α:Type}{l:List α}{p:α}(h:l.getLast?=some p):l=l.dropLast++[p]:=by
 refine al (List.getLast?_eq_some_iff.mp h) λys zr1=>?_;clear h;subst zr1;rw[List.dropLast_concat]
theorem nh{a b:Nat}(h:a<b):gX (.ofNat a) (.ofNat b)=true:=decide_eq_true (show((a:Int)<(b:Int)) by exact EQ h)
theorem rb{a b:Nat}(h:¬a<b):gX (.ofNat a) (.ofNat b)=false:=decide_eq_false (show ¬((a:Int)<(b:Int)) by exact GX h)
theorem By{f k n:Nat}{st:St}(h:YU f st.length=false):cj f k (n+1) st=some (false,st):=by
 show cond (YU f st.length) _ _=_;rw[h];rfl
theorem Bz{f k n:Nat}{st:St}{p:List Tk×List Nat}(h:YU f st.length=true)(hp:st.getLast?=some p):cj f k (n+1) st=bp (dy f k p.1 p.2 st.dropLast) λb st'=>cond b (some (true,st')) (cj f k n st'):=by
 show cond (YU f st.length) (bo st.getLast? _) _=_;rw[h,hp];rfl
theorem BA{f:Nat}{ρ:ai}(H:lg f ρ)(n:Nat)(x y:List Nat)(z:Int)(l:List AV):∃ρ1,bq f x y true ρ1/\pst (n+40) cT ρ [⟨some z,l++[aE (x,y)]⟩] oB=pst (n+38) cT ρ1 [⟨some z,l⟩] [wI]:=by
 refine aa (PO) ?_;rcases H with rfl | ⟨x0,y0,g,rfl | ⟨k,rfl⟩⟩
 ·exact(ah _ (.inl rfl) ((aR (PP (n+19) f x y z l)).trans (aR (ρ1:=tB f x y true) (σ1:=[⟨some z,l⟩]) (by rfl'))))
 ·exact(ah _ (.inl rfl) ((aR (PQ (n+19) f x y x0 y0 g z l)).trans (aR (ρ1:=tB f x y true) (σ1:=[⟨some z,l⟩]) (by rfl'))))
 ·exact(ah _ (.inr ⟨k,rfl⟩) ((aR (PR (n+19) f x y x0 y0 g k z l)).trans (aR (ρ1:=tC f x y true k) (σ1:=[⟨some z,l⟩]) (by rfl'))))
theorem PU{f:Nat}{ρ:ai}(H:lg f ρ)(n:Nat)(x y:List Nat)(z:Int)(l:List AV){v:PV}{σ1:S}(h:∀ρ1,bq f x y true ρ1->∃ρ2,pst (n+38) cT ρ1 [⟨some z,l⟩] [wI]=some (.ret v,ρ2,σ1)):∃ρ2,pst (n+40) cT ρ [⟨some z,l++[aE (x,y)]⟩] oB=some (.ret v,ρ2,σ1):=by
 exact af (BA H n x y z l) λρ1 H1 e=>al (h ρ1 H1) λρ2 e2=>⟨ρ2,e.trans e2⟩
theorem PW{f:Nat}{ρ:ai}(H:lg f ρ)(n:Nat)(x y:List Nat)(z:Int)(l:List AV){σ1:S}(h:∀ρ1,bq f x y true ρ1->∃ρ2,pst (n+38) cT ρ1 [⟨some z,l⟩] [wI]=some (.next,ρ2,σ1)/\lg f ρ2):∃ρ2,pst (n+40) cT ρ [⟨some z,l++[aE (x,y)]⟩] oB=some (.next,ρ2,σ1)/\lg f ρ2:=by
 exact af (BA H n x y z l) λρ1 H1 e=>af (h ρ1 H1) λρ2 e2 H2=>(ah ρ2 (e.trans e2) H2)
noncomputable def PX(b:Bool):bG:=match b with
 | true=>.ret (.val (.bool true))
 | false=>.next
theorem PY(f k:Nat)(z:Int):∀(n:Nat)(st st':St)(b:Bool)(m:Nat)(ρ:ai),cj f k n st=some (b,st')->(∀p∈st,dP p)->st.length+n * k<=4000->f<=st.length->lg f ρ->
  ∃ρ1,pex (m+k+n+100) cT ρ [⟨some z,br st⟩] oW=some (PX b,ρ1,[⟨some z,br st'⟩]):=by
 intro n;induction n with
 | zero=>intro st st' b m ρ h;exact aT h
 | succ n ih=>
  intro st st' b m ρ h G hl hf H;have ht:=oT f ρ H (m+k+n+90) z (br st);rw[vg]at ht;cases hb:YU f st.length with
  | false=>
   rw[By hb]at h;have e:=rb (a:=f) (b:=st.length) λc=>by rw[<-Za]at c;rw[c]at hb;exact sm hb
   rw[e]at ht;have w:=na (b:=oB) (p:=fX oW) ht;rw[<-vh]at w;have h2:=Xv (W9 h);exact aS (h2.1) (aS (h2.2) ⟨ρ,w⟩)
  | true=>
   have hlt:f<st.length:=by (refine aS Za ?_);exact hb
   have e:=nh hlt;rw[e]at ht;obtain⟨p,hp⟩:∃p,st.getLast?=some p:=by
    cases hq:st.getLast? with
    | none=>rw[List.getLast?_eq_none_iff]at hq;rw[hq]at hlt;exact absurd hlt (ZX _)
    | some p=>exact⟨p,rfl⟩
   rw[Bz hb hp]at h;have est:=PT hp;generalize hsd:st.dropLast=sd at h est;have hdl:sd.length+1=st.length:=by rw[est,Om];rfl
   have Gp:dP p:=G p (by rw[est];simp);have Gd:∀q∈sd,dP q:=λq hq=>G q (by rw[est];exact List.mem_append_left _ hq);have hmul:(n+1) * k=n * k+k:=Nat.succ_mul ..;obtain⟨ts,y⟩:=p;have ea:br st=br sd++[aE (bL ts,y)]:=by rw[est];exact vf sd (ts,y)
   cases hin:dy f k ts y sd with
   | none=>rw[hin]at h;clear ih hl hf H ht hb hlt e hmul hin;cases h
   | some q=>
    obtain⟨b1,st1⟩:=q;have inv:=PS f k ts y sd st1 b1 hin Gp Gd (by exact wX hlt hdl);have hfu:m+k+n+97=(m+n+52)+k+45:=by exact EU
    have run:=λρ1 (H1:bq f (bL ts) y true ρ1)=>PN f z k ts y sd st1 b1 (m+n+52) ρ1 hin Gp (by exact EV hl hdl hmul) (by exact wX hlt hdl) H1;rw[hin]at h;cases b1 with
    | true=>
     have h2:=Xv (W9 h);refine aS (h2.1) (aS (h2.2) ?_);have body:∃ρ1,pst (m+k+n+100) cT ρ [⟨some z,br st⟩] oB=some (.ret (.val (.bool true)),ρ1,[⟨some z,br st1⟩]):=by
      refine aa (ea) (PU H (m+k+n+60) (bL ts) y z (br sd) λρ1 H1=>?_);rcases run ρ1 H1 with ⟨_,ρ2,e2⟩ | ⟨c,_⟩
      ·rw[<-hfu]at e2;exact⟨ρ2,dm e2⟩
      ·cases c
     refine al body λρ1 e1=>?_;have w:=Ba (p:=fX oW) ht e1;rw[<-vh]at w;exact⟨ρ1,w⟩
    | false=>
     have body:∃ρ1,pst (m+k+n+100) cT ρ [⟨some z,br st⟩] oB=some (.next,ρ1,[⟨some z,br st1⟩])/\lg f ρ1:=by
      refine aa (ea) (PW H (m+k+n+60) (bL ts) y z (br sd) λρ1 H1=>?_);rcases run ρ1 H1 with ⟨c,_⟩ | ⟨_,ρ2,x2,y2,e2,H2⟩
      ·cases c
      ·rw[<-hfu]at e2;exact(ah ρ2 (dm e2) (.inr ⟨x2,y2,false,H2⟩))
     refine af body λρ1 e1 H1=>al (ih st1 st' b m ρ1 h inv.1 (by have:=inv.2.2.1;exact EW hl hdl hmul inv) inv.2.1 H1) λρ2 e2=>?_;have w:=l9 (p:=fX oW) ht e1;rw[<-vh]at w;exact⟨ρ2,w.trans e2⟩
theorem PZ:bt (am 24)=[oW,au 24 1]:=by rfl'
theorem P9(n:Nat)(ρ:ai)(z:Int)(l:List AV):pex (n+10) cT ρ [⟨some z,l⟩] (au 24 1)=some (.ret (.val (.bool false)),ρ,[⟨some z,l⟩]):=by rfl'
theorem Qa{f k n:Nat}{z:Int}{st st':St}{b:Bool}(h:cj f k n st=some (b,st'))(G:∀p∈st,dP p)(hl:st.length+n * k<=4000)(hf:f<=st.length)(hkn:k+n<=1800) :
  hH T1 0 [] 2000 (am 24) ⟨some z,br st⟩ [.int (.ofNat f)]=some (.bool b,⟨some z,br st'⟩):=by
 refine al (PY f k z n st st' b (1899-k-n) (tA f) h G hl hf (.inl rfl)) λρ1 e=>?_;have hfu:1899-k-n+k+n+100=1999:=by exact EX hkn
 rw[hfu]at e;have key:∃ρ',pst 2000 cT (tA f) [⟨some z,br st⟩] (bt (am 24))=some (.ret (.val (.bool b)),ρ',[⟨some z,br st'⟩]):=by
  refine aa PZ ?_;cases b with
  | true=>exact⟨ρ1,i9 e⟩
  | false=>exact⟨ρ1,(aR e).trans (i9 (P9 1988 ρ1 z (br st')))⟩
 exact al key λρ' e2=>AI (ρ0:=tA f) (ρ':=ρ') (rest:=[]) (by rfl') (by rfl') e2
noncomputable def fixedAt:List Nat->List Nat->Option (List Nat)
 | [],y=>some y
 | _::_,[]=>none
 | d::ds,c::y=>gd (bg (kd d) c) (fixedAt ds y)
theorem Qb(f:Nat):∀(k k':Nat)(ts:List Tk)(y:List Nat)(st:St),ts.length+y.length<k->ts.length+y.length<k'->dy f k ts y st=dy f k' ts y st:=by
 intro k;induction k with
 | zero=>intro k' ts y st h;exact absurd h (ZX _)
 | succ k ih=>
  intro k' ts y st h h';cases k' with
  | zero=>exact absurd h' (ZX _)
  | succ k'=>
   cases ts with
   | nil=>cases y<;>rfl
   | cons t r=>
    rw[W5]at h h';cases t with
    | lz=>
     cases y with
     | nil=>exact ih k' r [] st (by exact kq h) (by omega)
     | cons c y=>exact ih k' r (c::y) _ (by omega) (by exact kq h')
    | gr=>
     cases y with
     | nil=>exact ih k' r [] st (by exact kq h) (by exact kq h')
     | cons c y=>exact ih k' (.gr::r) y _ (by simp only[W5]at h h' ⊢;omega) (by simp only[W5]at h h' ⊢;exact E6 h')
    | op=>exact ih k' r y st (by exact kq h) (by exact kq h')
    | cl=>exact ih k' r y _ (by exact kq h) (by exact kq h')
    | «at» d=>
     cases y with
     | nil=>rfl
     | cons c y=>
      show cond (bg (kd d) c) (dy f k r y st) _=cond (bg (kd d) c) (dy f k' r y st) _;cases bg (kd d) c with
      | false=>rfl
      | true=>exact ih k' r y st (by simp only[W5]at h h';exact wz h) (by simp only[W5]at h h';exact wz h')
noncomputable def bC(f K n:Nat)(ts:List Tk)(y:List Nat)(st:St):Option (Bool×St):=bp (dy f K ts y st) λb st'=>cond b (some (true,st')) (cj f K n st')
section
variable{f K:Nat}{ts r:List Tk}{y:List Nat}{st:St}{c:Nat}
theorem mc{ts':List Tk}{y':List Nat}{st':St}(h:dy f K ts y st=dy f K ts' y' st'):bC f K n ts y st=bC f K n ts' y' st':=by unfold bC;rw[h]
theorem md{K:Nat}{ts ts':List Tk}{y y':List Nat}{st st':St}(hk:ts.length+y.length<K)(hm:ts'.length+y'.length<ts.length+y.length)(h:∀k,dy f (k+1) ts y st=dy f k ts' y' st'):dy f K ts y st=dy f K ts' y' st':=by
 cases K with
 | zero=>exact absurd hk (ZX _)
 | succ k=>(refine aa (h k) ?_);exact Qb f k (k+1) ts' y' st' (by exact E4 hm hk) (by omega)
theorem vm(hk:0<K):bC f K n [] [] st=some (true,st.take f):=by
 cases K with
 | zero=>exact absurd hk (XR _)
 | succ k=>rfl
theorem BB(hk:0<K):bC f K n [] (c::y) st=cj f K n st:=by
 cases K with
 | zero=>exact absurd hk (XR _)
 | succ k=>rfl
theorem Qc(hk:(Tk.lz::r).length+0<K):bC f K n (.lz::r) [] st=bC f K n r [] st:=mc (md hk (by simp) λ_=>rfl)
theorem Qd(hk:(Tk.lz::r).length+(c::y).length<K):bC f K n (.lz::r) (c::y) st=bC f K n r (c::y) (st++[(.lz::r,y)]):=mc (md hk (by simp only[W5];lia) λ_=>rfl)
theorem Qe(hk:(Tk.gr::r).length+0<K):bC f K n (.gr::r) [] st=bC f K n r [] st:=mc (md hk (by simp) λ_=>rfl)
theorem Qf(hk:(Tk.gr::r).length+(c::y).length<K):bC f K n (.gr::r) (c::y) st=bC f K n (.gr::r) y (st++[(r,c::y)]):=mc (md hk (by simp only[W5];exact GY) λ_=>rfl)
theorem Qg(hk:(Tk.op::r).length+y.length<K):bC f K n (.op::r) y st=bC f K n r y st:=mc (md hk (by simp only[W5];omega) λ_=>by clear hk;cases y<;>rfl)
theorem BC(hk:(Tk.cl::r).length+y.length<K):bC f K n (.cl::r) y st=bC f K n r y (st.take f):=mc (md hk (by simp only[W5];omega) λ_=>by clear hk;cases y<;>rfl)
theorem Qh{d:Nat}(hk:0<K):bC f K n (.at d::r) [] st=cj f K n st:=by
 cases K with
 | zero=>exact absurd hk (XR _)
 | succ k=>rfl
theorem Qi{d:Nat}(hk:(Tk.at d::r).length+(c::y).length<K):bC f K n (.at d::r) (c::y) st=(match bg (kd d) c with | true=>bC f K n r y st | false=>cj f K n st):=by
 cases hb:bg (kd d) c with
 | true=>exact mc (md hk (by simp only[W5];exact GZ) λk=>by show cond (bg (kd d) c) (dy f k r y st) _=_;rw[hb];rfl)
 | false=>
  cases K with
  | zero=>exact absurd hk (ZX _)
  | succ k=>show bp (cond (bg (kd d) c) (dy f k r y st) (some (false,st))) _=_;rw[hb];rfl
theorem rc(h:st.length<=f):cj f K (n+1) st=some (false,st):=By (by rw[Bool.eq_false_iff];intro c;rw[Za]at c;exact ms h c)
theorem vn(h:f<=st.length):cj f K (n+1) (st++[(ts,y)])=bC f K n ts y st:=by
 refine aa (Bz (p:=(ts,y)) (by rw[Za,Om];simp only[W5,Xq];omega) (by simp)) ?_;refine aa (List.dropLast_concat) ?_;rfl
theorem ni:∀(ds:List Nat)(y:List Nat),(ds.length+r.length)+y.length<K->bC f K n (ds.map .at++r) y st=oc (fixedAt ds y) (λy'=>bC f K n r y' st) (cj f K n st)
 | [],y,_=>rfl
 | d::ds,[],h=>Qh (by exact Ha h)
 | d::ds,c::y,h=>by
  simp only[W5]at h;show bC f K n (.at d::(ds.map .at++r)) (c::y) st=_;refine aa (Qi (by simp only[W5,Om,W7];exact Hb h)) ?_;show _=oc (gd (bg (kd d) c) (fixedAt ds y)) _ _;cases bg (kd d) c with
  | false=>rfl
  | true=>exact ni ds y (by exact Hc h)
end
theorem lh:∀{ds y y'},fixedAt ds y=some y'->y.length=ds.length+y'.length
 | [],y,y',h=>by cases h;simp
 | _::_,[],y',h=>by cases h
 | d::ds,c::y,y',h=>by
  refine aK h λ_ h=>?_;rw[W5,W5,lh h];exact E5
noncomputable def eP(s:List Nat):List Nat->Option (List Nat)
 | []=>fixedAt s []
 | c::y=>match fixedAt s (c::y) with
  | some y'=>some y'
  | none=>eP s y
noncomputable def gt(s:List Nat):List Nat->Bool
 | []=>(fixedAt s []).isSome
 | c::y=>gt s y||fixedAt s (c::y)==some []
noncomputable def nj:List (List Nat)->List Nat->Bool
 | [],y=>y.isEmpty
 | [s],y=>gt s y
 | s::cg::r,y=>match eP s y with
  | some y'=>nj (cg::r) y'
  | none=>false
noncomputable def fZ:List (List Nat)->List Tk
 | []=>[]
 | [s]=>.gr::s.map .at
 | s::cg::r=>.op::.lz::(s.map .at++.cl::fZ (cg::r))
theorem vp{s y':List Nat}(h:fixedAt s []=some y'):y'=[]:=by
 have:=lh h;skip;exact XY (by exact wA this)
theorem rd{st:St}{f:Nat}(h:st.length=f):st.take f=st:=by rw[<-h];exact List.take_length ..
theorem BD{s:List Nat}:∀{y y':List Nat},eP s y=some y'->y'.length<=y.length
 | [],y',h=>by have:=lh h;simp only[Xq]at this ⊢;exact Hd this
 | c::y,y',h=>by
  dsimp only[eP]at h;split at h
  ·rename_i e;cases h;have:=lh e;exact He this
  ·have:=BD h;simp only[W5];exact w5 this
section
variable{f K:Nat}{r:List Tk}{st:St}
theorem BE(s:List Nat)(hst:st.length=f):∀(y:List Nat)(n:Nat),s.length+r.length+y.length+4<K->y.length<n->
  (∀y',eP s y=some y'->∃n',n<=n'+y.length/\bC f K n (.lz::(s.map .at++.cl::r)) y st=bC f K n' r y' st)/\(eP s y=none->bC f K n (.lz::(s.map .at++.cl::r)) y st=some (false,st))
 | [],n,hk,hn=>by
  have e:bC f K n (.lz::(s.map .at++.cl::r)) [] st=oc (fixedAt s []) (λy'=>bC f K n (.cl::r) y' st) (cj f K n st):=by
   refine aa (Qc (by simp only[W5,Om,W7];exact E7 hk)) ?_;exact ni s [] (by simp only[W5,Xq]at hk ⊢;omega)
  constructor
  ·intro y' h;dsimp only[eP]at h;have h0:=vp h;subst h0;refine(ah n (by omega) ?_);refine aa (e) (aa (h) ?_);show bC f K n (.cl::r) _ _=_;rw[BC (by simp only[W5,Xq]at hk ⊢;exact Hg hk),rd hst]
  ·intro h;dsimp only[eP]at h;refine aa (e) (aa (h) ?_);obtain⟨m,rfl⟩:∃m,n=m+1:=⟨n-1,by simp only[Xq]at hn;exact Fa hn⟩;exact rc (by omega)
 | c::y,n,hk,hn=>by
  simp only[W5]at hk hn;have e:bC f K n (.lz::(s.map .at++.cl::r)) (c::y) st=oc (fixedAt s (c::y)) (λy'=>bC f K n (.cl::r) y' (st++[(.lz::(s.map .at++.cl::r),y)])) (cj f K n (st++[(.lz::(s.map .at++.cl::r),y)])):=by
   refine aa (Qd (by simp only[W5,Om,W7];exact Fb hk)) ?_;exact ni s (c::y) (by simp only[W5];exact Fc hk)
  cases hs:fixedAt s (c::y) with
  | some y1=>
   have hl:=lh hs;simp only[W5]at hl;constructor
   ·intro y' h;dsimp only[eP]at h;rw[hs]at h;cases h;refine(ah n (by exact mt) ?_);refine aa (e) (aa (hs) ?_);show bC f K n (.cl::r) _ _=_;rw[BC (by simp only[W5];exact Fd hk hl),List.take_append_of_le_length (by exact pG hst),rd hst]
   ·intro h;dsimp only[eP]at h;rw[hs]at h;cases h
  | none=>
   obtain⟨m,rfl⟩:∃m,n=m+1:=⟨n-1,by exact Fe hn⟩;have e2:bC f K (m+1) (.lz::(s.map .at++.cl::r)) (c::y) st=bC f K m (.lz::(s.map .at++.cl::r)) y st:=by
    exact aa (e) (aa (hs) (vn (by exact pG hst)))
   refine aw (BE s hst y m (by exact Ff hk) (by exact Fg hn)) λi1 i2=>?_;constructor
   ·intro y' h;dsimp only[eP]at h;rw[hs]at h;exact af (i1 y' h) λn' a b=>(ah n' (by simp only[W5];exact Fh a) (e2.trans b))
   ·intro h;dsimp only[eP]at h;rw[hs]at h;exact e2.trans (i2 h)
theorem BF(s:List Nat):∀(y:List Nat)(n:Nat)(st:St),f<=st.length->s.length+y.length+4<K->y.length<n->
  (gt s y=true->bC f K n (.gr::s.map .at) y st=some (true,st.take f))/\(gt s y=false->∃n',n<=n'+y.length/\bC f K n (.gr::s.map .at) y st=cj f K n' st)
 | [],n,st,hf,hk,hn=>by
  have e:bC f K n (.gr::s.map .at) [] st=oc (fixedAt s []) (λy'=>bC f K n [] y' st) (cj f K n st):=by
   refine aa (Qe (by simp only[W5,W7];omega)) ?_;have:=ni (f:=f) (n:=n) (st:=st) (r:=[]) (K:=K) s [] (by simp only[Xq]at hk ⊢;omega);rwa [Yc]at this
  cases h:fixedAt s [] with
  | some y'=>
   have h0:=vp h;subst h0;refine⟨λ_=>?_,λc=>?_⟩
   ·rw[e,h];exact vm (by exact Hf hk)
   ·dsimp only[gt]at c;rw[h]at c;cases c
  | none=>
   refine⟨λc=>?_,λ_=>(ah n (by omega) ?_)⟩
   ·dsimp only[gt]at c;rw[h]at c;cases c
   ·rw[e,h];rfl
 | c::y,n,st,hf,hk,hn=>by
  simp only[W5]at hk hn;have e:bC f K n (.gr::s.map .at) (c::y) st=bC f K n (.gr::s.map .at) y (st++[(s.map .at,c::y)]):=Qf (by simp only[W5,W7];omega);have hf2:f<=(st++[(s.map Tk.at,c::y)]).length:=by rw[Om];omega
  refine aw (BF s y n (st++[(s.map .at,c::y)]) hf2 (by omega) (by exact Hi hn)) λi1 i2=>?_;have ht:(st++[(s.map Tk.at,c::y)]).take f=st.take f:=List.take_append_of_le_length hf;cases hy:gt s y with
  | true=>
   refine⟨λ_=>?_,λh=>?_⟩
   ·rw[e,i1 hy,ht]
   ·dsimp only[gt]at h;rw[hy]at h;exact sm h
  | false=>
   refine af (i2 hy) λn' a b=>?_;obtain⟨m,rfl⟩:∃m,n'=m+1:=⟨n'-1,by omega⟩;have e2:bC f K n (.gr::s.map .at) (c::y) st=oc (fixedAt s (c::y)) (λy'=>bC f K m [] y' st) (cj f K m st):=by
    refine aa (e) (aa (b) (aa (vn hf) ?_));have:=ni (f:=f) (n:=m) (st:=st) (r:=[]) (K:=K) s (c::y) (by simp only[W5,Xq];omega);rwa [Yc]at this
   cases h:fixedAt s (c::y) with
   | none=>
    refine⟨λq=>?_,λ_=>(ah m (by simp only[W5];omega) ?_)⟩
    ·dsimp only[gt]at q;rw[hy,h]at q;cases q
    ·rw[e2,h];rfl
   | some y'=>
    cases y' with
    | nil=>
     refine⟨λ_=>?_,λq=>?_⟩
     ·rw[e2,h];exact vm (by omega)
     ·dsimp only[gt]at q;rw[hy,h]at q;cases q
    | cons c1 y1=>
     refine⟨λq=>?_,λ_=>(ah m (by simp only[W5];omega) ?_)⟩
     ·dsimp only[gt]at q;rw[hy,h]at q;cases q
     ·rw[e2,h];exact BB (by omega)
theorem vq:∀ss:List (List Nat),(fZ ss).length<=ss.length * 3+(ss.map (·.length)).sum
 | []=>Xs _
 | [s]=>by simp[fZ];omega
 | s::cg::r=>by
  have:=vq (cg::r);simp only[fZ,W5,Om,W7,YE,List.sum_cons]at this ⊢;omega
theorem BG(hst:st.length=f):∀(ss:List (List Nat))(y:List Nat)(n:Nat),(fZ ss).length+y.length+8<K->(ss.length+1) * (y.length+1)<n->bC f K n (fZ ss) y st=some (nj ss y,st)
 | [],[],n,hk,hn=>by
  show bC f K n [] [] st=_;rw[vm (by omega),rd hst];rfl
 | [],c::y,n,hk,hn=>by
  show bC f K n [] (c::y) st=_;refine aa (BB (by omega)) ?_;obtain⟨m,rfl⟩:∃m,n=m+1:=⟨n-1,by simp only[W5]at hn;omega⟩;exact rc (by omega)
 | [s],y,n,hk,hn=>by
  simp only[fZ,W5,W7,Xq]at hk hn;refine aw (BF (f:=f) (K:=K) s y n st (by omega) (by omega) (by exact E9 hn)) λi1 i2=>?_;show bC f K n (.gr::s.map .at) y st=some (gt s y,st);cases h:gt s y with
  | true=>rw[i1 h,rd hst]
  | false=>
   refine af (i2 h) λn' a b=>aa (b) ?_;obtain⟨m,rfl⟩:∃m,n'=m+1:=⟨n'-1,by omega⟩;exact rc (by omega)
 | s::cg::r,y,n,hk,hn=>by
  have hk':=hk;simp only[fZ,W5,Om,W7]at hk;have hT:fZ (s::cg::r)=.op::.lz::(s.map .at++.cl::fZ (cg::r)):=rfl;have hn1:y.length<n:=by
   have:(y.length+1) * 1<=(y.length+1) * ((s::cg::r).length+1):=Nat.mul_le_mul_left _ (by exact wB);rw[Nat.mul_comm]at hn;exact Hj hn this
  refine aa (hT) ?_;refine aa (Qg (by simp only[W5,Om,W7];exact Hk hk)) ?_;refine aw (BE (f:=f) (K:=K) (r:=fZ (cg::r)) s hst y n (by exact Hl hk) hn1) λi1 i2=>?_;show _=some ((match eP s y with | some y'=>nj (cg::r) y' | none=>false),st);cases h:eP s y with
  | none=>exact i2 h
  | some y'=>
   refine af (i1 y' h) λn' a b=>aa (b) ?_;have hl:=BD h;refine BG hst (cg::r) y' n' (by exact Hm hk hl) ?_;have h1:((cg::r).length+1) * (y'.length+1)<=((cg::r).length+1) * (y.length+1):=Nat.mul_le_mul_left _ (by lia);have h2:((s::cg::r).length+1) * (y.length+1)=((cg::r).length+1) * (y.length+1)+(y.length+1):=by
    rw[show(s::cg::r).length+1=((cg::r).length+1)+1 from rfl,Nat.succ_mul]
   exact Hn hn a h1 h2
end
noncomputable def cZ(p:List Nat×List (List Nat)):List Tk:=p.1.map .at++fZ p.2
noncomputable def nk(p:List Nat×List (List Nat))(y:List Nat):Bool:=match fixedAt p.1 y with
 | some y'=>nj p.2 y'
 | none=>false
theorem Qj{f K n:Nat}{st:St}(p:List Nat×List (List Nat))(y:List Nat)(hst:st.length=f)(hk:(cZ p).length+y.length+8<K)(hn:(p.2.length+1) * (y.length+1)+1<n):cj f K n (st++[(cZ p,y)])=some (nk p y,st):=by
 obtain⟨m,rfl⟩:∃m,n=m+1:=⟨n-1,by omega⟩;refine aa (vn (by omega)) ?_;unfold cZ at hk ⊢;rw[Om,W7]at hk;refine aa (ni p.1 y (by exact E8 hk)) ?_;unfold nk;cases h:fixedAt p.1 y with
 | none=>
  obtain⟨m2,rfl⟩:∃m2,m=m2+1:=⟨m-1,by omega⟩;exact rc (by exact Hh hst)
 | some y'=>
  have hl:=lh h;refine BG hst p.2 y' m (by omega) ?_;have h1:(p.2.length+1) * (y'.length+1)<=(p.2.length+1) * (y.length+1):=Nat.mul_le_mul_left _ (by omega);omega
noncomputable def Mt:List Nat->List Nat->Prop
 | [],y=>y=[]
 | d::ds,y=>cond (bz d) (∃a b,y=a++b/\Mt ds b) (∃c t,y=c::t/\bg (kd d) c=true/\Mt ds t)
theorem oU{d:Nat}{ds y:List Nat}(h:bz d=true):Mt (d::ds) y↔∃a b,y=a++b/\Mt ds b:=by
 show cond (bz d) (∃a b,y=a++b/\Mt ds b) (∃c t,y=c::t/\bg (kd d) c=true/\Mt ds t)↔_;rw[h];rfl
theorem me{d:Nat}{ds y:List Nat}(h:bz d=false):Mt (d::ds) y↔∃c t,y=c::t/\bg (kd d) c=true/\Mt ds t:=by
 show cond (bz d) (∃a b,y=a++b/\Mt ds b) (∃c t,y=c::t/\bg (kd d) c=true/\Mt ds t)↔_;rw[h];rfl
theorem oV:∀(ds es y:List Nat),Mt (ds++es) y↔∃a b,y=a++b/\Mt ds a/\Mt es b
 | [],es,y=>⟨λh=>(bM ([]) y rfl rfl h),λzq0=>bb zq0 λa b e h1 h2=>by subst h1;subst e;exact h2⟩
 | d::ds,es,y=>by
  show Mt (d::(ds++es)) y↔_;cases hd:bz d with
  | true=>
   rw[oU hd];constructor
   ·rintro⟨a,b,rfl,h⟩;refine bb ((oV ds es b).mp h) λb1 b2 zr2 h1 h2=>?_;clear h;subst zr2;exact(bM (a++b1) b2 (by rw[XO]) ((oU hd).mpr (cx a b1 rfl h1)) h2)
   ·rintro⟨a,b,rfl,h1,h2⟩;refine cw ((oU hd).mp h1) λa1 a2 zr2 h3=>?_;clear h1;subst zr2;exact(cx a1 (a2++b) (by rw[XO]) ((oV ds es _).mpr (bM a2 b rfl h3 h2)))
  | false=>
   rw[me hd];constructor
   ·rintro⟨c,t,rfl,hc,h⟩;refine bb ((oV ds es t).mp h) λb1 b2 zr2 h1 h2=>?_;clear h;subst zr2;exact(bM (c::b1) b2 rfl ((me hd).mpr (bM c b1 rfl hc h1)) h2)
   ·rintro⟨a,b,rfl,h1,h2⟩;refine bb ((me hd).mp h1) λc t zr2 hc h3=>?_;clear h1;subst zr2;exact(bM c (t++b) rfl hc ((oV ds es _).mpr (bM t b rfl h3 h2)))
noncomputable def nl(s:List Nat):Prop:=∀d∈s,bz d=false
theorem vr:∀{s y y':List Nat},fixedAt s y=some y'->∃u,y=u++y'
 | [],y,y',h=>by cases h;exact⟨[],rfl⟩
 | _::_,[],y',h=>by cases h
 | d::s,c::y,y',h=>by
  exact aK h λ_ h=>al (vr h) λu e=>⟨c::u,by rw[e];rfl⟩
noncomputable def MS:List (List Nat)->List Nat->Prop
 | [],y=>y=[]
 | s::ss,y=>∃a b,y=a++b/\∃y',fixedAt s b=some y'/\MS ss y'
theorem vt{s:List Nat}{ss:List (List Nat)}{a y:List Nat}(h:MS (s::ss) y):MS (s::ss) (a++y):=by
 refine mq h λa1 b zr2 y' h1 h2=>?_;clear h;subst zr2;exact⟨a++a1,b,by rw[XO],y',h1,h2⟩
theorem BH{s:List Nat}:∀{y y':List Nat},eP s y=some y'->∃a b,y=a++b/\fixedAt s b=some y'
 | [],y',h=>(cx ([]) ([]) rfl h)
 | c::y,y',h=>by
  dsimp only[eP]at h;split at h
  ·rename_i e;cases h;exact(cx ([]) (c::y) rfl e)
  ·exact cw (BH h) λa b e h1=>(cx (c::a) b (by rw[e];rfl) h1)
theorem Qk{s:List Nat}:∀{a b y1:List Nat},fixedAt s b=some y1->∃y',eP s (a++b)=some y'/\∃u,y'=u++y1:=by
 intro a;induction a with
 | nil=>
  intro b y1 h;cases b with
  | nil=>exact⟨y1,h,[],rfl⟩
  | cons c b=>exact⟨y1,by show(match fixedAt s (c::b) with | some y'=>some y' | none=>eP s b)=_;rw[h],[],rfl⟩
 | cons c a ih=>
  intro b y1 h;show ∃y',(match fixedAt s (c::(a++b)) with | some y'=>some y' | none=>eP s (a++b))=some y'/\_;cases e:fixedAt s (c::(a++b)) with
  | none=>exact ih h
  | some y2=>
   refine(ah y2 rfl ?_);have h1:=lh e;have h2:=lh h;refine al (vr e) λu2 e2=>al (vr h) λu1 e1=>?_;rw[e1]at e2;simp only[W5,Om]at h1 h2;have hl:y1.length<=y2.length:=by exact Fi h2 h1
   have e3:(c::(a++u1))++y1=u2++y2:=by rw[<-e2];simp
   refine⟨y2.take (y2.length-y1.length),?_⟩;have hd:y2.drop (y2.length-y1.length)=y1:=by
    have:=congrArg (λl=>l.drop (l.length-y1.length)) e3;simp only[Om,W5]at this;rw[show(a.length+u1.length+1+y1.length-y1.length)=(c::(a++u1)).length from by simp,List.drop_left]at this;rw[show u2.length+y2.length-y1.length=u2.length+(y2.length-y1.length) from by exact Fj h2 h1,<-List.drop_drop,List.drop_left]at this;exact this.symm
   conv=>lhs;rw[<-List.take_append_drop (y2.length-y1.length) y2]
   simp only[hd]
theorem BI{s:List Nat}:∀{y:List Nat},gt s y=true↔MS [s] y
 | []=>by
  show(fixedAt s []).isSome=true↔_;constructor
  ·intro h;exact al (Zd.mp h) λy' e=>⟨[],[],rfl,y',e,vp e⟩
  ·rintro⟨a,b,e,y',h1,rfl⟩;have:b=[]:=by
    have:=congrArg ZT e;simp only[Xq,Om]at this;exact XY (by exact wA this)
   subst this;rw[h1];rfl
 | c::y=>by
  show(gt s y||fixedAt s (c::y)==some [])=true↔_;rw[Bool.or_eq_true,BI (y:=y),beq_iff_eq];constructor
  ·rintro(h | h)
   ·exact vt (a:=[c]) h
   ·exact⟨[],c::y,rfl,[],h,rfl⟩
  ·rintro⟨a,b,e,y',h1,rfl⟩;cases a with
   | nil=>right;rw[show c::y=b from e];exact h1
   | cons c' a=>
    left;cases e;exact⟨a,b,rfl,[],h1,rfl⟩
theorem vv:∀{ss:List (List Nat)}{y:List Nat},nj ss y=true↔MS ss y
 | [],y=>by
  show y.isEmpty=true↔y=[];cases y<;>simp
 | [s],y=>BI
 | s::cg::r,y=>by
  show(match eP s y with | some y'=>nj (cg::r) y' | none=>false)=true↔_;constructor
  ·intro h;cases e:eP s y with
   | none=>rw[e]at h;exact eE h
   | some y'=>
    rw[e]at h;exact cw (BH e) λa b e1 e2=>⟨a,b,e1,y',e2,vv.mp h⟩
  ·rintro⟨a,b,rfl,y1,h1,h2⟩;refine Dw (Qk (a:=a) h1) λy' e u zr3=>?_;subst zr3;rw[e];exact vv.mpr (vt h2)
noncomputable def kf(q:List Nat×List (List Nat)):List Nat×List (List Nat):=match q.1,q.2 with
 | [],s::ss=>([],s::ss)
 | p,ss=>([],p::ss)
noncomputable def aZ:List Nat->List Nat×List (List Nat)
 | []=>([],[])
 | d::ds=>cond (bz d) (kf (aZ ds)) (d::(aZ ds).1,(aZ ds).2)
theorem np{d:Nat}{ds:List Nat}(hd:bz d=true):aZ (d::ds)=kf (aZ ds):=by
 show cond (bz d) _ _=_;rw[hd];rfl
theorem nq{d:Nat}{ds:List Nat}(hd:bz d=false):aZ (d::ds)=(d::(aZ ds).1,(aZ ds).2):=by
 show cond (bz d) _ _=_;rw[hd];rfl
theorem Ql:∀{p:List Nat}{ss:List (List Nat)},nl p->(∀s∈ss,nl s)->nl (kf (p,ss)).1/\∀s∈(kf (p,ss)).2,nl s
 | [],s::ss,_,h2=>⟨λ_ h=>(nomatch h),h2⟩
 | [],[],h1,_=>⟨λ_ h=>(nomatch h),λs hs=>Xi.mp hs▸h1⟩
 | a::p,ss,h1,h2=>⟨λ_ h=>(nomatch h),λs hs=>(Xk.mp hs).elim (λe=>e▸h1) (h2 s)⟩
theorem oX:∀(ds:List Nat),nl (aZ ds).1/\∀s∈(aZ ds).2,nl s
 | []=>⟨λ_ h=>(nomatch h),λ_ h=>(nomatch h)⟩
 | d::ds=>by
  refine aw (oX ds) λh1 h2=>?_;cases hd:bz d with
  | true=>exact np hd▸Ql h1 h2
  | false=>exact nq hd▸⟨λq hq=>(Xk.mp hq).elim (λe=>e▸hd) (h1 q),h2⟩
theorem oY:∀(ds y:List Nat),Mt ds y↔∃y',fixedAt (aZ ds).1 y=some y'/\MS (aZ ds).2 y'
 | [],y=>⟨λh=>(ah y rfl h),λzq0=>af zq0 λy' h1 h2=>by cases h1;exact h2⟩
 | d::ds,y=>by
  have hf:=oX ds;cases hd:bz d with
  | false=>
   rw[me hd];rw[nq hd];constructor
   ·rintro⟨c,t,rfl,hc,h⟩;exact af ((oY ds t).mp h) λy' h1 h2=>(ah y' (cV hc h1) h2)
   ·rintro⟨y',h1,h2⟩;cases y with
    | nil=>exact aT h1
    | cons c t=>
     exact aK h1 λhc h1=>bM c t rfl hc ((oY ds t).mpr (ah y' h1 h2))
  | true=>
   rw[oU hd];have key:(∃a b,y=a++b/\Mt ds b)↔MS ((aZ ds).1::(aZ ds).2) y:=by
    constructor
    ·rintro⟨a,b,e,h⟩;exact af ((oY ds b).mp h) λy' h1 h2=>⟨a,b,e,y',h1,h2⟩
    ·rintro⟨a,b,e,y',h1,h2⟩;exact(cx a b e ((oY ds b).mpr (ah y' h1 h2)))
   rw[key,np hd];generalize aZ ds=q;obtain⟨p,ss⟩:=q;cases p with
   | nil=>
    cases ss with
    | nil=>exact⟨λh=>(ah y rfl h),λzq1=>af zq1 λy' h1 h2=>by cases h1;exact h2⟩
    | cons s ss=>
     constructor
     ·rintro⟨a,b,rfl,y',h1,h2⟩;cases h1;exact(ah (a++b) rfl (vt h2))
     ·rintro⟨y',h1,h2⟩;cases h1;exact⟨[],y,rfl,y,rfl,h2⟩
   | cons q p=>exact⟨λh=>(ah y rfl h),λzq2=>af zq2 λy' h1 h2=>by (injection h1 with zi;subst zi);exact h2⟩
theorem Qm(ds y:List Nat):nk (aZ ds) y=true↔Mt ds y:=by
 rw[oY];unfold nk;cases e:fixedAt (aZ ds).1 y with
 | none=>
  constructor
  ·intro h;cases h
  ·rintro⟨y',h1,_⟩;cases h1
 | some y'=>
  refine vv.trans ?_;constructor
  ·intro h;exact(ah y' rfl h)
  ·rintro⟨y2,h1,h2⟩;cases h1;exact h2
theorem Qn{R:List Bool}{k:Nat}:(R.take (k+1)).any id=true↔∃j,j<=k/\R.getD j false=true:=by
 rw[List.any_eq_true];constructor
 ·rintro⟨b,hb,e⟩;obtain⟨j,hj,rfl⟩:=List.mem_iff_getElem.mp hb;rw[Xy]at hj;refine(ah j (by exact Fk hj) ?_);rw[List.getElem_take]at e;rw[Yb,Xo (by exact Fl hj)];exact e
 ·rintro⟨j,hj,e⟩;have hl:j<R.length:=by
   rcases Nat.lt_or_ge j R.length with h | h
   ·exact h
   ·rw[Yb,List.getElem?_eq_none h]at e;cases e
  rw[Yb,Xo hl]at e;exact(ah (R[j]) (List.mem_iff_getElem.mpr ⟨j,by rw[Xy];exact Fm hj hl,List.getElem_take ..⟩) e)
theorem re{n k:Nat}{g:Nat->Bool}(h:k<n):((Xr n).map g).getD k false=g k:=by
 (refine aa (Yb) ?_;refine aa (ZJ) ?_;refine aa (List.getElem?_range h) ?_);rfl
theorem Qo{nm':List Nat}{R:List Bool}{pre:List Nat}(d:Nat)(hl:R.length=nm'.length+1)(h:∀k,k<=nm'.length->(R.getD k false=true↔Mt pre (nm'.take k))):∀k,k<=nm'.length->((bu nm' R d).getD k false=true↔Mt (pre++[d]) (nm'.take k)):=by
 intro k hk;rw[oV];unfold bu;cases hd:bz d with
 | true=>
  dsimp only;rw[re (by exact Fn hl hk),Qn];constructor
  ·rintro⟨j,hj,e⟩;refine(bM (nm'.take j) ((nm'.take k).drop j) ?_ ((h j (by exact su hk hj)).mp e) ((oU hd).mpr (cx _ ([]) ((Yc _).symm) rfl)))
   conv=>lhs;rw[<-List.take_append_drop j (nm'.take k)]
   rw[List.take_take,Nat.min_eq_left hj]
  ·rintro⟨a,b,e,h1,_⟩;have hla:a.length<=k:=by
    have:=congrArg ZT e;rw[Xy,Om]at this;exact Fo this
   refine(ah a.length hla ((h _ (by exact su hk hla)).mpr ?_));have:nm'.take a.length=a:=by
    have:=congrArg (List.take a.length) e;rw[List.take_take,Nat.min_eq_left hla,List.take_left]at this;exact this
   rw[this];exact h1
 | false=>
  dsimp only;cases k with
  | zero=>
   refine⟨λe=>(by exact eE e),λzq0=>bb zq0 λa b e zz h2=>?_⟩;refine cw ((me hd).mp h2) λc t zr2 zz=>?_;subst zr2;rw[List.take_zero]at e;cases a<;>injection e
  | succ k=>
   have hk':k<nm'.length:=hk;have htake:nm'.take (k+1)=nm'.take k++[nm'[k]]:=by (refine aa List.take_succ ?_;refine aa (Xo hk') ?_);rfl
   rw[show(false::(Xr nm'.length).map λk=>R.getD k false&&(nm'.map (bg (kd d))).getD k false).getD (k+1) false=((Xr nm'.length).map λk=>R.getD k false&&(nm'.map (bg (kd d))).getD k false).getD k false from rfl,
    re hk',YK,h k (by exact wY hk),htake,
    show(nm'.map (bg (kd d))).getD k false=bg (kd d) nm'[k] from by (refine aa (Yb) ?_;refine aa (ZJ) ?_;refine aa (Xo hk') ?_);rfl]
   constructor
   ·rintro⟨h1,h2⟩;exact(bM _ _ rfl h1 ((me hd).mpr (bM _ ([]) rfl h2 rfl)))
   ·rintro⟨a,b,e,h1,h2⟩;refine bb ((me hd).mp h2) λc t zr2 hc ht=>?_;subst zr2;subst ht;refine aw (List.append_inj' e rfl) λe1 e2=>?_;cases e2;subst e1;exact⟨h1,hc⟩
theorem BJ{nm':List Nat}:∀(ds pre:List Nat)(R:List Bool),R.length=nm'.length+1->(∀k,k<=nm'.length->(R.getD k false=true↔Mt pre (nm'.take k)))->∀k,k<=nm'.length->((ds.foldl (bu nm') R).getD k false=true↔Mt (pre++ds) (nm'.take k))
 | [],pre,R,_,h,k,hk=>by rw[Yc];exact h k hk
 | d::ds,pre,R,hl,h,k,hk=>by
  rw[show pre++d::ds=(pre++[d])++ds from by simp];exact BJ ds (pre++[d]) (bu nm' R d) (oO nm' R d hl) (Qo d hl h) k hk
theorem Qp(ds nm':List Nat)(k:Nat)(hk:k<=nm'.length):(fY ds nm').getD k false=true↔Mt ds (nm'.take k):=by
 refine BJ ds [] (fu nm') (by unfold fu;rw[W7,Yn]) (λj hj=>?_) k hk;unfold fu;rw[re (by exact wZ hj)];show(j==0)=true↔nm'.take j=[];rw[beq_iff_eq,List.take_eq_nil_iff];constructor
 ·intro h;exact .inl h
 ·rintro(h | h)
  ·exact h
  ·subst h;simp only[Xq]at hj;exact Ho hj
theorem rf(ds nm':List Nat):(fY ds nm').length=nm'.length+1:=by
 have:∀(ds:List Nat)(R:List Bool),R.length=nm'.length+1->(ds.foldl (bu nm') R).length=nm'.length+1:=by
  intro ds;induction ds with
  | nil=>exact λR h=>h
  | cons d ds ih=>exact λR h=>ih _ (oO nm' R d h)
 exact this ds _ (by unfold fu;rw[W7,Yn])
theorem Qq(ds nm':List Nat)(k:Nat)(hk:k<=nm'.length):nk (aZ ds) (nm'.take k)=(fY ds nm').getD k false:=by
 rw[ZI,Qm,Qp ds nm' k hk]
noncomputable def oZ:List Nat:=aav
noncomputable def T2:bh where
 fn:=λf vs=>cond (ax f jW) (bJ T1 0 [] 100 (am 19) vs) (T1.fn f vs)
 cf:=λf cl vs=>cond (ax f n4) (hH T1 0 [] 2000 (am 24) cl vs) (T1.cf f cl vs)
 gc:=λ_=>none
theorem BK(cl:bE)(vs:List AV):T2.cf n4 cl vs=hH T1 0 [] 2000 (am 24) cl vs:=by rfl'
noncomputable def cU:aH:={tab:=T2,sc:=aF (am 25),own:=[oZ],gen:=0}
noncomputable def bk(y:List Nat):List (List Nat):=(Xr (y.length+1)).map λk=>y.take k
noncomputable abbrev gh(y:List Nat):AV:=.lst ((bk y).map AV.str)
noncomputable abbrev u0:Stmt:=au 25 0
theorem Qr:u0=.Assign [.Name (eA u0) (dq u0)] (.ListComp (bw (ay u0)) [⟨fh (ay u0),fj (ay u0),[],0⟩] (fk (ay u0)) (fm (ay u0))) (du u0):=by rfl'
theorem Qs(n:Nat)(x y:List Nat)(z:Int)(h:y.length<=100):pex (n+20) cU [(aax,.val (.str x)),(aam,.val (.str y)),(aaE,.val (.int z))] [] u0=some (.next,[(aax,.val (.str x)),(aam,.val (.str y)),(aaE,.val (.int z)),(aaA,.val (gh y))],[]):=by
 rw[Qr];refine eC (by rfl') trivial (fo (it:=.rng 0 (.ofNat (y.length+1)) 1) (ts:=(Xr (y.length+1)).map λi=>AV.int (.ofNat i)) (vs:=(bk y).map AV.str) (ρ0:=[(aam,.val (.str y))]) (by rfl') (by rfl') (l7 (by exact wC h)) (by rfl') ?_) (by rfl');unfold bk;rw[YV];exact kc (h:=λk=>AV.str (y.take k)) (by rfl') λk _=>(ah ([(aam,.val (.str y)),([107],.val (.int (.ofNat k)))]) (by rfl') (by rfl'))
theorem Qt(n:Nat)(x y:List Nat)(z:Int):pex (n+20) cU [(aax,.val (.str x)),(aam,.val (.str y)),(aaE,.val (.int z)),(aaA,.val (gh y))] [] (au 25 1)=some (.next,[(aax,.val (.str x)),(aam,.val (.str y)),(aaE,.val (.int z)),(aaA,.val (gh y)),(aav,.cell 0)],[⟨some z,[]⟩]):=by rfl'
noncomputable abbrev u2:Stmt:=au 25 2
noncomputable abbrev iC:Stmt:=at_ (hK u2) 0
theorem Qu:u2=.For (gN u2) (m7 u2) [iC] [] (oE u2):=by rfl'
theorem Qv:iC=.Expr (.Call (.Attribute (.Name (m8 (bK iC)) (lZ (bK iC))) (l4 (bK iC)) (l5 (bK iC))) [(bx (bK iC)).getD 0 e0,(bx (bK iC)).getD 1 e0] [] (bB (bK iC))) (j9 iC):=by rfl'
noncomputable def uA(x y:List Nat)(z:Int):ai:=[(aax,.val (.str x)),(aam,.val (.str y)),(aaE,.val (.int z)),(aaA,.val (gh y)),(aav,.cell 0)]
noncomputable def uB(x y:List Nat)(z:Int)(h:List Nat):ai:=[(aax,.val (.str x)),(aam,.val (.str y)),(aaE,.val (.int z)),(aaA,.val (gh y)),(aav,.cell 0),(aaJ,.val (.str h))]
theorem BL(n:Nat)(x y h:List Nat)(z:Int)(l:List AV)(hl:l.length<=4096):pex (n+20) cU (uB x y z h) [⟨some z,l⟩] iC=some (.next,uB x y z h,[⟨some z,l++[aE (x,h)]⟩]):=by
 rw[Qv];exact je (jG (by rfl') (by rfl') (ke (q:=0) (cl:=⟨some z,l⟩) (cl':=⟨some z,l++[aE (x,h)]⟩) (vs:=[.str x,.str h]) trivial (by rfl') rfl rfl (by rfl') (oR hl)))
noncomputable def rh(n:Nat):AV->ai->S->Option (bG×ai×S):=λt ρ σ=>bo (eG cU.sc (gN u2) t ρ) λρ1=>pst n cU ρ1 σ [iC]
theorem BM(n:Nat)(x y:List Nat)(z:Int):∀(hs:List (List Nat))(l:List AV)(h0:List Nat),l.length+hs.length<=4000->
  ∃h1,gn (rh (n+30)) (hs.map AV.str) (uB x y z h0) [⟨some z,l⟩]=some (.next,uB x y z h1,[⟨some z,l++hs.map λh=>aE (x,h)⟩])
 | [],l,h0,_=>⟨h0,by rw[List.map_nil,List.map_nil,Yc];rfl⟩
 | h::hs,l,h0,hl=>by
  rw[W5]at hl;obtain⟨h1,e⟩:=BM n x y z hs (l++[aE (x,h)]) h (by rw[Om];simp only[W5,Xq];exact sv hl);refine⟨h1,?_⟩;have st:rh (n+30) (.str h) (uB x y z h0) [⟨some z,l⟩]=some (.next,uB x y z h,[⟨some z,l++[aE (x,h)]⟩]):=dm (BL (n+9) x y h z l (by exact sy hl));rw[YE,l6 st,e,YE,XO];rfl
theorem Qw(n:Nat)(x y:List Nat)(z:Int)(h:y.length<=100):∃h1,pex (n+40) cU (uA x y z) [⟨some z,[]⟩] u2=some (.next,uB x y z h1,[⟨some z,(bk y).map λh=>aE (x,h)⟩]):=by
 have hne:bk y=[]::(aac 1 y.length).map λk=>y.take k:=by
  unfold bk;rw[List.range_eq_range'];rfl
 have hl:(bk y).length<=101:=by unfold bk;rw[W7,Yn];exact Fp h
 rw[hne,W5]at hl;obtain⟨h1,e⟩:=BM (n+9) x y z ((aac 1 y.length).map λk=>y.take k) [aE (x,[])] [] (by simp only[W5,Xq];exact Hp hl);refine⟨h1,?_⟩;rw[Qu];refine qM (v:=.val (gh y)) (ts:=(bk y).map AV.str) (by rfl') (by rfl') ?_;rw[hne,YE];have st:rh (n+39) (.str []) (uA x y z) [⟨some z,[]⟩]=some (.next,uB x y z [],[⟨some z,[aE (x,[])]⟩]):=dm (BL (n+18) x y [] z [] (Y4 _));show gn (rh (n+39)) _ _ _=_;rw[l6 st,e];rfl
section
variable{c:aH}
theorem BN{e:Expr}{p:Pos}{a:AV}(h:pe (n+1) c ρ σ e=some (.val a,σ1)):pe (n+3) c ρ σ (.List [e] p)=some (.val (.lst [a]),σ1):=
 bs (a:=[a]) (b:=σ1) (dz h (bs (a:=[]) (b:=σ1) rfl rfl)) rfl
theorem BO{l r:Expr}{o:Z8}{p:Pos}{a b v:AV}(h1:pe n c ρ σ l=some (.val a,σ1))(h2:pe n c ρ σ1 r=some (.val b,σ2))(h:lF o a b=some v):pe (n+1) c ρ σ (.BinOp l o r p)=some (.val v,σ2):=dz h1 (dz h2 (lM h))
theorem BP{x:Str}{p q:Pos}{e:Expr}{v:AV}(ho:inL (nm x) c.own=false)(he:match e with | .Attribute ..=>False | _=>True)(h:pe n c ρ σ e=some (.val v,σ1))(hr:eN c.sc ρ x (.val v)=some ρ1):pex (n+1) c ρ σ (.Assign [.Name x p] e q)=some (.next,ρ1,σ1):=
 gE (b:=inL (nm x) c.own) ho (fB (AH he) (dz h (ba hr rfl)))
theorem BQ{x y:Expr}{p:Pos}(h1:pt (n+1) c ρ σ x=some (false,σ))(h2:pt n c ρ σ y=some (false,σ))(hn:1<=n):pt (n+3) c ρ σ (.BoolOp .Or [x,y] p)=some (false,σ):=by
 obtain⟨n,rfl⟩:∃m,n=m+1:=⟨n-1,by exact Fq hn⟩;exact bs (x:=pt (n+2) c ρ σ x) h1 (bs (x:=pt (n+1) c ρ σ y) h2 rfl)
theorem nt{f:Str}{q p:Pos}{args:List Expr}{vs:List PV}{v:PV}(hd:ax (nm f) eM=false)(h1:aB ρ (nm f)=none)(h2:gm c.sc (nm f)=some .globalImplicit)(h3:pargs n c ρ σ args=some (vs,σ1))(h4:js (nm f) σ1 vs=some v):pe (n+1) c ρ σ (.Call (.Name f q) args [] p)=some (v,σ1):=
 cV (b:=!ax (nm f) eM) (congrArg (!·) hd) (fB (x:=aB ρ (nm f)) h1 (cV (b:=jT (gm c.sc (nm f))) (congrArg jT h2) (bs h3 (lL (x:=js (nm f) σ1 vs) h4 rfl))))
theorem BR{k:Const}{ku:Nat}{kp:Pos}{m:Str}{ap p:Pos}{e:Expr}{x:List Nat}{l:List AV}{r:AV}(hg:match e with | .GeneratorExp ..=>False | .Constant ..=>False | _=>True)(hl:(XI ap.endLine p.line&&YU ([e]:List Expr).length 30)=true)(h1:pe n c ρ σ (.Constant k ku kp)=some (.val (.str x),σ))(h2:pe n c ρ σ e=some (.val (.lst l),σ))(h3:kG (nm m) x l=some r) :
  pe (n+2) c ρ σ (.Call (.Attribute (.Constant k ku kp) m ap) [e] [] p)=some (.val r,σ):=
 cV (b:=XI ap.endLine p.line&&YU ([e]:List Expr).length 30) hl (fB (x:=nT (.Constant k ku kp) m) rfl (cV (b:=iQ (.Constant k ku kp)) rfl (fB (x:=nU [e]) (by clear hl h2;cases e<;>first | rfl | exact hg.elim) (bs h1 (lL (x:=ir (PV.val (.str x))) (a:=AV.str x) rfl (lL (x:=dJ (.str x)) (a:=x) rfl (fB (x:=nR [e]) rfl (ba (x:=cu [e]) (a:=e) rfl (bs h2 (ba (x:=mz σ (PV.val (.lst l))) (a:=l) rfl (lM h3)))))))))))
end
theorem ri(a:Int):fe .NotEq (.int a) (.int a)=some false:=by
 show some (!(a==a))=_;rw[beq_self_eq_true];rfl
theorem vx(a:List Nat):fe .NotEq (.str a) (.str a)=some false:=by
 show some (!(ax a a))=_;rw[oQ];rfl
noncomputable abbrev v0:Stmt:=at_ (hK (au 25 4)) 0
noncomputable abbrev v1:Stmt:=at_ (hK (au 25 4)) 1
noncomputable abbrev v2:Stmt:=at_ (hK (au 25 4)) 2
noncomputable abbrev v3:Stmt:=at_ (hK (au 25 4)) 3
theorem BS:hK (au 25 4)=[v0,v1,v2,v3]:=by rfl'
noncomputable def Qx:Expr->Expr | .List [e] _=>e | _=>e0
noncomputable def Qy:Expr->Pos | .List _ p=>p | _=>default
noncomputable abbrev rj:Expr:=Qx (aI (ay v0))
theorem BT:v0=.Assign [.Name (eA v0) (dq v0)] (.BinOp (.List [.Call (.Name (bO (aJ rj)) (bQ (aJ rj))) (bx rj) [] (bB rj)] (Qy (aI (ay v0)))) .Add (bj (ay v0)) (bl (ay v0))) (du v0):=by rfl'
theorem BU:v1=.Assign [.Name (eA v1) (dq v1)] (.ListComp (.BinOp (aI (bw (ay v1))) .Add (bj (bw (ay v1))) (bl (bw (ay v1)))) [⟨fh (ay v1),fj (ay v1),[],0⟩] (fk (ay v1)) (fm (ay v1))) (du v1):=by rfl'
noncomputable def tU(x y:List Nat)(z:Int)(h:List Nat)(tl:List Bool):ai:=[(aax,.val (.str x)),(aam,.val (.str y)),(aaE,.val (.int z)),(aaA,.val (gh y)),(aav,.cell 0),(aaJ,.val (.str h)),(aaK,.val (aP tl))]
theorem Qz(n:Nat)(x y h:List Nat)(z:Int)(tl:List Bool)(k:Nat)(l l':List AV)(b:Bool)(hr:hH T1 0 [] 2000 (am 24) ⟨some z,l⟩ [.int (.ofNat k)]=some (.bool b,⟨some z,l'⟩))(ht:tl.length<=4000):pex (n+20) cU [(aax,.val (.str x)),(aam,.val (.str y)),(aaE,.val (.int z)),(aaA,.val (gh y)),(aav,.cell 0),(aaJ,.val (.str h)),(aaK,.val (aP tl)),([107],.val (.int (.ofNat k)))] [⟨some z,l⟩] v0=some (.next,[(aax,.val (.str x)),(aam,.val (.str y)),(aaE,.val (.int z)),(aaA,.val (gh y)),(aav,.cell 0),(aaJ,.val (.str h)),(aaK,.val (aP (b::tl))),([107],.val (.int (.ofNat k)))],[⟨some z,l'⟩]):=by
 refine aa (BT) ?_;exact BP (by rfl') trivial (BO (a:=.lst [.bool b]) (b:=aP tl) (v:=aP (b::tl)) (σ1:=[⟨some z,l'⟩]) (BN (nc (σ1:=[⟨some z,l⟩]) (k:=0) (ws:=[.val (.int (.ofNat k))]) (us:=[.int (.ofNat k)]) (cl:=⟨some z,l⟩) (cl':=⟨some z,l'⟩) (by rfl') (by rfl') (by rfl') (by rfl') (by rfl') rfl rfl ((BK _ _).trans hr))) (by rfl') (qd (by rw[Om,W7];show 1+tl.length<=4096;exact w6 ht))) (by rfl')
theorem QB(n:Nat)(x y h:List Nat)(z:Int)(tl:List Bool)(k:Nat)(l:List AV)(hx:x.length+y.length<=4096):pex (n+20) cU [(aax,.val (.str x)),(aam,.val (.str y)),(aaE,.val (.int z)),(aaA,.val (gh y)),(aav,.cell 0),(aaJ,.val (.str h)),(aaK,.val (aP tl)),([107],.val (.int (.ofNat k)))] [⟨some z,l⟩] v1=some (.next,[(aax,.val (.str x)),(aam,.val (.str y)),(aaE,.val (.int z)),(aaA,.val (gh y)),(aav,.cell 0),(aaJ,.val (.str h)),(aaK,.val (aP tl)),([107],.val (.int (.ofNat k))),(aaS,.val (.lst ((((bk y).take k).map λh=>x++h).map AV.str)))],[⟨some z,l⟩]):=by
 refine aa (BU) ?_;refine eC (by rfl') trivial (fo (it:=.val (.lst (((bk y).map AV.str).take k))) (ts:=((bk y).take k).map AV.str) (vs:=(((bk y).take k).map λh=>x++h).map AV.str) (ρ0:=[(aax,.val (.str x))]) (by rfl') (by rfl') (by rw[<-List.map_take];rfl) (by rfl') ?_) (by rfl');refine aa (YV) (kc (h:=λh=>AV.str (x++h)) (by rfl') λh hh=>(ah ([(aax,.val (.str x)),(aaJ,.val (.str h))]) (by rfl') (eJ (a:=.str x) (b:=.str h) (by rfl') (by rfl') (jy ?_))));have:h∈bk y:=Zg hh;refine af (Yp.mp this) λj zz zr2=>?_;clear this zz;subst zr2;exact aa (Om) (aa (Xy) (wD hx))
theorem QC(n:Nat)(x y h:List Nat)(z:Int)(tl:List Bool)(k:Nat)(l0:List (List Nat))(l l':List AV)(b:Bool)(hr:hH T1 0 [] 2000 (am 24) ⟨some z,l⟩ [.int (.ofNat k)]=some (.bool b,⟨some z,l'⟩))(ht:tl.length<=4000):pex (n+20) cU [(aax,.val (.str x)),(aam,.val (.str y)),(aaE,.val (.int z)),(aaA,.val (gh y)),(aav,.cell 0),(aaJ,.val (.str h)),(aaK,.val (aP tl)),([107],.val (.int (.ofNat k))),(aaS,.val (.lst (l0.map AV.str)))] [⟨some z,l⟩] v0=some (.next,[(aax,.val (.str x)),(aam,.val (.str y)),(aaE,.val (.int z)),(aaA,.val (gh y)),(aav,.cell 0),(aaJ,.val (.str h)),(aaK,.val (aP (b::tl))),([107],.val (.int (.ofNat k))),(aaS,.val (.lst (l0.map AV.str)))],[⟨some z,l'⟩]):=by
 refine aa (BT) ?_;exact BP (by rfl') trivial (BO (a:=.lst [.bool b]) (b:=aP tl) (v:=aP (b::tl)) (σ1:=[⟨some z,l'⟩]) (BN (nc (σ1:=[⟨some z,l⟩]) (k:=0) (ws:=[.val (.int (.ofNat k))]) (us:=[.int (.ofNat k)]) (cl:=⟨some z,l⟩) (cl':=⟨some z,l'⟩) (by rfl') (by rfl') (by rfl') (by rfl') (by rfl') rfl rfl ((BK _ _).trans hr))) (by rfl') (qd (by rw[Om,W7];show 1+tl.length<=4096;exact w6 ht))) (by rfl')
theorem QD(n:Nat)(x y h:List Nat)(z:Int)(tl:List Bool)(k:Nat)(l0:List (List Nat))(l:List AV)(hx:x.length+y.length<=4096):pex (n+20) cU [(aax,.val (.str x)),(aam,.val (.str y)),(aaE,.val (.int z)),(aaA,.val (gh y)),(aav,.cell 0),(aaJ,.val (.str h)),(aaK,.val (aP tl)),([107],.val (.int (.ofNat k))),(aaS,.val (.lst (l0.map AV.str)))] [⟨some z,l⟩] v1=some (.next,[(aax,.val (.str x)),(aam,.val (.str y)),(aaE,.val (.int z)),(aaA,.val (gh y)),(aav,.cell 0),(aaJ,.val (.str h)),(aaK,.val (aP tl)),([107],.val (.int (.ofNat k))),(aaS,.val (.lst ((((bk y).take k).map λh=>x++h).map AV.str)))],[⟨some z,l⟩]):=by
 refine aa (BU) ?_;refine eC (by rfl') trivial (fo (it:=.val (.lst (((bk y).map AV.str).take k))) (ts:=((bk y).take k).map AV.str) (vs:=(((bk y).take k).map λh=>x++h).map AV.str) (ρ0:=[(aax,.val (.str x))]) (by rfl') (by rfl') (by rw[<-List.map_take];rfl) (by rfl') ?_) (by rfl');refine aa (YV) (kc (h:=λh=>AV.str (x++h)) (by rfl') λh hh=>(ah ([(aax,.val (.str x)),(aaJ,.val (.str h))]) (by rfl') (eJ (a:=.str x) (b:=.str h) (by rfl') (by rfl') (jy ?_))));have:h∈bk y:=Zg hh;refine af (Yp.mp this) λj zz zr2=>?_;clear this zz;subst zr2;exact aa (Om) (aa (Xy) (wD hx))
theorem BV(x:List Nat):∀hs:List (List Nat),iN (hs.map λh=>aE (x,h))=some ((hs.map λh=>x++h).map (·.length)).sum
 | []=>rfl
 | h::hs=>by
  refine ba (x:=iN (hs.map λh=>aE (x,h))) (BV x hs) ?_;rw[YE,YE,List.sum_cons,Om]
theorem BW(x:List Nat):∀hs:List (List Nat),jp (hs.map λh=>aE (x,h))=some (bF [] (hs.map λh=>x++h))
 | []=>rfl
 | h::hs=>by
  refine ba (x:=jp (hs.map λh=>aE (x,h))) (BW x hs) ?_;cases hs with
  | nil=>exact congrArg some (Yc _)
  | cons a hs=>rfl
theorem o4:∀l:List (List Nat),jo (l.map AV.str)=some l
 | []=>rfl
 | _::l=>ba (x:=jo (l.map AV.str)) (o4 l) rfl
theorem BX:∀l:List (List Nat),jn (l.map λo=>AV.int (.ofNat o.length))=some (.ofNat (l.map (·.length)).sum)
 | []=>rfl
 | a::l=>ba (x:=eF (.int (.ofNat a.length))) (a:=.ofNat a.length) rfl (ba (BX l) rfl)
theorem BY:∀l:List (List Nat),(bF [] l).length=(l.map (·.length)).sum
 | []=>rfl
 | [a]=>by rfl
 | a::b::l=>by
  have:=BY (b::l);show(a++([]++bF [] (b::l))).length=_;simp only[ZH,Om,this];rfl
noncomputable def tV(x y:List Nat)(z:Int)(h:List Nat)(tl:List Bool)(k:Nat)(l:List (List Nat)):ai:=[(aax,.val (.str x)),(aam,.val (.str y)),(aaE,.val (.int z)),(aaA,.val (gh y)),(aav,.cell 0),(aaJ,.val (.str h)),(aaK,.val (aP tl)),([107],.val (.int (.ofNat k))),(aaS,.val (.lst (l.map AV.str)))]
noncomputable def o5:Expr->Expr | .BoolOp _ [l,_] _=>l | _=>e0
noncomputable def o6:Expr->Expr | .BoolOp _ [_,r] _=>r | _=>e0
noncomputable abbrev vy:Expr:=o5 (aV v2)
noncomputable abbrev kg:Expr:=o6 (aV v2)
noncomputable abbrev o7:Expr:=bj (bj kg)
noncomputable abbrev jH:Expr:=(bx o7).getD 0 e0
theorem QE:v2=.If (.BoolOp .Or [.Compare (aI vy) [.NotEq] [bj vy] (bl vy),.Compare (.Call (.Name (bO (aJ (aI kg))) (bQ (aJ (aI kg)))) (bx (aI kg)) [] (bB (aI kg))) [.NotEq] [.BinOp (aI (bj kg)) .Add (.Call (.Name (bO (aJ o7)) (bQ (aJ o7))) [.ListComp (bw jH) [⟨fh jH,fj jH,[],0⟩] (fk jH) (fm jH)] [] (bB o7)) (bl (bj kg))] (bl kg)] (jd (aV v2))) (aO v2) [] (eB v2):=by rfl'
noncomputable def rk:Expr->Const | .Constant k _ _=>k | _=>.none
noncomputable def rl:Expr->Nat | .Constant _ u _=>u | _=>0
noncomputable def rm:Expr->Pos | .Constant _ _ p=>p | _=>default
noncomputable def rn:Expr->Expr | .Attribute o _ _=>o | _=>e0
noncomputable def ro:Expr->Str | .Attribute _ m _=>m | _=>Str.empty
noncomputable def rq:Expr->Pos | .Attribute _ _ p=>p | _=>default
noncomputable abbrev o8:Expr:=aI (aV v3)
noncomputable abbrev nu:Expr:=bj (aV v3)
noncomputable abbrev vz:Expr:=rn (aJ nu)
theorem QF:v3=.If (.Compare (.Call (.Name (bO (aJ o8)) (bQ (aJ o8))) (bx o8) [] (bB o8)) [.NotEq] [.Call (.Attribute (.Constant (rk vz) (rl vz) (rm vz)) (ro (aJ nu)) (rq (aJ nu))) [.Name (bO ((bx nu).getD 0 e0)) (bQ ((bx nu).getD 0 e0))] [] (bB nu)] (bl (aV v3))) (aO v3) [] (eB v3):=by rfl'
theorem QG{z:Int}{l:List AV}{k:Nat}(hz:0<=z/\z<=4)(h:iN l=some k):js kA [⟨some z,l⟩] [.cell 0]=some (.val (.int (z + .ofNat k))):=
 cV (b:=mv 0 z&&mv z 4) (W8.mpr ⟨decide_eq_true hz.1,decide_eq_true hz.2⟩) (ba (x:=iN l) h rfl)
theorem QH{z:Int}{l:List AV}{x:List Nat}(h:jp l=some x)(hx:x.length<=aD):js kB [⟨some z,l⟩] [.cell 0]=some (.val (.str x)):=
 ba (x:=jp l) h (ba (jy hx) rfl)
theorem rt{σ:S}{l:List AV}{i:Int}(h:jn l=some i):js iO σ [.val (.lst l)]=some (.val (.int i)):=ba (x:=jn l) h rfl
theorem QI:nm (bO (aJ (aI kg)))=kA:=by rfl'
theorem QJ:nm (bO (aJ o7))=iO:=by rfl'
theorem QK:nm (bO (aJ o8))=kB:=by rfl'
section
variable{x y h:List Nat}{z:Int}{tl:List Bool}{k:Nat}
theorem QL(n:Nat)(hs:List (List Nat))(hk:hs.length=k)(hz:0<=z/\z<=4):pex (n+30) cU (tV x y z h tl k (hs.map λh=>x++h)) [⟨some z,hs.map λh=>aE (x,h)⟩] v2=some (.next,tV x y z h tl k (hs.map λh=>x++h),[⟨some z,hs.map λh=>aE (x,h)⟩]):=by
 refine aa (QE) ?_;refine(eV (v:=false) (BQ (n:=n+26) (dk (a:=.int (.ofNat (hs.map λh=>aE (x,h)).length)) (b:=.int (.ofNat k)) (by rfl') (by rfl') ?_) (dk (a:=.int (z + .ofNat ((hs.map λh=>x++h).map (·.length)).sum)) (b:=.int (z + .ofNat ((hs.map λh=>x++h).map (·.length)).sum)) (nt (σ1:=[⟨some z,hs.map λh=>aE (x,h)⟩]) (vs:=[.cell 0]) (by rfl') (by rfl') (by rfl') (by rfl') (by (refine aa QI ?_);exact QG hz (BV x hs)))
  (eJ (a:=.int z) (b:=.int (.ofNat ((hs.map λh=>x++h).map (·.length)).sum)) (by rfl') (nt (σ1:=[⟨some z,hs.map λh=>aE (x,h)⟩]) (vs:=[.val (.lst ((hs.map λh=>x++h).map λo=>AV.int (.ofNat o.length)))]) (by rfl') (by rfl') (by rfl') ?_ (by (refine aa QJ ?_);exact rt (BX _))) rfl) (ri _)) (by exact Fs))).trans rfl
 ·rw[W7,hk];exact ri _
 ·have hc:∀m,pe (m+10) cU (tV x y z h tl k (hs.map λh=>x++h)) [⟨some z,hs.map λh=>aE (x,h)⟩] (.ListComp (bw jH) [⟨fh jH,fj jH,[],0⟩] (fk jH) (fm jH))=some (.val (.lst ((hs.map λh=>x++h).map λo=>AV.int (.ofNat o.length))),[⟨some z,hs.map λh=>aE (x,h)⟩]):=λm=>
   fo (it:=.val (.lst ((hs.map λh=>x++h).map AV.str))) (ts:=(hs.map λh=>x++h).map AV.str) (ρ0:=[]) (by rfl') (by rfl') (by rfl') (by rfl') (kc (h:=λo=>AV.int (.ofNat o.length)) (by rfl') λo _=>(ah ([([111,110,101],.val (.str o))]) (by rfl') (by rfl')))
  have h2:=hc (n+12);exact bs h2 rfl
theorem QO(n:Nat)(hs:List (List Nat))(hb:(bF [] (hs.map λh=>x++h)).length<=4096):pex (n+30) cU (tV x y z h tl k (hs.map λh=>x++h)) [⟨some z,hs.map λh=>aE (x,h)⟩] v3=some (.next,tV x y z h tl k (hs.map λh=>x++h),[⟨some z,hs.map λh=>aE (x,h)⟩]):=by
 refine aa (QF) ?_;refine(eV (v:=false) (dk (a:=.str (bF [] (hs.map λh=>x++h))) (b:=.str (bF [] (hs.map λh=>x++h))) (nt (σ1:=[⟨some z,hs.map λh=>aE (x,h)⟩]) (vs:=[.cell 0]) (by rfl') (by rfl') (by rfl') (by rfl') (by rw[QK];exact QH (BW x hs) hb)) (BR (x:=[]) (l:=(hs.map λh=>x++h).map AV.str) trivial (by rfl') (by rfl') (by rfl') ?_) (vx _))).trans rfl;exact ba (x:=jo ((hs.map λh=>x++h).map AV.str)) (o4 _) (jy hb)
end
noncomputable def rz(x y:List Nat)(z:Int)(h:List Nat)(tl:List Bool)(ρ:ai):Prop:=ρ=tU x y z h tl\/∃k l,ρ=tV x y z h tl k l
noncomputable def BZ(n:Nat):AV->ai->S->Option (bG×ai×S):=λt ρ σ=>bo (eG cU.sc (gN (au 25 4)) t ρ) λρ1=>pst n cU ρ1 σ (hK (au 25 4))
noncomputable abbrev gP(x:List Nat)(hs:List (List Nat)):List AV:=hs.map λh=>aE (x,h)
theorem vA(y:List Nat):(bk y).length=y.length+1:=by unfold bk;rw[W7,Yn]
theorem QP{y:List Nat}{k:Nat}(h:k<=y.length):(bk y).take (k+1)=(bk y).take k++[y.take k]:=by
 have hk:(bk y)[k]?=some (y.take k):=by
  unfold bk;refine aa (ZJ) ?_;refine aa (List.getElem?_range (by exact wZ h)) ?_;rfl
 refine aa List.take_succ (aa hk ?_);rfl
theorem B7(n:Nat){x y h:List Nat}{z:Int}{tl:List Bool}{ρ:ai}{k:Nat}{b:Bool}(H:rz x y z h tl ρ)(hk:k<=y.length)(hz:0<=z/\z<=4)(ht:tl.length<=4000)(hx:x.length+y.length<=4096)
  (hb:(bF [] (((bk y).take k).map λh=>x++h)).length<=4096)
  (hr:hH T1 0 [] 2000 (am 24) ⟨some z,gP x ((bk y).take (k+1))⟩ [.int (.ofNat k)]=some (.bool b,⟨some z,gP x ((bk y).take k)⟩)) :
  ∃ρ1,BZ (n+50) (.int (.ofNat k)) ρ [⟨some z,gP x ((bk y).take (k+1))⟩]=some (.next,ρ1,[⟨some z,gP x ((bk y).take k)⟩])/\rz x y z h (b::tl) ρ1:=by
 have hlk:((bk y).take k).length=k:=by rw[Xy,vA];exact wE hk
 refine(ah (tV x y z h (b::tl) k (((bk y).take k).map λh=>x++h)) ?_ (.inr (dZ _ _ rfl)));have t1:=QL (x:=x) (y:=y) (h:=h) (z:=z) (tl:=b::tl) (k:=k) (n+17) ((bk y).take k) hlk hz;have t2:=QO (x:=x) (y:=y) (h:=h) (z:=z) (tl:=b::tl) (k:=k) (n+16) ((bk y).take k) hb;rcases H with rfl | ⟨k0,l0,rfl⟩
 ·show pst (n+50) cU _ _ (hK (au 25 4))=_;exact aa (BS) ((aR (Qz (n+29) x y h z tl k _ _ b hr ht)).trans ((aR (QB (n+28) x y h z (b::tl) k _ hx)).trans ((aR t1).trans (dm t2))))
 ·show pst (n+50) cU _ _ (hK (au 25 4))=_;exact aa (BS) ((aR (QC (n+29) x y h z tl k l0 _ _ b hr ht)).trans ((aR (QD (n+28) x y h z (b::tl) k l0 _ hx)).trans ((aR t1).trans (dm t2))))
theorem QQ(n:Nat){x y h:List Nat}{z:Int}{g:Nat->Bool}(hz:0<=z/\z<=4)(hy:y.length<=100)(hx:x.length+y.length<=4096)(hb:∀k,k<=y.length->(bF [] (((bk y).take k).map λh=>x++h)).length<=4096)
  (hr:∀k,k<=y.length->hH T1 0 [] 2000 (am 24) ⟨some z,gP x ((bk y).take (k+1))⟩ [.int (.ofNat k)]=some (.bool (g k),⟨some z,gP x ((bk y).take k)⟩)) :
  ∀(m:Nat)(tl:List Bool)(ρ:ai),m<=y.length->tl.length+m<=3000->rz x y z h tl ρ->∃ρ1,gn (BZ (n+50)) (lH (.ofNat m) (m+1)) ρ [⟨some z,gP x ((bk y).take (m+1))⟩]=some (.next,ρ1,[⟨some z,[]⟩])/\rz x y z h ((Xr (m+1)).map g++tl) ρ1:=by
 intro m;induction m with
 | zero=>
  intro tl ρ hm ht H;exact af (B7 n H (Y4 _) hz (by exact Hq ht) hx (hb 0 (Y4 _)) (hr 0 (Y4 _))) λρ1 e H1=>(ah ρ1 ((l6 e).trans rfl) H1)
 | succ m ih=>
  intro tl ρ hm ht H;refine af (B7 n H hm hz (by exact Hr ht) hx (hb _ hm) (hr _ hm)) λρ1 e H1=>af (ih (g (m+1)::tl) ρ1 (by exact wY hm) (by simp only[W5];exact Hs ht) H1) λρ2 e2 H2=>?_;refine(ah ρ2 ?_ ?_)
  ·show gn _ (.int (.ofNat (m+1))::lH (.ofNat (m+1)-1) (m+1)) _ _=_;refine aa (show(Int.ofNat (m+1)-1)=Int.ofNat m from by show((m+1:Nat):Int)-1=(m:Int);exact Fu) ?_;exact(l6 e).trans e2
  ·rw[List.range_succ,Y0,XO];exact H2
theorem QR{m:Nat}(h:m<=4000):jt (.rng (.ofNat m) (-1) (.negSucc 0))=some (lH (.ofNat m) (m+1)):=by
 have h2:(Int.ofNat m-Int.negSucc 0).toNat=m+1:=rfl;refine cV (b:=fK (.ofNat m)&&fK (.negSucc 0)) (W8.mpr ⟨XB (W6 h (by decide)),rfl⟩) (cV (b:=YG (Int.ofNat m-Int.negSucc 0).toNat aD) (h2.symm▸XB (W6 (Z9 h) (by decide))) ?_);rfl
theorem QS:bt (am 25)=[u0,au 25 1,u2,au 25 3,au 25 4,au 25 5]:=by rfl'
theorem QT:au 25 4=.For (gN (au 25 4)) (m7 (au 25 4)) (hK (au 25 4)) [] (oE (au 25 4)):=by rfl'
theorem QU{x y:List Nat}{z:Int}{g:Nat->Bool}(hz:0<=z/\z<=4)(hy:y.length<=100)(hx:x.length+y.length<=4096)(hb:∀k,k<=y.length->(bF [] (((bk y).take k).map λh=>x++h)).length<=4096)
  (hr:∀k,k<=y.length->hH T1 0 [] 2000 (am 24) ⟨some z,gP x ((bk y).take (k+1))⟩ [.int (.ofNat k)]=some (.bool (g k),⟨some z,gP x ((bk y).take k)⟩)) :
  bJ T2 0 [oZ] 200 (am 25) [.str x,.str y,.int z]=some (aP ((Xr (y.length+1)).map g)):=by
 refine al (Qw 157 x y z hy) λh1 e2=>af (QQ 144 (h:=h1) hz hy hx hb hr y.length [] (tU x y z h1 []) (Xs _) (by simp only[Xq];exact Ft hy) (.inl rfl)) λρ4 e4 H4=>?_;rw[Yc]at H4;have ht:(bk y).take (y.length+1)=bk y:=by rw[<-vA y];exact List.take_length ..
 rw[ht]at e4;have e5:pex 194 cU ρ4 [⟨some z,[]⟩] (au 25 5)=some (.ret (.val (aP ((Xr (y.length+1)).map g))),ρ4,[⟨some z,[]⟩]):=by
  clear hz hy hx hb hr e2 e4 ht;rcases H4 with rfl | ⟨k,l,rfl⟩<;>rfl'
 refine qN (t:=.val (aP ((Xr (y.length+1)).map g))) (ρ':=ρ4) (σ':=[⟨some z,[]⟩]) (by rfl') rfl ?_ rfl;show pst 200 cU _ [] (bt (am 25))=_;refine aa (QS) ((aR (Qs 179 x y z hy)).trans ((aR (Qt 178 x y z)).trans ((aR e2).trans ((aR (ρ1:=tU x y z h1 []) (σ1:=[⟨some z,gP x (bk y)⟩]) (by rfl')).trans (ZY (aR (ρ1:=ρ4) (σ1:=[⟨some z,[]⟩]) ?_) (i9 e5))))));exact aa (QT) (qM (v:=.rng (.ofNat y.length) (-1) (.negSucc 0)) (by rfl') (QR (by omega)) e4)
theorem vB:∀ds:List Nat,(aZ ds).1.length+((aZ ds).2.map (·.length)).sum+(aZ ds).2.length<=ds.length
 | []=>Xs _
 | d::ds=>by
  have ih:=vB ds;cases hd:bz d with
  | true=>
   refine aa (np hd) ?_;generalize aZ ds=q at ih;obtain⟨p,ss⟩:=q;cases p with
   | nil=>cases ss<;>simp[kf]at ih ⊢<;>exact Fv ih
   | cons a p=>simp[kf]at ih ⊢;exact Hv ih
  | false=>
   refine aa (nq hd) ?_;skip;exact Fx ih
theorem vC:∀(ds:List Nat),(∀d∈(aZ ds).1,d∈ds)/\∀s∈(aZ ds).2,∀d∈s,d∈ds
 | []=>⟨λ_ h=>(nomatch h),λ_ h=>(nomatch h)⟩
 | d::ds=>by
  refine aw (vC ds) λh1 h2=>?_;cases hd:bz d with
  | true=>
   refine aa (np hd) ?_;generalize aZ ds=q at h1 h2;obtain⟨p,ss⟩:=q;have up:∀{s:List Nat},(∀x∈s,x∈ds)->∀x∈s,x∈d::ds:=λh x hx=>Xc _ (h x hx);have key:∀s∈(kf (p,ss)).2,∀x∈s,x∈d::ds:=by
    intro s hs;cases p with
    | nil=>
     cases ss with
     | nil=>simp[kf]at hs;subst hs;exact λ_ h=>(nomatch h)
     | cons a ss=>exact up (h2 s hs)
    | cons a p=>
     rw[kf,Xk]at hs;rcases hs with rfl | hs
     ·exact up h1
     ·exact up (h2 s hs)
   refine⟨?_,key⟩;clear h1 h2 key;cases p<;>cases ss<;>exact λ_ h=>(nomatch h)
  | false=>
   refine aa (nq hd) ?_;exact⟨λx hx=>by clear h2;rcases Xk.mp hx with rfl | hx;exact Xh ..;exact Xc _ (h1 x hx),λs hs x hx=>Xc _ (h2 s hs x hx)⟩
theorem rD:∀d,d<20->bz d=false->2<=d
 | 0,_,h=>by cases h
 | 1,_,h=>by cases h
 | n+2,_,_=>by exact Ht
theorem B8:∀(ss:List (List Nat)),(∀s∈ss,∀d∈s,(Tk.at d).good=true)->∀t∈fZ ss,t.good=true
 | [],_=>λ_ h=>(nomatch h)
 | [s],h=>by
  intro t ht;rcases Xk.mp ht with rfl | ht
  ·rfl
  ·refine af (Yp.mp ht) λd hd zr2=>?_;clear ht;exact aS zr2 (h s (Xh ..) d hd)
 | s::cg::r,h=>by
  intro t ht;rcases Xk.mp ht with rfl | ht
  ·rfl
  ·rcases Xk.mp ht with rfl | ht
   ·rfl
   ·rcases Yv.mp ht with ht | ht
    ·refine af (Yp.mp ht) λd hd zr2=>?_;clear ht;exact aS zr2 (h s (Xh ..) d hd)
    ·rcases Xk.mp ht with rfl | ht
     ·rfl
     ·exact B8 (cg::r) (λq hq=>h q (Xc _ hq)) t ht
theorem B9{ds:List Nat}(h:∀d∈ds,d<20):∀t∈cZ (aZ ds),t.good=true:=by
 refine aw (vC ds) λm1 m2=>aw (oX ds) λf1 f2=>?_;have g:∀d,d∈ds->bz d=false->(Tk.at d).good=true:=λd hd hs=>by
  have h2:=rD d (h d hd) hs;have h20:=h d hd;simp only[Tk.good,YK];exact⟨XB h2,by rw[Za];exact h20⟩
 intro t ht;clear h;rcases Yv.mp ht with ht | ht
 ·exact af (Yp.mp ht) λd hd zr2=>aS zr2 (g d (m1 d hd) (f1 d hd))
 ·exact B8 _ (λs hs d hd=>g d (m2 s hs d hd) (f2 s hs d hd)) t ht
theorem Cb:∀d,(tx d).length<=7:=by
 intro d;by_cases h:d<20
 ·have:∀d,d<20->(tx d).length<=7:=by decide
  exact this d h
 ·unfold tx;refine aa (Yb) ?_;refine aa (List.getElem?_eq_none (by simp;exact Hu h)) ?_;exact Y4 _
theorem vD:∀ts:List Tk,(bL ts).length<=7 * ts.length
 | []=>Xs _
 | t::ts=>by
  have ih:=vD ts;have:t.text.length<=7:=by
   cases t with
   | «at» d=>exact Cb d
   | _=>decide
  show(t.text++bL ts).length<=_;refine aa (Om) (aa (W5) ?_);omega
theorem rH(m:Nat):∀l:List (List Nat),(∀a∈l,a.length<=m)->(bF [] l).length<=l.length * m:=by
 intro l;rw[BY];induction l with
 | nil=>intro _;exact Y4 _
 | cons a l ih=>
  intro h;have h1:=h a (Xh ..);have h2:=ih λb hb=>h b (Xc _ hb);rw[YE,List.sum_cons,W5,Nat.succ_mul];exact Fw h1 h2
theorem QV{ds y:List Nat}{z:Int}(hz:0<=z/\z<=4)(hd:∀d∈ds,d<20)(hl:ds.length<=8)(hy:y.length<=6)(hs:∀c∈y,c∈gO):bJ T2 0 [oZ] 200 (am 25) [.str (bL (cZ (aZ ds))),.str y,.int z]=some (aP (fY ds y)):=by
 have hsp:=vB ds;have hseg:=vq (aZ ds).2;have hP:(cZ (aZ ds)).length<=32:=by
  unfold cZ;rw[Om,W7];omega
 have hT:=vD (cZ (aZ ds));have hM:fY ds y=(Xr (y.length+1)).map λk=>nk (aZ ds) (y.take k):=by
  refine List.ext_getElem (by rw[rf,W7,Yn]) λk h1 h2=>?_;rw[rf]at h1;rw[ZM,List.getElem_range,Qq ds y k (by exact Hw h1),Yb,Xo (by rw[rf];exact h1)];rfl
 refine aa (hM) (QU hz (by exact Hx hy) (by exact Hy hy hP hT) (λk hk=>?_) λk hk=>?_)
 ·have:=rH (bL (cZ (aZ ds))).length.succ (((bk y).take k).map λh=>bL (cZ (aZ ds))++h);have hb:=rH 240 (((bk y).take k).map λh=>bL (cZ (aZ ds))++h) (by
   intro a ha;refine af (Yp.mp ha) λh hh zr2=>?_;clear hd hM this ha;subst zr2;have hm:h∈bk y:=Zg hh;unfold bk at hm;refine af (Yp.mp hm) λj zz zr2=>?_;clear hs hk hm zz;refine aS zr2 (aa (Om) (aa (Xy) ?_));exact Fy hy hP hT)
  rw[W7,Xy]at hb;have h3:min k (bk y).length * 240<=6 * 240:=Nat.mul_le_mul_right _ (by exact Fz hy hk);exact FA hy hk hb
 ·have hlen:((bk y).take k).length=k:=by rw[Xy,vA];exact wE hk
  have hmn:((aZ ds).2.length+1) * ((y.take k).length+1)<=9 * 7:=Nat.mul_le_mul (by exact FB hl hsp) (by rw[Xy];exact FC hy);have o:=Qj (f:=k) (K:=60) (n:=65) (st:=((bk y).take k).map λh=>(cZ (aZ ds),h)) (aZ ds) (y.take k) (by rw[W7,hlen]) (by rw[Xy];exact FD hy hP) (by exact FE hmn);have G:∀q∈(((bk y).take k).map λh=>(cZ (aZ ds),h))++[(cZ (aZ ds),y.take k)],dP q:=by
   intro q hq;have sub:∀j,∀c∈y.take j,c∈gO:=λj c hc=>hs c (Zg hc);clear hl hy hsp hseg hP hT hM hk hlen hmn o;rcases Yv.mp hq with hq | hq
   ·refine af (Yp.mp hq) λh hh zr2=>aS zr2 ?_;have hm:h∈bk y:=Zg hh;unfold bk at hm;exact af (Yp.mp hm) λj zz zr2=>aS zr2 ⟨B9 hd,sub j⟩
   ·exact aa (Xi.mp hq) ⟨B9 hd,sub k⟩
  have r:=Qa (z:=z) o G (by rw[Om,W7,hlen];simp only[W5,Xq];exact FG hy hk) (by rw[Om,W7,hlen];exact mt) (by exact FH);have e1:br ((((bk y).take k).map λh=>(cZ (aZ ds),h))++[(cZ (aZ ds),y.take k)])=gP (bL (cZ (aZ ds))) ((bk y).take (k+1)):=by
   refine aa (QP hk) ?_;dsimp only[br,sp,gP];refine aa Y0 (aa Y0 (aa YV (aa YV (aa Y0 ?_))));rfl
  have e2:br (((bk y).take k).map λh=>(cZ (aZ ds),h))=gP (bL (cZ (aZ ds))) ((bk y).take k):=by
   dsimp only[br,sp,gP];refine aa YV (aa YV ?_);rfl
  rw[e1,e2]at r;exact r
theorem QX:∀d,d<20->∀w,w<4->∀v,v<8->∀c∈dW d w v,c∈gO:=by decide
theorem QY(xs:List Int):∀c∈(((cK xs).flatMap eZ).take 6),c∈gO:=by
 intro c hc;exact af (List.mem_flatMap.mp (Zg hc)) λy zz h=>QX _ (fq y 20 (by decide)).2 _ (fq _ 4 (by decide)).2 _ (fq _ 8 (by decide)).2 c h
noncomputable def drawn(xs:List Int):List Nat:=(cK xs).map jb
noncomputable def pf(xs:List Int):List Nat:=((cK xs).flatMap eZ).take 6
theorem Cc(xs:List Int):(∀d∈drawn xs,d<20)/\(drawn xs).length<=8/\(pf xs).length<=6/\(∀c∈pf xs,c∈gO)/\
  bJ T1 0 [] 100 (am 19) [.lst (xs.map AV.int)]=some (.tup [.lst ((drawn xs).map λd=>(kd d).av),.str (pf xs)]):=by
 refine⟨λd hd=>?_,?_,?_,QY xs,?_⟩
 ·refine af (Yp.mp hd) λy zz zr2=>?_;subst zr2;exact(fq y 20 (by decide)).2
 ·unfold drawn;rw[W7];exact(AL xs).1
 ·skip;(refine aa Xy ?_);exact FJ
 ·rw[NS];unfold drawn;rw[YV];rfl
noncomputable def bX:List Bool->Nat
 | []=>0
 | b::R=>(match b with | true=>1 | false=>0)+2 * bX R
noncomputable def nv:Nat->List (List Bool)
 | 0=>[[]]
 | n+1=>(nv n).flatMap λR=>[true::R,false::R]
theorem rI:∀R:List Bool,R∈nv R.length
 | []=>Xi.mpr rfl
 | b::R=>by
  show _∈(nv R.length).flatMap _;exact List.mem_flatMap.mpr (ah R (rI R) (by cases b<;>simp))
noncomputable def vE(n:Nat)(p:Nat):Int:=if p=0 then 0 else (2:Int) ^ (n+1)-Xp.bitAnd (.ofNat p) (-(.ofNat p))
noncomputable def pg(R:List Bool):List Bool:=(Xr R.length).map λk=>(R.take (k+1)).any id
theorem QZ:∀n,n<7->∀R∈nv (n+1),vE n (bX R)=.ofNat (bX (pg R)):=by decide +kernel
theorem Q5:∀n,n<7->∀R∈nv (n+1),∀k,k<n+1->Xp.bitAnd ((Int.ofNat (bX R)).fdiv (2 ^ k)) 1=(match R.getD k false with | true=>1 | false=>0):=by decide +kernel
section
variable{c:aH}
theorem kh{x y:Expr}{p:Pos}{a b:Bool}(h1:pt (n+2) c ρ σ x=some (a,σ))(h2:a=true->pt (n+1) c ρ σ y=some (b,σ)):pt (n+4) c ρ σ (.BoolOp .And [x,y] p)=some (a&&b,σ):=by
 refine bs (x:=pt (n+2) c ρ σ x) h1 ?_;cases a with
 | false=>rfl
 | true=>
  refine bs (x:=pt (n+1) c ρ σ y) (h2 rfl) ?_;cases b<;>rfl
theorem Q6{l r:Expr}{o:Z8}{p:Pos}{v:AV}{b:Bool}(h:pe n c ρ σ (.BinOp l o r p)=some (.val v,σ))(hv:iM v=some b):pt (n+1) c ρ σ (.BinOp l o r p)=some (b,σ):=bs h (ba (x:=iM v) hv rfl)
theorem Cd{l i:Expr}{p:Pos}{v:AV}{b:Bool}(h:pe n c ρ σ (.Subscript l i p)=some (.val v,σ))(hv:iM v=some b):pt (n+1) c ρ σ (.Subscript l i p)=some (b,σ):=bs h (ba (x:=iM v) hv rfl)
end
theorem vF:∀(R:List Bool)(j:Nat),jn (((Xr R.length).filter λk=>R.getD k false).map λk=>AV.int (.ofNat (2 ^ (k+j))))=some (.ofNat (2 ^ j * bX R))
 | [],j=>rfl
 | b::R,j=>by
  have ih:=vF R (j+1);have e:((Xr (b::R).length).filter λk=>(b::R).getD k false)=(match b with | true=>[0] | false=>[])++((Xr R.length).filter λk=>R.getD k false).map (· + 1):=by
   rw[W5,List.range_succ_eq_map,List.filter_cons,List.filter_map];cases b<;>rfl
  have e2:∀l:List Nat,(l.map (· + 1)).map (λk=>AV.int (.ofNat (2 ^ (k+j))))=l.map λk=>AV.int (.ofNat (2 ^ (k+(j+1)))):=λl=>by
   rw[YV];refine List.map_congr_left λk _=>?_;show AV.int (.ofNat (2 ^ (k+1+j)))=_;rw[show k+1+j=k+(j+1) from by exact FK]
  rw[e,Y0,e2];cases b with
  | false=>
   show jn _=_;rw[List.map_nil,ZH,ih];congr 2;show 2 ^ (j+1) * bX R=2 ^ j * (0+2 * bX R);rw[Nat.pow_succ,ZL,Nat.mul_assoc]
  | true=>
   refine ba (x:=eF (.int (.ofNat (2 ^ (0+j))))) (a:=.ofNat (2 ^ (0+j))) rfl (ba ih ?_);show some (Int.ofNat (2 ^ (0+j))+Int.ofNat (2 ^ (j+1) * bX R))=some (Int.ofNat (2 ^ j * (1+2 * bX R)));rw[ZL,Nat.pow_succ,Nat.mul_add,Nat.mul_one,Nat.mul_assoc];rfl
noncomputable abbrev bA:Stmt:=au 22 1
noncomputable abbrev w0:Stmt:=at_ (bt bA) 0
noncomputable abbrev w1:Stmt:=at_ (bt bA) 1
noncomputable def cS:aH:={tab:=T1,sc:=aF bA,own:=[],gen:=0}
noncomputable def ki(pl:Int)(pt:AV)(y:List Nat)(wh:Int):ai:=[(aaO,.val (.int pl)),(aaZ,.val pt),(aam,.val (.str y)),(aaz,.val (.op 0)),(aaL,.val (.int wh))]
theorem Ce:bt bA=[w0,w1]:=by rfl'
noncomputable abbrev mf:Stmt:=at_ (aO w0) 0
theorem Cg:w0=.If (aV w0) [mf] [] (eB w0):=by rfl'
theorem Q7:mf=.Return (some (.IfExp (Bk (cW mf)) (Bl (cW mf)) (Bm (cW mf)) (Bn (cW mf)))) (jE mf):=by rfl'
theorem Q8(n:Nat)(p:Nat)(y:List Nat):∃ρ1,pst (n+30) cS (ki (.ofNat p) (.op 0) y (2 ^ (y.length+1))) [] (bt bA)=some (.ret (.val (.int (vE y.length p))),ρ1,[]):=by
 refine⟨ki (.ofNat p) (.op 0) y (2 ^ (y.length+1)),?_⟩;refine aa Ce (i9 ?_);rw[Cg];refine(eV (v:=true) (by rfl')).trans (dm (n:=n+26) ?_);rw[Q7];cases p with
 | zero=>exact jF ((qV (σ1:=[]) (v:=false) (by rfl')).trans (by rfl'))
 | succ p=>
  refine jF ((qV (σ1:=[]) (v:=true) (by rfl')).trans ?_);unfold vE;rw[if_neg (Nat.succ_ne_zero p)]
  rfl'
noncomputable abbrev ph:Expr:=cW w1
noncomputable abbrev gv:Expr:=(bx ph).getD 0 e0
noncomputable abbrev rM:Expr:=(qL gv).getD 0 e0
noncomputable abbrev nz:Expr:=qQ rM
noncomputable abbrev iD:Expr:=qR rM
theorem Q9:w1=.Return (some (.Call (.Name (bO (aJ ph)) (bQ (aJ ph))) [.ListComp (bw gv) [⟨fh gv,fj gv,[.BoolOp .And [.BinOp (aI nz) .BitAnd (bj nz) (bl nz),.Subscript (.Call (.Name (bO (aJ (cY iD))) (bQ (aJ (cY iD)))) (bx (cY iD)) [] (bB (cY iD))) (dj iD) (eH iD)] (jd rM)],0⟩] (fk gv) (fm gv)] [] (bB ph))) (jE w1):=by rfl'
theorem Ra:nm (bO (aJ ph))=iO:=by rfl'
theorem Rb:bw gv=.BinOp (aI (bw gv)) .Pow (bj (bw gv)) (bl (bw gv)):=by rfl'
theorem vG{k:Nat}(h:k<=100):lF .Pow (.int (.ofNat 2)) (.int (.ofNat k))=some (.int (.ofNat (2 ^ k))):=
 cV (b:=YG 2 10&&YG k 100) (W8.mpr ⟨rfl,XB h⟩) (congrArg (λi=>some (AV.int i)) (Int.natCast_pow 2 k).symm)
noncomputable def ib(y:List Nat)(R:List Bool)(d:Nat):List Bool:=(Xr y.length).map λk=>R.getD k false&&(y.map (bg (kd d))).getD k false
theorem Rc(n:Nat)(R:List Bool)(y:List Nat)(wh:Int)(d:Nat)(hd:2<=d/\d<20)(hy:y.length<7)(hR:R.length=y.length+1)(hs:∀c∈y,c∈gO) :
  ∃ρ1,pst (n+50) cS (ki (.ofNat (bX R)) (.str (tx d)) y wh) [] (bt bA)=some (.ret (.val (.int (.ofNat (bX (false::ib y R d))))),ρ1,[]):=by
 refine⟨ki (.ofNat (bX R)) (.str (tx d)) y wh,?_⟩;refine aa Ce (ZY (aR (ρ1:=ki (.ofNat (bX R)) (.str (tx d)) y wh) (σ1:=[]) ?_) (i9 ?_))
 ·rw[Cg];exact(eV (v:=false) (by rfl')).trans rfl
 rw[Q9];have hlen:(ib y R d).length=y.length:=by unfold ib;rw[W7,Yn]
 have hsum:=vF (ib y R d) 1;rw[hlen]at hsum;have hb:bX (false::ib y R d)=2 ^ 1 * bX (ib y R d):=by show 0+2 * bX (ib y R d)=_;rw[ZL,Nat.pow_one]
 rw[hb];refine jF (nt (σ1:=[]) (vs:=[.val (.lst (((Xr y.length).filter λk=>(ib y R d).getD k false).map λk=>AV.int (.ofNat (2 ^ (k+1)))))]) (by rfl') (by rfl') (by rfl') ?_ (by rw[Ra];exact rt hsum));have hc:∀m,pe (m+30) cS (ki (.ofNat (bX R)) (.str (tx d)) y wh) [] (.ListComp (bw gv) [⟨fh gv,fj gv,[.BoolOp .And [.BinOp (aI nz) .BitAnd (bj nz) (bl nz),.Subscript (.Call (.Name (bO (aJ (cY iD))) (bQ (aJ (cY iD)))) (bx (cY iD)) [] (bB (cY iD))) (dj iD) (eH iD)] (jd rM)],0⟩] (fk gv) (fm gv))=some (.val (.lst (((Xr y.length).filter λk=>(ib y R d).getD k false).map λk=>AV.int (.ofNat (2 ^ (k+1))))),[]):=λm=>by
  refine fo (it:=.rng 0 (.ofNat y.length) 1) (ts:=(Xr y.length).map λi=>AV.int (.ofNat i)) (ρ0:=[(aam,.val (.str y)),(aaZ,.val (.str (tx d))),(aaO,.val (.int (.ofNat (bX R))))]) (by rfl') (by rfl') (l7 (by exact FL hy)) (by rfl') (oH (h:=λk=>AV.int (.ofNat (2 ^ (k+1)))) (t:=λk=>(ib y R d).getD k false) (by rfl') λk hk=>(de ([(aam,.val (.str y)),(aaZ,.val (.str (tx d))),(aaO,.val (.int (.ofNat (bX R)))),([107],.val (.int (.ofNat k)))]) (by rfl') ?_ (λ_=>?_)))
  ·have hk':k<y.length:=Ye.mp hk;have e:(ib y R d).getD k false=(R.getD k false&&bg (kd d) y[k]):=by
    unfold ib;rw[re hk',show(y.map (bg (kd d))).getD k false=bg (kd d) y[k] from by rw[Yb,ZJ,Xo hk'];rfl]
   rw[e];have hbit:=Q5 y.length hy R (hR▸rI R) k (by exact FM hk');have hdrop:y.drop k=y[k]::y.drop (k+1):=Z7 hk';have hf:=A9 d [] y[k] (y.drop (k+1)) hd.1 hd.2 (hs _ (List.getElem_mem hk'));rw[Yc,<-hdrop]at hf;refine kh (Q6 (eJ (a:=.int ((Int.ofNat (bX R)).fdiv (2 ^ k))) (b:=.int 1) (v:=.int (Xp.bitAnd ((Int.ofNat (bX R)).fdiv (2 ^ k)) 1)) (by rfl') (by rfl') rfl) ?_) λ_=>Cd (fG (a:=db d (bg (kd d) y[k])) (x:=.int 1) trivial (jf (σ1:=[]) (vs:=[.val (.str (tx d)),.val (.str (y.drop k))]) (us:=[.str (tx d),.str (y.drop k)]) (by rfl') (by rfl') (by rfl') (by rfl') (by rfl') trivial rfl ((vc _).trans hf)) (by rfl') rfl) rfl;rw[hbit];cases R.getD k false<;>rfl
  ·have hk':k<y.length:=Ye.mp hk;rw[Rb];exact eJ (a:=.int (.ofNat 2)) (b:=.int (.ofNat (k+1))) (by rfl') (by rfl') (vG (by exact FN hy hk'))
 have h2:=hc (n+15);exact bs h2 rfl
noncomputable def gj(d:Nat)(l:List Nat):List Nat:=match bz d with
 | true=>match l with
  | []=>[0]
  | e::r=>match bz e with
   | true=>e::r
   | false=>0::e::r
 | false=>d::l
noncomputable def bY:List Nat->List Nat
 | []=>[]
 | d::ds=>gj d (bY ds)
theorem Rd:∀n,n<7->∀R∈nv (n+1),pg (pg R)=pg R:=by decide +kernel
theorem nA{y:List Nat}{R:List Bool}{d:Nat}(h:bz d=true):bu y R d=pg R:=by unfold bu;(refine aa h ?_);rfl
theorem Rf{y:List Nat}{R:List Bool}{d:Nat}(h:bz d=false):bu y R d=false::ib y R d:=by unfold bu;rw[h];rfl
theorem Ch{y:List Nat}(hy:y.length<7):∀(ds:List Nat)(R:List Bool),R.length=y.length+1->(bY ds).foldl (bu y) R=ds.foldl (bu y) R
 | [],_,_=>rfl
 | d::ds,R,hR=>by
  show(gj d (bY ds)).foldl (bu y) R=ds.foldl (bu y) (bu y R d);rw[<-Ch hy ds (bu y R d) (oO y R d hR)];unfold gj;cases hd:bz d with
  | false=>rfl
  | true=>
   have h0:∀R,bu y R 0=bu y R d:=λR=>by rw[nA hd,nA (d:=0) (by decide)]
   cases hm:bY ds with
   | nil=>show bu y R 0=bu y R d;exact h0 R
   | cons e r=>
    dsimp only;cases he:bz e with
    | false=>show(e::r).foldl (bu y) (bu y R 0)=_;rw[h0]
    | true=>
     show r.foldl (bu y) (bu y R e)=r.foldl (bu y) (bu y (bu y R d) e);rw[nA he,nA he,nA hd,Rd y.length hy R (hR▸rI R)]
theorem Ci{ds:List Nat}(h:∀d∈ds,d<20):∀d∈bY ds,d<20/\(d=0\/2<=d\/bz d=true):=by
 induction ds with
 | nil=>intro d hd;cases hd
 | cons a ds ih=>
  have ih:=ih λd hd=>h d (Xc _ hd);have ha:=h a (Xh ..);intro d hd;have hd':d∈gj a (bY ds):=hd;unfold gj at hd';cases hs:bz a with
  | false=>
   rw[hs]at hd';rcases Xk.mp hd' with rfl | hd'
   ·exact⟨ha,.inr (.inl (rD d ha hs))⟩
   ·exact ih d hd'
  | true=>
   rw[hs]at hd';dsimp only at hd';split at hd'
   ·rw[Xi.mp hd'];exact⟨by decide,.inl rfl⟩
   ·rename_i e r hm;split at hd'
    ·exact ih d (hm▸hd')
    ·clear hd;rcases Xk.mp hd' with rfl | hd'
     ·exact⟨by decide,.inl rfl⟩
     ·exact ih d (hm▸hd')
theorem Rg{y:List Nat}(hy:y.length<7)(ds:List Nat):(bY ds).foldl (bu y) (fu y)=fY ds y:=Ch hy ds (fu y) (by unfold fu;rw[W7,Yn])
theorem Rh:∀n,n<7->bX ((Xr (n+1)).map λk=>k==0)=1:=by decide
noncomputable def aM(d:Nat):AV:=match bz d with
 | true=>.op 0
 | false=>.str (tx d)
theorem Ri(n:Nat)(R:List Bool)(y:List Nat)(d:Nat)(hd:d<20)(hy:y.length<7)(hR:R.length=y.length+1)(hs:∀c∈y,c∈gO) :
  ∃ρ1,pst (n+50) cS (ki (.ofNat (bX R)) (aM d) y (2 ^ (y.length+1))) [] (bt bA)=some (.ret (.val (.int (.ofNat (bX (bu y R d))))),ρ1,[]):=by
 unfold aM;cases h:bz d with
 | true=>
  have:=Q8 (n+20) (bX R) y;rw[QZ y.length hy R (hR▸rI R)]at this;rw[nA h];exact this
 | false=>
  rw[Rf h];exact Rc n R y _ d ⟨rD d hd h,hd⟩ hy hR hs
noncomputable def vH(scope:YM)(L f:Addr)(qual:Str)(cd:W2)(cl:List (Str×Addr)):Env:=newEnv scope L Xj (YZ (L+1) scope.names []++cl) (qual++".<locals>.") (some f) cd none Yi
theorem Rj{scope:YM}{cl:List (Str×Addr)}{binds:List (Str×W2)}{qual:Str}{f:Addr}{cd:W2}{Q:Env->Xd->Prop}
  (h:Xf (Xe prog w) A (forIn binds PUnit.unit λp _=>(do storeName (vH scope s.heap.objs.size f qual cd cl) p.1 p.2;pure (.yield PUnit.unit):Sem (ForInStep PUnit))) (λ_ s'=>Q (vH scope s.heap.objs.size f qual cd cl) s') E {s with heap:=pushCells (s.heap.push {cls:=.type "frame",data:=.dict #[]}) scope.names}) :
  Xf (Xe prog w) A (Z5 scope Xj cl binds (qual++".<locals>.") (some f) cd none Yi) Q E s:=by
 simp only[Z5,Option.isSome_none,Bool.false_eq_true,if_false];refine El (wpAny_alloc ?_);refine El (wpAny_layCells _ (λname kind cells=>by cases hkc:kind==NameKind.cell<;>simp[hkc]) _ _ _ _ ?_);rw[show({s with heap:=s.heap.push {cls:=.type "frame",data:=.dict #[]}}:Xd).heap.objs.size=s.heap.objs.size+1 from XV ..,kY];exact El (KE h (λ_ s' q=>Ev q) λ_ _ e=>e)
theorem Rk(fd:Yz)(h:fd.params=aU bA)(hd:fd.defaults=.none)(u1 u2:W2):bindArgs fd ⟨[u1,u2],[]⟩=pure [(("places":Str),u1),(("part":Str),u2)]:=by
 obtain⟨n,q,p,b,sc,g,cl,df,kd,dc,pm,an,cd,ct,bi⟩:=fd;dsimp only at h hd;subst h hd
 rfl'
theorem Rl:(aF bA).kind=.function/\(aF bA).isCoroutine=false/\(aF bA).isGenerator=false/\once (aF bA).names=true:=(iJ (by rfl') (by rfl') (by rfl') (by rfl'))
noncomputable def mh(y:List Nat)(wh:Int):ai:=[(aam,.val (.str y)),(aaz,.val (.op 0)),(aaL,.val (.int wh))]
noncomputable def rN(name qual:Str)(cl:List (Str×Addr))(doc pm:W2)(c':Addr)(ctv:W2):Yz:=fnX name qual (aU bA) (bt bA) (aF bA) cl .none .none doc pm none (.ref c') ctv
theorem Rn(allP:∀n,fD prog w K T1 m n){envO:Env}{ρO:ai}{cO:aj}(IO:ak K cO envO ρO [] s)(hg:envO.globals=Xj)(hb:envO.builtins=Yi){y:List Nat}{wh pl r:Int}{part:AV}(hf0:fV envO.scope (aF bA).names ρO=some (mh y wh)){f c':Addr}{name qual:Str}{doc pm ctv:W2}{o:Obj}
  (ho:s.heap.get? f=some o)(hd:o.data=.func (rN name qual (cH envO.cells (aF bA).names []) doc pm c' ctv))(hrec:s.heap.CodeRec (.ref c') qual){us:List W2}(hr:aq cO s.heap [.int pl,part] us){n:Nat}{ρ1:ai}(hrun:pst n cS (ki pl part y wh) [] (bt bA)=some (.ret (.val (.int r)),ρ1,[]))(R:az (m+1) A) :
  Xf (Xe prog w) A (call (.ref f) us) (λv s'=>ae aG s s'/\aC K s'.heap/\∃t,v=.int r t) nr s:=by
 refine nG hr λu1 us1 zr2 r1 u2 us2 zc0=>da zc0 λzr6 r2 zr8=>?_;clear hr zc0;refine aa zr2 (aa zr6 (aa zr8 (gV Rl λk1 k2 k3 k4=>Zr (codeAny_call_function R.depth ho hd k2 k3 rfl hrec ?_))));rw[Rk _ rfl rfl];refine Ev ?_;show Xf _ _ (Z5 (aF bA) Xj (cH envO.cells (aF bA).names []) [(("places":Str),u1),(("part":Str),u2)] (qual++".<locals>.") (some f) (.ref c') none Yi) _ _ s;refine Rj ?_;generalize he:vH (aF bA) s.heap.objs.size f qual (.ref c') (cH envO.cells (aF bA).names [])=e;have hsc:e.scope=aF bA:=by rw[<-he];rfl
 have hloc:e.locals=s.heap.objs.size:=by rw[<-he];rfl
 have hcl:e.cells=YZ (s.heap.objs.size+1) (aF bA).names []++cH envO.cells (aF bA).names []:=by rw[<-he];rfl
 have hcells:=cellsFrom_ok (aF bA).names (s.heap.push {cls:=.type "frame",data:=.dict #[]}) (s.heap.objs.size+1) [] ⟨λ_ _ hm=>(nomatch hm),List.Pairwise.nil⟩ (by rw[XV];exact Xs _);rw[XV]at hcells;have X1:ae X0 s {s with heap:=pushCells (s.heap.push {cls:=.type "frame",data:=.dict #[]}) (aF bA).names}:=ae.kept (λb o g=>pushCells_keeps _ _ b o (Xg _ g)) rfl id;have hns:(pushCells (s.heap.push {cls:=.type "frame",data:=.dict #[]}) (aF bA).names).Ns s.heap.objs.size λ_=>none:=(Heap.Ns.new s.heap (.type "frame")).keeps (pushCells_keeps _ _);have hkd:∀X,e.kindOf X=(aF bA).names.lookup X:=λX=>by rw[<-he];rfl
 have I1:=IO.inner (e:=e) (names:=(aF bA).names) (n:=s.heap.objs.size+1) k4 hf0 (by rw[hsc];exact k1) (by rw[<-he];exact hg.symm) (by rw[<-he];exact hb.symm) hcl (λX h=>.inl (mem_of_lookup (by rw[<-hkd];exact h))) (λX h=>.inl (by rw[hkd];exact kZ k4 h)) X1 (Nat.le_of_eq hloc.symm) (XH _) ⟨_,by rw[hloc];exact hns⟩ hcells IO.tk;have nw:∀b,cy e b->s.heap.get? b=none:=λb o=>by
  clear I1;rcases o with rfl | ⟨X,h1,h2⟩
  ·rw[hloc];exact XA (Xs _)
  ·rw[hkd]at h1;refine al (j0 (n:=s.heap.objs.size+1) (mem_of_lookup h1)) λa ha=>?_;rw[hcl,jB,ha]at h2;clear hd h1;cases h2;exact XA (Yo (hcells.empty _ _ (mem_of_lookup ha)).2)
 have hcO:cO.cells=[]:=by
  have h0:=IO.cells;cases hc:cO.cells with
  | nil=>rfl
  | cons a l=>rw[hc]at h0;exact h0.elim
 let cN:aj:={cO with fr:=λb=>cO.fr b\/cy e b}
 have le:aj.Le s.heap cO cN:=⟨rfl,rfl,rfl,λ_ _ _ h=>h⟩;have r1':ao cN s.heap (.int pl) u1:=r1;have r2':ao cN s.heap part u2:=ao.le le r2;dsimp only;have st1:eN e.scope (mh y wh) "places" (.val (.int pl))=some (mh y wh++[(aaO,.val (.int pl))]):=by (refine aa hsc ?_);rfl'
 have st2:eN e.scope (mh y wh++[(aaO,.val (.int pl))]) "part" (.val part)=some (mh y wh++[(aaO,.val (.int pl)),(aaZ,.val part)]):=by (refine aa hsc ?_);rfl'
 refine El (El (KE (gJ st1 I1 (c:=cN) r1') (λ_ s2 zq0=>aw zq0 λX2 I2=>Ev ?_) λ_ _ f=>f.elim));refine El (El (KE (gJ st2 I2 (c:=cN) (r2'.keep (.of0 X1.all) |>.keep (I1.kdOwn (X2.weaken λ_ o=>o.own)))) (λ_ s3 zq1=>aw zq1 λX3 I3=>Ev (Ev ?_)) λ_ _ f=>f.elim));refine⟨I3.base.lim,codeAny_func ?_⟩;have I4:ak K cN e (ki pl part y wh) [] s3:=by
  refine⟨I3.base,I3.cfg,I3.env.names (λX t ht=>(ah t ?_ (λv r=>r))) λ_ h=>h,I3.cells,I3.tk⟩;refine fA ht (λq ht=>?_) λht=>fA ht (λq ht=>?_) λht=>fA ht (λq ht=>?_) λht=>fA ht (λq ht=>?_) λht=>fA ht (λq ht=>?_) λht=>aT ht
  ·clear hrun r1' st1 st2 I2 I3;cases ht;(refine aS (aW.mp q) ?_);rfl'
  ·clear hrun r2' st2 I3;cases ht;(refine aS (aW.mp q) ?_);rfl'
  ·clear hrun I1 st1 st2 I2 I3;cases ht;(refine aS (aW.mp q) ?_);rfl'
  ·cases ht;(refine aS (aW.mp q) ?_);rfl'
  ·clear hrun I1 st1 st2 I2 I3;cases ht;(refine aS (aW.mp q) ?_);rfl'
 have hs:aQ cS e:=⟨hsc.symm,λh=>absurd rfl h⟩;refine KE ((allP n).pst (x:=cS) rfl hs hrun I4 R.deeper) (λfl s4 q=>?_) no;refine wm q λc4 G4 X4 I5 v zr5 t zr7=>?_;clear q;refine aa zr5 (aa zr7 ?_);have own:∀{b},cy e b->XD s b:=λh=>.inr (nw _ h);refine(fU (((((X1.x0.trans (X2.weaken λ_ o=>own o.own)).trans (X3.weaken λ_ o=>own o.own)).trans (X4.weaken λb h=>j8 (λy hy=>by rw[hcO]at hy;cases hy) nw h)):ae (XD s) s s4).undead) I5.base t rfl)
theorem Cj{tg:Expr}{body:List Stmt}{ts:List AV}{I:Addr}{fp:List Addr}{Pi:Nat->W2->Prop}{St:Nat->Heap->Prop}{ρs:Nat->ai}{cs:aj}{ss:Xd}(hh:A.handled=none)
  (hb:∀i a,ts[i]?=some a->∃ρ1,eG env.scope tg a (ρs i)=some ρ1/\∀c s2,ak K c env ρ1 σ s2->bH ss.heap cs c->ae (XS cs env) ss s2->Xf (Xe prog w) A (execs body env) (bU K c env s2 .next (ρs (i+1)) σ) nr s2)
  (dead:ss.heap.get? I=none)(lv:∀b,cs.ex b->∃o,ss.heap.get? b=some o) :
  ∀(k i:Nat)(c:aj)(s:Xd),ts.length=i+k->ak K c env (ρs i) σ s->oq prog w A c s ts I fp Pi St i->bH ss.heap cs c->ae (XS cs env) ss s->
   Zq (Xe prog w) A (.forLoop tg (.ref I) body [] env) (λr s'=>∃f,r=.ok f/\bU K cs env ss .next (ρs ts.length) σ f s') s
 | 0,i,c,s,hk,Iv,H,G,X=>by
  refine Yr ?_;show Xf _ A ((forTurn tg (.ref I) body [] env).onRaise (λx=>do noteFrame x env;Y8 x)) _ _ s;refine aab ?_;skip;have hi:i=ts.length:=by exact GB hk
  subst hi;refine El (Yq (El (wpAny_onRaise (XJ Iv.tk (H.W.done s _ _ H.st λh' tk hk htk=>?_)))));refine Ev ⟨rfl,Yr ?_⟩;show Xf _ A (do return Fin.done (<-(execs [] env).onRaise (λx=>do noteFrame x env;Y8 x))) _ _ _;exact El (wpAny_onRaise (ZW (Ev (ah _ rfl (zu Iv H G X dead lv hk htk)))))
 | k+1,i,c,s,hk,Iv,H,G,X=>by
  refine Yr ?_;show Xf _ A ((forTurn tg (.ref I) body [] env).onRaise (λx=>do noteFrame x env;Y8 x)) _ _ s;refine aab ?_;skip;have hi:i<ts.length:=by exact GC hk
  obtain⟨a,ha⟩:∃a,ts[i]?=some a:=⟨_,Xo hi⟩;refine El (Yq (El (wpAny_onRaise (XJ Iv.tk (H.W.item i s _ _ hi H.st λv h1 tk1 hv st1 hk1 htk1=>?_)))));refine zv Iv H G X dead ha hv st1 hk1 htk1 λoI1 gI1 bI1 I1 rv X01 step=>af (hb i a ha) λρ1 hbt hbody=>af (qt (prog:=prog) (w:=w) (A:=A) hbt I1 rv hh) λxs hxs wb=>El (uq gI1 bI1 (El (KE wb (λ_ s2 zq3=>aw zq3 λX2 I2=>?_) no)));have X12:ae (XS c env) {s with heap:=h1,toks:=tk1} s2:=X2.weaken λb zq4=>af zq4 λX zz o=>XS.own o;have G2:bH ss.heap cs c:=G;have X02:ae (XS cs env) ss s2:=X01.stm G X12;refine El (KE (hbody c s2 I2 G X02) (λf s3 r=>?_) no);exact ko (step X12 r) λc3 g3 X3 I3 hf H3=>aa hf (Ev ⟨rfl,Cj hh hb dead lv k (i+1) c3 s3 (by exact GD hk) I3 H3 g3 X3⟩)
section
open Builtin Builtin.Str
structure vI(K:Frag)(mg:Str->Option W2):Prop where
 name:mg "_special_chars_map"=some (.ref 136)
 isi:mg "isinstance"=none
 str:mg "str"=none
 dict:∃o es ep,K.lookup 136=some o/\o.ExactDict/\o.data=.dict es ep/\(∀e∈es,∃k,ZB k e.key=true/\e.hash=hashInt k)/\
  ∀c∈jw,match j7 c with
   | [_]=>findBy ZB es (.ofNat c)=none
   | y=>∃t,findBy ZB es (.ofNat c)=some (.str ⟨⟨y⟩⟩ t)
theorem Ro:isSubtype (.type "KeyError") (.type "LookupError")=pure true:=by rw[ZC];rfl'
theorem Rp{f:Int->Option W2}{n:Nat}{Q:Mapped->Xd->Prop}(hh:A.handled=none)(hm:s.heap.MapOf (intKind prog w) 136 f)(hf:f (.ofNat n)=none)(h:∀h' tk,(∀b o,s.heap.get? b=some o->h'.get? b=some o)->Q .keep {s with heap:=h',toks:=tk}) :
  Xf (Xe prog w) A (tableLookup (.ref 136) n) Q E s:=by
 skip;refine El (wpAny_attempt ?_);refine El (wpAny_mkInt ?_);refine wpAny_getItem_missing_of (knd:=intKind prog w) (k:=.ofNat n) (by simp[intKind,ZB]) (by decide) hh hm hf λh' e X=>bb X.there λob t g1 g2 zz=>El (Zs (T:="KeyError") (ah _ g1 g2) Ro ?_);refine KFB.if_so rfl (El (ZZ (Ev ?_)));exact h _ _ X.keeps
theorem Ck{f:Int->Option W2}{n:Nat}{y:Str}{u:Tok}{Q:Mapped->Xd->Prop}(hm:s.heap.MapOf (intKind prog w) 136 f)(hf:f (.ofNat n)=some (.str y u))(h:∀tk,Q (.text y) {s with toks:=tk}) :
  Xf (Xe prog w) A (tableLookup (.ref 136) n) Q E s:=by
 skip;refine El (wpAny_attempt ?_);refine El (wpAny_mkInt ?_);refine wpAny_getItem_of (knd:=intKind prog w) (k:=.ofNat n) (by simp[intKind,ZB]) hm hf (El (XG (a:=none) (by rfl') ?_));skip;refine El (XG (a:=some y) (by rfl') ?_);exact Ev (h _)
theorem Rq:tooLong 2=false:=by decide
theorem Rr{f:Int->Option W2}{n:Nat}{t:Tok}{Q:Fin->Xd->Prop}(hn:n<128)(hh:A.handled=none)(hm:s.heap.MapOf (intKind prog w) 136 f)(hf:f (.ofNat n)=none)
  (h:∀h' tk tk',(∀b o,s.heap.get? b=some o->h'.get? b=some o)->Q (.done (.ret (.str ⟨⟨[n]⟩⟩ tk'))) {s with heap:=h',toks:=tk}) :
  Xf (Xe prog w) A (Xp.«str.translate» ⟨[.str ⟨⟨[n]⟩⟩ t,.ref 136],[]⟩) Q E s:=by
 unfold Xp.«str.translate»;refine El (XG (a:=(.str ⟨⟨[n]⟩⟩ t,⟨⟨[n]⟩⟩,.ref 136)) (by rfl') ?_);dsimp only;refine aa (show((⟨⟨[n]⟩⟩:Str).length==0)=false from rfl) ?_;have ha:(Array.all ⟨[n]⟩ λx=>decide (x<128))=true:=by simp[hn]
 refine aS (Array.forIn_toList) (aa (ha) ?_);dsimp only;refine El (El (El (Rp hh hm hf λh' tk k=>?_)));skip;refine El (Ev ?_);skip;refine Ev ?_;skip;refine Ev ?_;skip;skip;skip;skip;exact El (wpAny_mkStr (Ev (h _ _ _ k)) (by show 1<=_;decide))
theorem Rs{f:Int->Option W2}{n:Nat}{y:List Nat}{t u:Tok}{Q:Fin->Xd->Prop}(hn:n<128)(hy:y.length=2)(hm:s.heap.MapOf (intKind prog w) 136 f)(hf:f (.ofNat n)=some (.str ⟨⟨y⟩⟩ u))
  (h:∀tk tk',Q (.done (.ret (.str ⟨⟨y⟩⟩ tk'))) {s with toks:=tk}) :
  Xf (Xe prog w) A (Xp.«str.translate» ⟨[.str ⟨⟨[n]⟩⟩ t,.ref 136],[]⟩) Q E s:=by
 unfold Xp.«str.translate»;refine El (XG (a:=(.str ⟨⟨[n]⟩⟩ t,⟨⟨[n]⟩⟩,.ref 136)) (by rfl') ?_);dsimp only;skip;have ha:(Array.all ⟨[n]⟩ λx=>decide (x<128))=true:=by simp[hn]
 have hl:(⟨⟨y⟩⟩:Str).length=2:=hy;refine aS (Array.forIn_toList) (aa (ha) ?_);dsimp only;refine El (El (El (Ck hm hf λtk=>?_)));skip;simp only[hl,show((2:Nat)==1)=false from rfl,Bool.false_and,Bool.false_eq_true,if_false];refine El (Ev ?_);skip;refine El (ZZ ?_);refine El (Ck hm hf λtk=>?_);dsimp only;refine Ev ?_;skip;refine Ev ?_;skip;refine aa (hl) (aa (Rq) ?_);have e:(⟨List.foldl (λacc p=>acc++p.cps) #[] [(⟨⟨y⟩⟩:Str)].reverse⟩:Str)=⟨⟨y⟩⟩:=by
  show(⟨#[]++(⟨y⟩:Array Nat)⟩:Str)=_;rw[Array.empty_append]
 refine aa (e) ?_;skip;exact El (wpAny_mkStr (Ev (h _ _)) (by rw[hl];decide))
noncomputable abbrev zI:Stmt:=au 10 0
noncomputable abbrev zT:Expr:=aV zI
noncomputable abbrev zR:Stmt:=at_ (aO zI) 0
noncomputable abbrev zC:Expr:=cW zR
theorem Rt:bt (am 10)=[.If zT [zR] (cB zI) (eB zI)]:=by rfl'
noncomputable def zA:Expr:=(bx zT).getD 0 e0
noncomputable def zB:Expr:=(bx zT).getD 1 e0
theorem Ru:zT=.Call (.Name "isinstance" (bQ (aJ zT))) [.Name "pattern" (bQ zA),.Name "str" (bQ zB)] [] (bB zT):=by rfl'
noncomputable def zM:Expr:=(bx zC).getD 0 e0
theorem Rv:zR=.Return (some (.Call (.Attribute (.Name "pattern" (lZ zC)) "translate" (l5 zC)) [.Name "_special_chars_map" (bQ zM)] [] (bB zC))) (jE zR):=by rfl'
theorem Rw:Zx "isinstance"=some (.builtin "isinstance"):=by decide +kernel
noncomputable def Tn:bh:=⟨λ_ _=>none,λ_ _ _=>none,λ_=>none⟩
noncomputable def pi:List Nat:=aaB
theorem Rx(F:vI K mg)(O:dh prog w K mg Tn m)(all:∀n,fM prog w K Tn m n){a:Addr}(D:dE K a (am 10)){n:Nat}(hn:n∈jw):i8 prog w K (m+1) a [.str [n]] (.str (j7 n)):=by
 refine iI D λo fd e1 e2 e3 D e4 e5=>?_;intro c s us A B C hr tk R;refine ou D e1 e2 e3 B C hr (by rw[e4];rfl) tk R λcN s1 hθ hcells hex hle X I nw A1 R1=>?_;have hsc:(Xz fd s.heap.objs.size a).scope=aF (am 10):=e5;have hs:aQ (⟨Tn,aF (am 10),[],0⟩:aH) (Xz fd s.heap.objs.size a):=⟨e5.symm,λh=>absurd rfl h⟩;have I0:ak K cN (Xz fd s.heap.objs.size a) [(pi,.val (.str [n]))] [] s1:=by
  have e:fg fd.params.args ([AV.str [n]].map PV.val)=[(pi,.val (.str [n]))]:=by rw[e4];rfl'
  rw[e]at I;exact I
 have hp:∀p,pe 3 (⟨Tn,aF (am 10),[],0⟩:aH) [(pi,.val (.str [n]))] [] (.Name "pattern" p)=some (.val (.str [n]),[]):=λp=>by rfl'
 have hN:∀{p s2}{Q:W2->Xd->Prop},ak K cN (Xz fd s.heap.objs.size a) [(pi,.val (.str [n]))] [] s2->(∀s3 t,ae (XE cN) s2 s3->ak K cN (Xz fd s.heap.objs.size a) [(pi,.val (.str [n]))] [] s3->Q (.str ⟨⟨[n]⟩⟩ t) s3)->Xf (Xe prog w) A1 (eval (.Name "pattern" p) (Xz fd s.heap.objs.size a)) Q nr s2:=λI2 k=>
  KE ((all 3).pe rfl hs (hp _) I2 R1) (λv s3 zq0=>da zq0 λX3 I3 r3=>by refine cq r3 λzz t zr2=>?_;clear hn hr I0 hp I2 r3 zz;refine aa zr2 ?_;exact k s3 t X3 I3) no
 have hk:∀{Y:Str},(aF (am 10)).names.lookup Y=some .globalImplicit->(Xz fd s.heap.objs.size a).kindOf Y=some .globalImplicit:=λh=>by show fd.scope.names.lookup _=_;rw[e5];exact h
 refine b5 F.dict λob es ep q1 q2 q3 q4 q5=>?_;have hm:∀{h:Heap},aC K h->h.MapOf (intKind prog w) 136 (λk=>findBy ZB es k):=λB=>(dS ob es ep (B.stat 136 ob q1 (by unfold aG;decide)) q2 q3 q4 (λ_=>rfl));have toD:∀{c0:aj}{x:Addr},c0.cells=[]->XE c0 x->aG x:=λhc h=>h.elim (λh=>by rw[hc]at h;cases h) id;refine aa Rt (Yw (wpAny_If ?_));refine wpAny_isTrue_value ?_ (by rfl');refine aa (Ru) ?_;skip;refine af I0.ns_b λmb nb hmb=>El (Xx I0.env.kind (hk (by rfl')) (Zc (iw O I0) F.isi nb (by rw[hmb "isinstance" (by decide)];exact Rw) ?_));refine XW rfl (iy rfl ?_);refine XK (hN I0 λs2 t X2 I2=>?_);refine af I2.ns_b λmb2 nb2 hmb2=>XK (Xx I2.env.kind (hk (by rfl')) (Zc (iw O I2) F.str nb2 (by rw[hmb2 "str" (by decide)];exact yM) (YC ?_)));refine IsiPair.str_str (Zi (aa (if_pos rfl) (aa (Rv) (Yw (wpAny_Return_some ?_)))));refine Yd (g9 rfl _) (gK rfl rfl) (by rfl') (hN I2 λs3 t X3 I3=>?_);refine(gW ("str") _ PySem.F.plainAttrs_str PySem.F.slot_str_translate PySem.F.type_str_translate (Zh _ _ _) (λ_ e=>nomatch e) (XW rfl (iy rfl (XK (Xx I3.env.kind (hk (by rfl')) (YX (iw O I3) F.name (YC ?_)))))));have Xa:ae aG s s3:=(X.x0.trans (X2.weaken λ_=>toD hcells)).trans (X3.weaken λ_=>toD hcells);have hA:=R1.1;have hn128:n<128:=by
  have:∀n∈jw,n<128:=by decide
  exact this n hn
 have q6:=q5 n hn;refine wpAny_call_entry PySem.F.slot_str_translate (Zh _ _ _) PySem.F.entry_str_translate ?_ (PySem.F.args_str_translate_2 _ _);split at q6
 ·rename_i y hy;have ey:j7 n=[n]:=by
   have:∀n∈jw,j7 n=[n]\/(j7 n).length=2:=by decide
   clear hr I I0 hN I2 I3 hn128 q6;rcases this n hn with h | h
   ·exact h
   ·rw[hy]at h;clear hy;cases h
  refine Rr hn128 hA (hm I3.base) q6 λh' tk tk' k=>(ah _ rfl ?_);have X4:ae X0 s3 {s3 with heap:=h',toks:=tk}:=ae.kept k rfl id;exact(dH _ rfl (Xa.trans X4.x0) (I3.base.keep0 X4.all) (by rw[ey];exact(gB (by show 1<=4096;exact En) _ rfl)))
 ·rename_i hy;refine al q6 λu q7=>?_;have ly:(j7 n).length=2:=by
   have:∀n∈jw,(j7 n).length=2\/∃y,j7 n=[y]:=by
    intro n hn;simp only[jw,Xk,Xw,or_false]at hn;rcases hn with rfl | rfl | rfl | rfl | rfl
    ·exact .inr ⟨_,rfl⟩
    ·exact .inr ⟨_,rfl⟩
    ·exact .inl rfl
    ·exact .inl rfl
    ·exact .inl rfl
   clear hr I I0 hN I2 I3 hn128 q6 q7;rcases this n hn with h | ⟨y,h⟩
   ·exact h
   ·exact(hy y h).elim
  refine Rs hn128 ly (hm I3.base) q7 λtk tk'=>(ah _ rfl ?_);have X4:ae X0 s3 {s3 with toks:=tk}:=ae.tk _ _ _;exact(dH _ rfl (Xa.trans X4.x0) (I3.base.keep0 X4.all) (gB (by rw[ly];show 2<=4096;exact Eo) _ rfl))
end
noncomputable def pat(ds:List Nat):List Nat:=bF [] (ds.map λd=>(kd d).text)
noncomputable def dQ(t:List Nat):List Nat:=40::63::115::58::(t++[41,92,90])
noncomputable def cL(T:bh):aH:={tab:=T,sc:=aF (am 26),own:=[],gen:=0}
noncomputable abbrev L0:Stmt:=au 26 0
noncomputable abbrev L1:Stmt:=au 26 1
theorem Ry:L0=.Assign [.Tuple (qJ L0) (qK L0) (dq L0)] (.Call (.Name (bO (aJ (ay L0))) (bQ (aJ (ay L0)))) (bx (ay L0)) [] (bB (ay L0))) (du L0):=by rfl'
theorem Rz:nm (bO (aJ (ay L0)))=jW:=by rfl'
section
variable{xs:List Int}{ds y t:List Nat}{M:List Bool}
theorem RA(n:Nat)(hT:T.fn jW [.lst (xs.map AV.int)]=some (.tup [.lst (ds.map λd=>(kd d).av),.str y])):pex (n+20) (cL T) [(aan,.val (.lst (xs.map AV.int)))] [] L0=some (.next,[(aan,.val (.lst (xs.map AV.int))),(aat,.val (.lst (ds.map λd=>(kd d).av))),(aam,.val (.str y))],[]):=by
 refine aa (Ry) ?_;exact oG (xs:=[⟨⟨aat⟩⟩,⟨⟨aam⟩⟩]) (vs:=[.lst (ds.map λd=>(kd d).av),.str y]) (by rfl') (jf (σ1:=[]) (vs:=[.val (.lst (xs.map AV.int))]) (us:=[.lst (xs.map AV.int)]) (by rfl') (by rfl') (by rfl') (by rfl') (by rfl') trivial rfl (by rw[Rz];exact hT)) (by rfl') (by rfl')
noncomputable abbrev pj:Expr:=ay L1
noncomputable abbrev vJ:Expr:=rn (aJ pj)
noncomputable abbrev pk:Expr:=(bx pj).getD 0 e0
theorem RB:L1=.Assign [.Name (eA L1) (dq L1)] (.Call (.Attribute (.Constant (rk vJ) (rl vJ) (rm vJ)) (ro (aJ pj)) (rq (aJ pj))) [.ListComp (bw pk) [⟨fh pk,fj pk,[],0⟩] (fk pk) (fm pk)] [] (bB pj)) (du L1):=by rfl'
theorem RC:∀d,d<20->(kd d).text.length<=7:=by decide
theorem RD(n:Nat)(hd:∀d∈ds,d<20)(hl:ds.length<=8):pex (n+30) (cL T) [(aan,.val (.lst (xs.map AV.int))),(aat,.val (.lst (ds.map λd=>(kd d).av))),(aam,.val (.str y))] [] L1=some (.next,[(aan,.val (.lst (xs.map AV.int))),(aat,.val (.lst (ds.map λd=>(kd d).av))),(aam,.val (.str y)),(aaB,.val (.str (pat ds)))],[]):=by
 refine aa (RB) ?_;refine eC (v:=.str (pat ds)) (by rfl') trivial (BR (x:=[]) (l:=(ds.map λd=>(kd d).text).map AV.str) trivial (by rfl') (by rfl') (fo (it:=.val (.lst (ds.map λd=>(kd d).av))) (ts:=ds.map λd=>(kd d).av) (ρ0:=[]) (by rfl') (by rfl') (by rfl') (by rfl') (by rw[YV];exact kc (h:=λd=>AV.str (kd d).text) (by rfl') λd _=>(ah ([(aar,.val (.str (kd d).text)),(aap,.val (.bool (kd d).bar)),(aao,.val (bn (kd d).rngs))]) (by rfl') (by rfl')))) ?_) (by rfl');refine ba (x:=jo ((ds.map λd=>(kd d).text).map AV.str)) (o4 _) (jy ?_);have:=rH 7 (ds.map λd=>(kd d).text) (by intro a ha;refine af (Yp.mp ha) λd h zr2=>?_;clear ha;subst zr2;exact RC d (hd d h));rw[W7]at this;show _<=4096;exact FO hl this
noncomputable abbrev L3:Stmt:=au 26 3
theorem RE:L3=.Assign [.Name (eA L3) (dq L3)] (.Call (.Name (bO (aJ (ay L3))) (bQ (aJ (ay L3)))) (bx (ay L3)) [] (bB (ay L3))) (du L3):=by rfl'
theorem RF:nm (bO (aJ (ay L3)))=iT:=by rfl'
theorem RG(n:Nat)(hT:T.fn iT [.str (pat ds),.op 0,.str [46]]=some (.lst ((bY ds).map aM))):pex (n+20) (cL T) [(aan,.val (.lst (xs.map AV.int))),(aat,.val (.lst (ds.map λd=>(kd d).av))),(aam,.val (.str y)),(aaB,.val (.str (pat ds))),(aaz,.val (.op 0))] [] L3=some (.next,[(aan,.val (.lst (xs.map AV.int))),(aat,.val (.lst (ds.map λd=>(kd d).av))),(aam,.val (.str y)),(aaB,.val (.str (pat ds))),(aaz,.val (.op 0)),(aaH,.val (.lst ((bY ds).map aM)))],[]):=by
 refine aa (RE) ?_;exact eC (by rfl') trivial (jf (σ1:=[]) (vs:=[.val (.str (pat ds)),.val (.op 0),.val (.str [46])]) (us:=[.str (pat ds),.op 0,.str [46]]) (by rfl') (by rfl') (by rfl') (by rfl') (by rfl') trivial rfl (by rw[RF];exact hT)) (by rfl')
noncomputable abbrev L4:Stmt:=au 26 4
theorem RH:L4=.Assign [.Name (eA L4) (dq L4)] (.Call (.Name (bO (aJ (ay L4))) (bQ (aJ (ay L4)))) (bx (ay L4)) [] (bB (ay L4))) (du L4):=by rfl'
theorem RI:nm (bO (aJ (ay L4)))=kO:=by rfl'
theorem RJ(n:Nat)(hT:T.fn kO [.str (pat ds)]=some (.str (dQ t))):pex (n+20) (cL T) [(aan,.val (.lst (xs.map AV.int))),(aat,.val (.lst (ds.map λd=>(kd d).av))),(aam,.val (.str y)),(aaB,.val (.str (pat ds))),(aaz,.val (.op 0)),(aaH,.val (.lst ((bY ds).map aM)))] [] L4=some (.next,[(aan,.val (.lst (xs.map AV.int))),(aat,.val (.lst (ds.map λd=>(kd d).av))),(aam,.val (.str y)),(aaB,.val (.str (pat ds))),(aaz,.val (.op 0)),(aaH,.val (.lst ((bY ds).map aM))),(aaL,.val (.str (dQ t)))],[]):=by
 refine aa (RH) ?_;exact eC (by rfl') trivial (jf (σ1:=[]) (vs:=[.val (.str (pat ds))]) (us:=[.str (pat ds)]) (by rfl') (by rfl') (by rfl') (by rfl') (by rfl') trivial rfl (by rw[RI];exact hT)) (by rfl')
noncomputable abbrev L5:Stmt:=au 26 5
theorem RK:L5=.Assign [.Name (eA L5) (dq L5)] (.Call (.Name (bO (aJ (ay L5))) (bQ (aJ (ay L5)))) (bx (ay L5)) [] (bB (ay L5))) (du L5):=by rfl'
theorem RL:nm (bO (aJ (ay L5)))=kM:=by rfl'
theorem RM(n:Nat)(hT:T.fn kM [.lst (ds.map λd=>(kd d).av),.str y]=some (aP M)):pex (n+20) (cL T) [(aan,.val (.lst (xs.map AV.int))),(aat,.val (.lst (ds.map λd=>(kd d).av))),(aam,.val (.str y)),(aaB,.val (.str (pat ds))),(aaz,.val (.op 0)),(aaH,.val (.lst ((bY ds).map aM))),(aaL,.val (.str (dQ t)))] [] L5=some (.next,[(aan,.val (.lst (xs.map AV.int))),(aat,.val (.lst (ds.map λd=>(kd d).av))),(aam,.val (.str y)),(aaB,.val (.str (pat ds))),(aaz,.val (.op 0)),(aaH,.val (.lst ((bY ds).map aM))),(aaL,.val (.str (dQ t))),(aa0,.val (aP M))],[]):=by
 refine aa (RK) ?_;exact eC (by rfl') trivial (jf (σ1:=[]) (vs:=[.val (.lst (ds.map λd=>(kd d).av)),.val (.str y)]) (us:=[.lst (ds.map λd=>(kd d).av),.str y]) (by rfl') (by rfl') (by rfl') (by rfl') (by rfl') trivial rfl (by rw[RL];exact hT)) (by rfl')
end
noncomputable def kj(xs:List Int)(ds y t:List Nat)(M:List Bool):ai:=[(aan,.val (.lst (xs.map AV.int))),(aat,.val (.lst (ds.map λd=>(kd d).av))),(aam,.val (.str y)),(aaB,.val (.str (pat ds))),(aaz,.val (.op 0)),(aaH,.val (.lst ((bY ds).map aM))),(aaL,.val (.str (dQ t))),(aa0,.val (aP M))]
section
variable{xs:List Int}{ds y t:List Nat}{M:List Bool}
theorem RN(t:List Nat):(dQ t).drop ((dQ t).length-3)=[41,92,90]:=by
 have e:dQ t=(40::63::115::58::t)++[41,92,90]:=rfl;exact aa e (aa Om (List.drop_left ..))
theorem RO(t:List Nat):((dQ t).take ((dQ t).length-3)).drop 4=t:=by
 have e:dQ t=(40::63::115::58::t)++[41,92,90]:=rfl;rw[e,Om];show(List.take ((40::63::115::58::t).length+3-3) _).drop 4=t;rw[Nat.add_sub_cancel,List.take_left];rfl
noncomputable abbrev L6:Stmt:=au 26 6
noncomputable abbrev g1:Expr:=o5 (aV L6)
noncomputable abbrev g2:Expr:=o6 (aV L6)
theorem RP:L6=.If (.BoolOp .Or [.Compare (aI g1) [.NotEq] [bj g1] (bl g1),.Compare (aI g2) [.NotEq] [bj g2] (bl g2)] (jd (aV L6))) (aO L6) [] (eB L6):=by rfl'
theorem RQ(n:Nat):pex (n+20) (cL T) (kj xs ds y t M) [] L6=some (.next,kj xs ds y t M,[]):=by
 rw[RP];refine(eV (v:=false) (BQ (n:=n+16) (dk (a:=.str [40,63,115,58]) (b:=.str [40,63,115,58]) (by rfl') (by rfl') (vx _)) (dk (a:=.str ((dQ t).drop ((dQ t).length-3))) (b:=.str [41,92,90]) (by rfl') (by rfl') (by simp only[RN];exact vx _)) (by exact FP))).trans rfl
noncomputable abbrev L7:Stmt:=au 26 7
noncomputable abbrev h7:Expr:=aI (aV L7)
noncomputable abbrev b7:Expr:=(qL h7).getD 0 e0
noncomputable abbrev x7:Expr:=o5 b7
noncomputable abbrev y7:Expr:=o6 b7
theorem RS:L7=.If (.Compare (.ListComp (bw h7) [⟨fh h7,fj h7,[.BoolOp .And [.Compare (aI x7) [.IsNot] [bj x7] (bl x7),.Compare (.Subscript (.Call (.Name (bO (aJ (cY (aI y7)))) (bQ (aJ (cY (aI y7))))) (bx (cY (aI y7))) [] (bB (cY (aI y7)))) (dj (aI y7)) (eH (aI y7))) [.NotEq] [bj y7] (bl y7)] (jd b7)],0⟩] (fk h7) (fm h7)) [.NotEq] [bj (aV L7)] (bl (aV L7))) (aO L7) [] (eB L7):=by rfl'
theorem RT:nm (bO (aJ (cY (aI y7))))=jX:=by rfl'
theorem RU(l:List Nat):fe .NotEq (.lst ((l.filter λ_=>false).map aM)) (.lst [])=some false:=by
 rw[List.filter_eq_nil_iff.mpr (λ_ _ h=>Y1 h)];rfl
theorem RV(n:Nat)(hT:∀d,2<=d->d<20->T.fn jX [.str (tx d),.str []]=some (db d false))(hd:∀d∈ds,d<20):pex (n+40) (cL T) (kj xs ds y t M) [] L7=some (.next,kj xs ds y t M,[]):=by
 rw[RS];refine(eV (v:=false) (dk (a:=.lst (((bY ds).filter λ_=>false).map aM)) (b:=.lst []) (fo (it:=.val (.lst ((bY ds).map aM))) (ts:=(bY ds).map aM) (ρ0:=[(aaz,.val (.op 0))]) (by rfl') (by rfl') (by rfl') (by rfl')
  (oH (h:=aM) (t:=λ_=>false) (by rfl') λd hm=>(de ([(aaz,.val (.op 0)),(aaZ,.val (aM d))]) (by rfl') ?_ (λc=>by exact eE c)))) (by rfl') (RU _))).trans rfl
 have h20:=(Ci hd d hm).1;unfold aM;cases hs:bz d with
 | true=>exact kh (a:=false) (b:=false) (dk (a:=.op 0) (b:=.op 0) (by rfl') (by rfl') rfl) (λc=>by exact eE c)
 | false=>
  have h2:=rD d h20 hs;exact kh (a:=true) (b:=false) (dk (a:=.str (tx d)) (b:=.op 0) (by rfl') (by rfl') rfl) (λ_=>dk (a:=.int (.ofNat (tx d).length)) (b:=.int (.ofNat (tx d).length)) (fG (a:=db d false) (x:=.int 0) trivial (jf (σ1:=[]) (vs:=[.val (.str (tx d)),.val (.str [])]) (us:=[.str (tx d),.str []]) (by rfl') (by rfl') (by rfl') (by rfl') (by rfl') trivial rfl (by (refine aa RT ?_);exact hT d h2 h20)) (by rfl') rfl) (by rfl') (ri _))
end
theorem Cl:∀xs:List Int,jn (xs.map AV.int)=some xs.sum
 | []=>rfl
 | a::l=>ba (x:=eF (.int a)) (a:=a) rfl (ba (Cl l) rfl)
theorem RW(M:List Bool):fe .Eq (aP M) (aP M)=some true:=by
 show jm (jO 3) (M.map AV.bool) (M.map AV.bool)=some true;induction M with
 | nil=>rfl
 | cons b M ih=>
  exact ba (x:=(some (b==b):Option Bool)) (a:=true) (congrArg some (beq_self_eq_true b)) (ba ih rfl)
theorem RX{n:Nat}{c:aH}{ρ:ai}{σ:S}{a b d:Expr}{u v w:PV}(h1:pe (n+3) c ρ σ a=some (u,σ))(h2:pe (n+2) c ρ σ b=some (v,σ))(h3:pe (n+1) c ρ σ d=some (w,σ)):pargs (n+4) c ρ σ [a,b,d]=some ([u,v,w],σ):=
 bs h1 (bs (a:=[v,w]) (b:=σ) (bs h2 (bs (a:=[w]) (b:=σ) (bs h3 rfl) rfl)) rfl)
section
variable{xs:List Int}{ds y t:List Nat}{M:List Bool}
noncomputable abbrev L8:Stmt:=au 26 8
noncomputable abbrev p8:Expr:=aI (aV L8)
noncomputable abbrev s8:Expr:=bj (aV L8)
noncomputable abbrev c8:Expr:=(bx s8).getD 0 e0
noncomputable abbrev f8:Expr:=(qL c8).getD 0 e0
theorem RY:L8=.If (.Compare (.Call (.Name (bO (aJ p8)) (bQ (aJ p8))) (bx p8) [] (bB p8)) [.NotEq] [.Call (.Name (bO (aJ s8)) (bQ (aJ s8))) [.ListComp (.BinOp (aI (bw c8)) .Pow (bj (bw c8)) (bl (bw c8))) [⟨fh c8,fj c8,[.Subscript (cY f8) (dj f8) (eH f8)],0⟩] (fk c8) (fm c8)] [] (bB s8)] (bl (aV L8))) (aO L8) [] (eB L8):=by rfl'
theorem RZ:nm (bO (aJ p8))=mI:=by rfl'
theorem R4:nm (bO (aJ s8))=iO:=by rfl'
noncomputable abbrev L9:Stmt:=au 26 9
noncomputable abbrev t9:Expr:=aI (cW L9)
noncomputable abbrev a9:Expr:=(bx t9).getD 0 e0
noncomputable abbrev b9:Expr:=(bx t9).getD 1 e0
noncomputable abbrev d9:Expr:=(bx t9).getD 2 e0
noncomputable abbrev q9:Expr:=aI d9
theorem R5:L9=.Return (some (.Compare (.Call (.Name (bO (aJ t9)) (bQ (aJ t9))) [a9,b9,.BinOp (.Call (.Name (bO (aJ q9)) (bQ (aJ q9))) (bx q9) [] (bB q9)) .Mod (bj d9) (bl d9)] [] (bB t9)) [.Eq] [bj (cW L9)] (bl (cW L9)))) (jE L9):=by rfl'
theorem R6:nm (bO (aJ t9))=kN:=by rfl'
theorem R7:nm (bO (aJ q9))=iO:=by rfl'
theorem R8(n:Nat)(hT:T.fn kN [.str t,.str y,.int (xs.sum.fmod 5)]=some (aP M)):pex (n+40) (cL T) (kj xs ds y t M) [] L9=some (.ret (.val (.bool true)),kj xs ds y t M,[]):=by
 refine aa (R5) ?_;refine jF (lc (a:=aP M) (b:=aP M) (jf (σ1:=[]) (vs:=[.val (.str (((dQ t).take ((dQ t).length-3)).drop 4)),.val (.str y),.val (.int (xs.sum.fmod 5))]) (us:=[.str (((dQ t).take ((dQ t).length-3)).drop 4),.str y,.int (xs.sum.fmod 5)]) (by rfl') (by rfl') (by rfl') ?_ (by rfl') trivial rfl (by rw[R6,RO];exact hT)) (by rfl') (RW M));exact RX (n:=n+33) (by rfl') (by rfl') (eJ (a:=.int xs.sum) (b:=.int 5) (nt (σ1:=[]) (vs:=[.val (.lst (xs.map AV.int))]) (by rfl') (by rfl') (by rfl') (by rfl') (by rw[R7];exact rt (Cl xs))) (by rfl') (by rfl'))
theorem R9:bt (am 26)=[L0,L1,au 26 2,L3,L4,L5,L6,L7,L8,L9]:=by rfl'
end
noncomputable def gw:aH:={tab:=T0,sc:=aF (am 12),own:=[aaD,[99,104,117,110,107,115]],gen:=1}
noncomputable def gQ(x:List Nat):ai:=[(aaU,.val (.pat x)),(aaG,.val (.op 0)),(aaC,.val (.str [46])),(aaD,.cell 0),(aaM,.app 0),([105],.val (.idx 0)),([110],.val (.idx x.length))]
noncomputable abbrev jI:Stmt:=au 12 3
noncomputable def cm(x:List Nat)(l:List AV):Option (List AV×PV×PV×PV×PV×PV×PV×PV):=bo (pst 200 gw (gQ x) [⟨none,l⟩] (dw jI)) λq=>gd (tc q.1) (bo (nO q.2.2) λz=>bo (my z.1) λl'=>
 bo (aB q.2.1 aaU) λa=>bo (aB q.2.1 aaG) λb=>bo (aB q.2.1 aaC) λc=>bo (aB q.2.1 aaD) λd=>bo (aB q.2.1 aaM) λe=>bo (aB q.2.1 [105]) λf=>bo (aB q.2.1 [110]) λg=>some (l',a,b,c,d,e,f,g))
noncomputable def cn(x:List Nat)(l:List AV)(k:Nat):Option (List AV×PV×PV×PV×PV×PV×PV×PV):=some (l,.val (.pat x),.val (.op 0),.val (.str [46]),.cell 0,.app 0,.val (.idx k),.val (.idx x.length))
theorem Sa:∀(d:Nat)(rest:List Nat),2<=d->d<20->cm ((kd d).text++rest) []=cn ((kd d).text++rest) [AV.str (tx d)] (kd d).text.length:=λd rest h1 h2=>
 by apply eK (P:=λd=>cm ((kd d).text++rest) []=cn ((kd d).text++rest) [AV.str (tx d)] (kd d).text.length) h1 h2<;>rfl'
theorem Sb(a0:AV):∀(d:Nat)(rest:List Nat),2<=d->d<20->cm ((kd d).text++rest) [a0]=cn ((kd d).text++rest) [a0,AV.str (tx d)] (kd d).text.length:=λd rest h1 h2=>
 by apply eK (P:=λd=>cm ((kd d).text++rest) [a0]=cn ((kd d).text++rest) [a0,AV.str (tx d)] (kd d).text.length) h1 h2<;>rfl'
theorem Sc(a0 a1:AV):∀(d:Nat)(rest:List Nat),2<=d->d<20->cm ((kd d).text++rest) [a0,a1]=cn ((kd d).text++rest) [a0,a1,AV.str (tx d)] (kd d).text.length:=λd rest h1 h2=>
 by apply eK (P:=λd=>cm ((kd d).text++rest) [a0,a1]=cn ((kd d).text++rest) [a0,a1,AV.str (tx d)] (kd d).text.length) h1 h2<;>rfl'
theorem Sd(a0 a1 a2:AV):∀(d:Nat)(rest:List Nat),2<=d->d<20->cm ((kd d).text++rest) [a0,a1,a2]=cn ((kd d).text++rest) [a0,a1,a2,AV.str (tx d)] (kd d).text.length:=λd rest h1 h2=>
 by apply eK (P:=λd=>cm ((kd d).text++rest) [a0,a1,a2]=cn ((kd d).text++rest) [a0,a1,a2,AV.str (tx d)] (kd d).text.length) h1 h2<;>rfl'
theorem Se(a0 a1 a2 a3:AV):∀(d:Nat)(rest:List Nat),2<=d->d<20->cm ((kd d).text++rest) [a0,a1,a2,a3]=cn ((kd d).text++rest) [a0,a1,a2,a3,AV.str (tx d)] (kd d).text.length:=λd rest h1 h2=>
 by apply eK (P:=λd=>cm ((kd d).text++rest) [a0,a1,a2,a3]=cn ((kd d).text++rest) [a0,a1,a2,a3,AV.str (tx d)] (kd d).text.length) h1 h2<;>rfl'
theorem Sf(a0 a1 a2 a3 a4:AV):∀(d:Nat)(rest:List Nat),2<=d->d<20->cm ((kd d).text++rest) [a0,a1,a2,a3,a4]=cn ((kd d).text++rest) [a0,a1,a2,a3,a4,AV.str (tx d)] (kd d).text.length:=λd rest h1 h2=>
 by apply eK (P:=λd=>cm ((kd d).text++rest) [a0,a1,a2,a3,a4]=cn ((kd d).text++rest) [a0,a1,a2,a3,a4,AV.str (tx d)] (kd d).text.length) h1 h2<;>rfl'
theorem Sh(a0 a1 a2 a3 a4 a5:AV):∀(d:Nat)(rest:List Nat),2<=d->d<20->cm ((kd d).text++rest) [a0,a1,a2,a3,a4,a5]=cn ((kd d).text++rest) [a0,a1,a2,a3,a4,a5,AV.str (tx d)] (kd d).text.length:=λd rest h1 h2=>
 by apply eK (P:=λd=>cm ((kd d).text++rest) [a0,a1,a2,a3,a4,a5]=cn ((kd d).text++rest) [a0,a1,a2,a3,a4,a5,AV.str (tx d)] (kd d).text.length) h1 h2<;>rfl'
theorem Si(a0 a1 a2 a3 a4 a5 a6:AV):∀(d:Nat)(rest:List Nat),2<=d->d<20->cm ((kd d).text++rest) [a0,a1,a2,a3,a4,a5,a6]=cn ((kd d).text++rest) [a0,a1,a2,a3,a4,a5,a6,AV.str (tx d)] (kd d).text.length:=λd rest h1 h2=>
 by apply eK (P:=λd=>cm ((kd d).text++rest) [a0,a1,a2,a3,a4,a5,a6]=cn ((kd d).text++rest) [a0,a1,a2,a3,a4,a5,a6,AV.str (tx d)] (kd d).text.length) h1 h2<;>rfl'
theorem Sj(a0 a1 a2 a3 a4 a5 a6 a7:AV):∀(d:Nat)(rest:List Nat),2<=d->d<20->cm ((kd d).text++rest) [a0,a1,a2,a3,a4,a5,a6,a7]=cn ((kd d).text++rest) [a0,a1,a2,a3,a4,a5,a6,a7,AV.str (tx d)] (kd d).text.length:=λd rest h1 h2=>
 by apply eK (P:=λd=>cm ((kd d).text++rest) [a0,a1,a2,a3,a4,a5,a6,a7]=cn ((kd d).text++rest) [a0,a1,a2,a3,a4,a5,a6,a7,AV.str (tx d)] (kd d).text.length) h1 h2<;>rfl'
theorem Sk(rest:List Nat):cm (42::rest) []=cn (42::rest) [.op 0] 1:=by rfl'
theorem Sl(rest:List Nat):cm (42::rest) [AV.op 0]=cn (42::rest) [AV.op 0] 1:=by rfl'
theorem Sm(s:List Nat)(rest:List Nat):cm (42::rest) [AV.str s]=cn (42::rest) [AV.str s,AV.op 0] 1:=by rfl'
theorem Sn(a0:AV)(rest:List Nat):cm (42::rest) [a0,AV.op 0]=cn (42::rest) [a0,AV.op 0] 1:=by rfl'
theorem So(a0:AV)(s:List Nat)(rest:List Nat):cm (42::rest) [a0,AV.str s]=cn (42::rest) [a0,AV.str s,AV.op 0] 1:=by rfl'
theorem Sp(a0 a1:AV)(rest:List Nat):cm (42::rest) [a0,a1,AV.op 0]=cn (42::rest) [a0,a1,AV.op 0] 1:=by rfl'
theorem Sq(a0 a1:AV)(s:List Nat)(rest:List Nat):cm (42::rest) [a0,a1,AV.str s]=cn (42::rest) [a0,a1,AV.str s,AV.op 0] 1:=by rfl'
theorem Sr(a0 a1 a2:AV)(rest:List Nat):cm (42::rest) [a0,a1,a2,AV.op 0]=cn (42::rest) [a0,a1,a2,AV.op 0] 1:=by rfl'
theorem Ss(a0 a1 a2:AV)(s:List Nat)(rest:List Nat):cm (42::rest) [a0,a1,a2,AV.str s]=cn (42::rest) [a0,a1,a2,AV.str s,AV.op 0] 1:=by rfl'
theorem Su(a0 a1 a2 a3:AV)(rest:List Nat):cm (42::rest) [a0,a1,a2,a3,AV.op 0]=cn (42::rest) [a0,a1,a2,a3,AV.op 0] 1:=by rfl'
theorem Sv(a0 a1 a2 a3:AV)(s:List Nat)(rest:List Nat):cm (42::rest) [a0,a1,a2,a3,AV.str s]=cn (42::rest) [a0,a1,a2,a3,AV.str s,AV.op 0] 1:=by rfl'
theorem Sw(a0 a1 a2 a3 a4:AV)(rest:List Nat):cm (42::rest) [a0,a1,a2,a3,a4,AV.op 0]=cn (42::rest) [a0,a1,a2,a3,a4,AV.op 0] 1:=by rfl'
theorem Sx(a0 a1 a2 a3 a4:AV)(s:List Nat)(rest:List Nat):cm (42::rest) [a0,a1,a2,a3,a4,AV.str s]=cn (42::rest) [a0,a1,a2,a3,a4,AV.str s,AV.op 0] 1:=by rfl'
theorem Sy(a0 a1 a2 a3 a4 a5:AV)(rest:List Nat):cm (42::rest) [a0,a1,a2,a3,a4,a5,AV.op 0]=cn (42::rest) [a0,a1,a2,a3,a4,a5,AV.op 0] 1:=by rfl'
theorem Sz(a0 a1 a2 a3 a4 a5:AV)(s:List Nat)(rest:List Nat):cm (42::rest) [a0,a1,a2,a3,a4,a5,AV.str s]=cn (42::rest) [a0,a1,a2,a3,a4,a5,AV.str s,AV.op 0] 1:=by rfl'
theorem SD(a0 a1 a2 a3 a4 a5 a6:AV)(rest:List Nat):cm (42::rest) [a0,a1,a2,a3,a4,a5,a6,AV.op 0]=cn (42::rest) [a0,a1,a2,a3,a4,a5,a6,AV.op 0] 1:=by rfl'
theorem SE(a0 a1 a2 a3 a4 a5 a6:AV)(s:List Nat)(rest:List Nat):cm (42::rest) [a0,a1,a2,a3,a4,a5,a6,AV.str s]=cn (42::rest) [a0,a1,a2,a3,a4,a5,a6,AV.str s,AV.op 0] 1:=by rfl'
section
variable{c:aH}
theorem Cm{l:List AV}{v:AV}(hl:l.length<=4096):iu jP ⟨none,l⟩ [v]=some (.none,⟨none,l++[v]⟩):=cV (b:=YG l.length aD) (XB hl) rfl
theorem pn{f:Str}{q p:Pos}{e:Expr}{k:Nat}{v:AV}{l:List AV}(hd:ax (nm f) eM=false)(h1:aB ρ (nm f)=some (.app k))(h2:pe n c ρ σ e=some (.val v,σ))(h3:bP σ k=some ⟨none,l⟩)(hl:l.length<=4096):pe (n+1) c ρ σ (.Call (.Name f q) [e] [] p)=some (.val .none,dg σ k ⟨none,l++[v]⟩):=
 cV (b:=!ax (nm f) eM) (congrArg (!·) hd) (lL (x:=aB ρ (nm f)) h1 (ba (x:=nK (.app k)) (a:=k) rfl (ba (x:=cu [e]) (a:=e) rfl (dz h2 (ba h3 (bs (Cm hl) rfl))))))
end
noncomputable def cJ:aH:={tab:=T0,sc:=aF (am 13),own:=[aaD,[102,105,120,101,100]],gen:=0}
noncomputable def rJ(L:List AV)(i n:Nat):ai:=[(aaR,.val (.lst L)),(aaG,.val (.op 0)),(aaD,.cell 0),(aaM,.app 0),([110],.val (.int (.ofNat n))),([105],.val (.int (.ofNat i)))]
theorem SG(n:Nat)(L:List AV):pex (n+10) cJ [(aaR,.val (.lst L)),(aaG,.val (.op 0))] [] (au 13 0)=some (.next,[(aaR,.val (.lst L)),(aaG,.val (.op 0)),(aaD,.cell 0)],[⟨none,[]⟩]):=by rfl'
theorem SH(n:Nat)(L:List AV):pex (n+10) cJ [(aaR,.val (.lst L)),(aaG,.val (.op 0)),(aaD,.cell 0)] [⟨none,[]⟩] (au 13 1)=some (.next,[(aaR,.val (.lst L)),(aaG,.val (.op 0)),(aaD,.cell 0),(aaM,.app 0)],[⟨none,[]⟩]):=by rfl'
theorem SI(n:Nat)(L:List AV):pex (n+10) cJ [(aaR,.val (.lst L)),(aaG,.val (.op 0)),(aaD,.cell 0),(aaM,.app 0)] [⟨none,[]⟩] (au 13 2)=some (.next,rJ L 0 L.length,[⟨none,[]⟩]):=by rfl'
noncomputable abbrev W3:Stmt:=au 13 3
noncomputable abbrev iE:Expr:=o5 (dG W3)
noncomputable abbrev fa:Expr:=o6 (dG W3)
noncomputable abbrev po:Stmt:=at_ (dw W3) 0
theorem Cn:W3=.While (.BoolOp .And [.Compare (aI iE) [.Lt] [bj iE] (bl iE),.Compare (.Subscript (cY (aI fa)) (dj (aI fa)) (eH (aI fa))) [.IsNot] [bj fa] (bl fa)] (jd (dG W3))) (dw W3) [] (fX W3):=by rfl'
noncomputable abbrev vK:Expr:=(bx (bK po)).getD 0 e0
theorem SJ:dw W3=[.Expr (.Call (.Name (bO (aJ (bK po))) (bQ (aJ (bK po)))) [.Subscript (cY vK) (dj vK) (eH vK)] [] (bB (bK po))) (j9 po),at_ (dw W3) 1]:=by rfl'
theorem li{L:List AV}{k:Nat}(h:k<L.length):is L (.ofNat k)=some L[k]:=u5 h
section
variable{L:List AV}{l:List AV}{rest:S}
theorem SK(m k:Nat){s:List Nat}(h:k<L.length)(hv:L[k]=.str s):pt (m+20) cJ (rJ L k L.length) (⟨none,l⟩::rest) (.BoolOp .And [.Compare (aI iE) [.Lt] [bj iE] (bl iE),.Compare (.Subscript (cY (aI fa)) (dj (aI fa)) (eH (aI fa))) [.IsNot] [bj fa] (bl fa)] (jd (dG W3)))=some (true,⟨none,l⟩::rest):=
 kh (a:=true) (b:=true) (dk (a:=.int (.ofNat k)) (b:=.int (.ofNat L.length)) (by rfl') (by rfl') (by show some (gX _ _)=_;(refine aa (nh h) ?_;rfl))) λ_=>dk (a:=.str s) (b:=.op 0) (fG (a:=.lst L) (x:=.int (.ofNat k)) trivial (by rfl') (by rfl') ((li h).trans (by (refine aa hv ?_;rfl)))) (by rfl') rfl
theorem SL(m k:Nat)(h:k<L.length)(hv:L[k]=.op 0):pt (m+20) cJ (rJ L k L.length) (⟨none,l⟩::rest) (.BoolOp .And [.Compare (aI iE) [.Lt] [bj iE] (bl iE),.Compare (.Subscript (cY (aI fa)) (dj (aI fa)) (eH (aI fa))) [.IsNot] [bj fa] (bl fa)] (jd (dG W3)))=some (false,⟨none,l⟩::rest):=
 kh (a:=true) (b:=false) (dk (a:=.int (.ofNat k)) (b:=.int (.ofNat L.length)) (by rfl') (by rfl') (by show some (gX _ _)=_;rw[nh h])) λ_=>dk (a:=.op 0) (b:=.op 0) (fG (a:=.lst L) (x:=.int (.ofNat k)) trivial (by rfl') (by rfl') ((li h).trans (by rw[hv]))) (by rfl') rfl
theorem SM(m:Nat):pt (m+20) cJ (rJ L L.length L.length) (⟨none,l⟩::rest) (.BoolOp .And [.Compare (aI iE) [.Lt] [bj iE] (bl iE),.Compare (.Subscript (cY (aI fa)) (dj (aI fa)) (eH (aI fa))) [.IsNot] [bj fa] (bl fa)] (jd (dG W3)))=some (false,⟨none,l⟩::rest):=
 kh (a:=false) (b:=false) (dk (a:=.int (.ofNat L.length)) (b:=.int (.ofNat L.length)) (by rfl') (by rfl') (by show some (gX _ _)=_;rw[rb (XR _)])) λc=>by cases c
theorem SN(m k:Nat){s:List Nat}(h:k<L.length)(hv:L[k]=.str s)(hl:l.length<=4096):pst (m+20) cJ (rJ L k L.length) (⟨none,l⟩::rest) (dw W3)=some (.next,rJ L (k+1) L.length,⟨none,l++[.str s]⟩::rest):=by
 rw[SJ];exact(aR (ρ1:=rJ L k L.length) (σ1:=⟨none,l++[.str s]⟩::rest) (je (pn (k:=0) (l:=l) (v:=.str s) (by rfl') (by rfl') (fG (a:=.lst L) (x:=.int (.ofNat k)) trivial (by rfl') (by rfl') ((li h).trans (by rw[hv]))) rfl hl))).trans (dm (by rfl'))
end
theorem lj{α:Type}{L:List α}{k:Nat}{a:α}{r:List α}(h:L.drop k=a::r):∃hk:k<L.length,L[k]=a/\L.drop (k+1)=r:=by
 have hk:k<L.length:=by
  rcases Nat.lt_or_ge k L.length with h1 | h1
  ·exact h1
  ·rw[List.drop_eq_nil_of_le h1]at h;cases h
 rw[Z7 hk]at h;exact(ah hk ((List.cons.inj h).1) ((List.cons.inj h).2))
theorem Co(L:List AV)(rest:S)(L':List AV)(hL:L'=[]\/∃r,L'=.op 0::r):∀(p:List (List Nat))(k:Nat)(l:List AV)(m:Nat),L.drop k=p.map AV.str++L'->k<=L.length->l.length+p.length<=4000->
  pex (m+p.length+30) cJ (rJ L k L.length) (⟨none,l⟩::rest) W3=some (.next,rJ L (k+p.length) L.length,⟨none,l++p.map AV.str⟩::rest)
 | [],k,l,m,h,hk,_=>by
  rw[List.map_nil,Yc];rw[Cn];refine na ?_;rcases hL with rfl | ⟨r,rfl⟩
  ·have:k=L.length:=by
    have:=congrArg ZT h;rw[Zu]at this;simp only[List.map_nil,Yc,Xq]at this;exact sB hk this
   subst this;exact SM (m+9)
  ·exact af (lj (show L.drop k=.op 0::r from h)) λh1 h2 zz=>SL (m+9) k h1 h2
 | s::p,k,l,m,h,hk,hl=>by
  rw[W5]at hl;refine af (lj (show L.drop k=.str s::(p.map AV.str++L') from h)) λh1 h2 h3=>?_;have t:=SK (l:=l) (rest:=rest) (m+p.length+10) k h1 h2;have b:=SN (l:=l) (rest:=rest) (m+p.length+10) k h1 h2 (by exact sy hl);have ih:=Co L rest L' hL p (k+1) (l++[.str s]) m h3 h1 (by rw[Om];simp only[W5,Xq];exact sv hl);have w:=l9 (p:=fX W3) t b;rw[<-Cn]at w;rw[show l++(s::p).map AV.str=(l++[.str s])++p.map AV.str from by simp,show k+(s::p).length=k+1+p.length from by simp only[W5];exact wF];exact w.trans ih
section
variable{c:aH}
theorem vL{t:Expr}{p:Pos}(h:pt n c ρ σ t=some (true,σ1)):pex (n+1) c ρ σ (.Assert t none p)=some (.next,ρ,σ1):=bs (x:=pt n c ρ σ t) h rfl
theorem SP{t:Expr}{b:List Stmt}{p:Pos}(h:pt n c ρ σ t=some (true,σ1))(hb:pst n c ρ σ1 b=some (.brk,ρ1,σ2)):pex (n+1) c ρ σ (.While t b [] p)=some (.next,ρ1,σ2):=bs (x:=pt n c ρ σ t) h (k9 hb rfl)
theorem SQ{o:Expr}{m:Str}{args:List Expr}{q:Nat}{l:List AV}{cl':bE}{vs:List AV}{r:AV}(hg:match args with | [.GeneratorExp ..]=>False | _=>True)(h1:pe n c ρ σ o=some (.cell q,σ))(h2:bP σ q=some ⟨none,l⟩)(h3:pes n c ρ σ args=some (vs,σ))(h4:iu (nm m) ⟨none,l⟩ vs=some (r,cl')) :
  pmeth (n+1) c ρ σ o m args=some (.val r,dg σ q cl'):=
 fB (AK hg) (bs h1 (ba h2 (bs h3 (ba h2 (bs h4 rfl)))))
theorem Cp{x:Str}{p q cp ap:Pos}{o:Expr}{m:Str}{a:List Expr}{v:AV}(ho:inL (nm x) c.own=true)(h:pe n c ρ σ (.Call (.Attribute o m ap) a [] cp)=some (.val v,σ1))(hr:eN c.sc ρ x (.val v)=some ρ1):pex (n+1) c ρ σ (.Assign [.Name x p] (.Call (.Attribute o m ap) a [] cp) q)=some (.next,ρ1,σ1):=
 kK (b:=inL (nm x) c.own) ho (dz h (ba hr rfl))
theorem Cq{k:Const}{ku:Nat}{kp:Pos}{m:Str}{ap p:Pos}{e:Expr}{x:List Nat}{w:PV}{l:List AV}{r:AV}(hg:match e with | .GeneratorExp ..=>False | .Constant ..=>False | _=>True)(hl:(XI ap.endLine p.line&&YU ([e]:List Expr).length 30)=true)(h1:pe n c ρ σ (.Constant k ku kp)=some (.val (.str x),σ))(h2:pe n c ρ σ e=some (w,σ))(hw:mz σ w=some l)(h3:kG (nm m) x l=some r) :
  pe (n+2) c ρ σ (.Call (.Attribute (.Constant k ku kp) m ap) [e] [] p)=some (.val r,σ):=
 cV (b:=XI ap.endLine p.line&&YU ([e]:List Expr).length 30) hl (fB (x:=nT (.Constant k ku kp) m) rfl (cV (b:=iQ (.Constant k ku kp)) rfl (fB (x:=nU [e]) (by clear hl h2;cases e<;>first | rfl | exact hg.elim) (bs h1 (lL (x:=ir (PV.val (.str x))) (a:=AV.str x) rfl (lL (x:=dJ (.str x)) (a:=x) rfl (fB (x:=nR [e]) rfl (ba (x:=cu [e]) (a:=e) rfl (bs h2 (ba (x:=mz σ w) hw (lM h3)))))))))))
end
theorem Cr{α:Type}:∀(l:List α)(k:Nat)(a b:α),dg (dg l k a) k b=dg l k b
 | [],_,_,_=>rfl
 | _::_,0,_,_=>rfl
 | x::l,k+1,a,b=>by show x::dg (dg l k a) k b=_;rw[Cr];rfl
theorem Ct{α:Type}:∀(l:List α)(k:Nat)(a b:α),bP l k=some a->bP (dg l k b) k=some b
 | [],_,_,_,h=>aT h
 | _::_,0,_,_,_=>rfl
 | _::l,k+1,a,b,h=>Ct l k a b h
theorem vM{α:Type}:∀(l:List α)(a:α),bP (l++[a]) l.length=some a
 | [],_=>rfl
 | _::l,a=>vM l a
noncomputable def rF(L:List AV)(i:Nat)(F:ai):ai:=(aaR,.val (.lst L))::(aaG,.val (.op 0))::(aaD,.cell 0)::(aaM,.app 0)::([110],.val (.int (.ofNat L.length)))::([105],.val (.int (.ofNat i)))::F
noncomputable abbrev W4:Stmt:=au 13 4
noncomputable abbrev d0:Stmt:=at_ (dw W4) 0
noncomputable abbrev d1:Stmt:=at_ (dw W4) 1
noncomputable abbrev d2:Stmt:=at_ (dw W4) 2
noncomputable abbrev d3:Stmt:=at_ (dw W4) 3
noncomputable abbrev d4:Stmt:=at_ (dw W4) 4
noncomputable abbrev d5:Stmt:=at_ (dw W4) 5
noncomputable abbrev d6:Stmt:=at_ (dw W4) 6
noncomputable abbrev d7:Stmt:=at_ (dw W4) 7
theorem pp:W4=.While (.Compare (aI (dG W4)) [.Lt] [bj (dG W4)] (bl (dG W4))) (dw W4) [] (fX W4):=by rfl'
theorem Cu:dw W4=[d0,d1,d2,d3,d4,d5,d6,d7]:=by rfl'
noncomputable def pq:Stmt->Expr | .Assert t _ _=>t | _=>e0
noncomputable def vN:Stmt->Pos | .Assert _ _ p=>p | _=>default
noncomputable abbrev s0:Expr:=pq d0
noncomputable abbrev s3:Expr:=pq d3
theorem SS:d0=.Assert (.Compare (.Subscript (cY (aI s0)) (dj (aI s0)) (eH (aI s0))) [.Is] [bj s0] (bl s0)) none (vN d0):=by rfl'
theorem ST:d3=.Assert (.Compare (.Subscript (cY (aI s3)) (dj (aI s3)) (eH (aI s3))) [.IsNot] [bj s3] (bl s3)) none (vN d3):=by rfl'
noncomputable abbrev jg:Stmt:=at_ (aO d2) 0
theorem Cv:d2=.If (.Compare (aI (aV d2)) [.Eq] [bj (aV d2)] (bl (aV d2))) [jg,at_ (aO d2) 1] [] (eB d2):=by rfl'
theorem SU:jg=.Expr (.Call (.Name (bO (aJ (bK jg))) (bQ (aJ (bK jg)))) [(bx (bK jg)).getD 0 e0] [] (bB (bK jg))) (j9 jg):=by rfl'
noncomputable abbrev mi:Stmt:=at_ (aO d7) 0
noncomputable abbrev mj:Stmt:=at_ (aO d7) 1
noncomputable abbrev ll:Stmt:=at_ (cB d7) 0
theorem Cw:d7=.If (.Compare (aI (aV d7)) [.Eq] [bj (aV d7)] (bl (aV d7))) [mi,mj] [ll] (eB d7):=by rfl'
theorem SV:mi=.Expr (.Call (.Name (bO (aJ (bK mi))) (bQ (aJ (bK mi)))) [(bx (bK mi)).getD 0 e0] [] (bB (bK mi))) (j9 mi):=by rfl'
theorem SW:mj=.Expr (.Call (.Name (bO (aJ (bK mj))) (bQ (aJ (bK mj)))) [(bx (bK mj)).getD 0 e0] [] (bB (bK mj))) (j9 mj):=by rfl'
theorem SX:ll=.Expr (.Call (.Name (bO (aJ (bK ll))) (bQ (aJ (bK ll)))) [(bx (bK ll)).getD 0 e0] [] (bB (bK ll))) (j9 ll):=by rfl'
noncomputable abbrev j6:Expr:=ay d6
noncomputable abbrev vO:Expr:=rn (aJ j6)
theorem SY:d6=.Assign [.Name (eA d6) (dq d6)] (.Call (.Attribute (.Constant (rk vO) (rl vO) (rm vO)) (ro (aJ j6)) (rq (aJ j6))) [.Name (bO ((bx j6).getD 0 e0)) (bQ ((bx j6).getD 0 e0))] [] (bB j6)) (du d6):=by rfl'
noncomputable abbrev vP:Expr:=o5 (dG d5)
noncomputable abbrev pr:Expr:=o6 (dG d5)
noncomputable abbrev lm:Stmt:=at_ (dw d5) 0
noncomputable abbrev T5:Expr:=.BoolOp .And [.Compare (aI vP) [.Lt] [bj vP] (bl vP),.Compare (.Subscript (cY (aI pr)) (dj (aI pr)) (eH (aI pr))) [.IsNot] [bj pr] (bl pr)] (jd (dG d5))
theorem Cx:d5=.While T5 (dw d5) [] (fX d5):=by rfl'
noncomputable abbrev nB:Expr:=(bx (bK lm)).getD 0 e0
theorem SZ:dw d5=[.Expr (.Call (.Attribute (.Name (m8 (bK lm)) (lZ (bK lm))) (l4 (bK lm)) (l5 (bK lm))) [.Subscript (cY nB) (dj nB) (eH nB)] [] (bB (bK lm))) (j9 lm),at_ (dw d5) 1]:=by rfl'
theorem S3:nm (l4 (bK lm))=jP:=by rfl'
theorem py(a b:Nat):fe .Eq (.int (.ofNat a)) (.int (.ofNat b))=some (decide (a=b)):=by
 show some ((Int.ofNat a)==(Int.ofNat b))=_;by_cases h:a=b
 ·subst h;simp
 ·refine aa (decide_eq_false h) ?_;congr 1;rw[beq_eq_false_iff_ne];exact λe=>h (Int.ofNat.inj e)
section
variable{L:List AV}{F:ai}{l:List AV}{R:S}
theorem Cy(m k:Nat)(h:k<L.length)(hv:L[k]=.op 0):pex (m+20) cJ (rF L k F) (⟨none,l⟩::R) d0=some (.next,rF L k F,⟨none,l⟩::R):=by
 exact aa (SS) (vL (dk (a:=.op 0) (b:=.op 0) (fG (a:=.lst L) (x:=.int (.ofNat k)) trivial (by rfl') (by rfl') ((li h).trans (by rw[hv]))) (by rfl') rfl))
theorem Cz(m k:Nat):pex (m+20) cJ (rF L k F) (⟨none,l⟩::R) d1=some (.next,rF L (k+1) F,⟨none,l⟩::R):=by rfl'
theorem S4(m k:Nat){s:List Nat}(h:k<L.length)(hv:L[k]=.str s):pex (m+20) cJ (rF L k F) (⟨none,l⟩::R) d3=some (.next,rF L k F,⟨none,l⟩::R):=by
 exact aa (ST) (vL (dk (a:=.str s) (b:=.op 0) (fG (a:=.lst L) (x:=.int (.ofNat k)) trivial (by rfl') (by rfl') ((li h).trans (by rw[hv]))) (by rfl') rfl))
theorem S5(m k:Nat)(h:k<L.length):pex (m+20) cJ (rF L k F) (⟨none,l⟩::R) d2=some (.next,rF L k F,⟨none,l⟩::R):=by
 exact aa (Cv) ((eV (v:=false) (dk (a:=.int (.ofNat k)) (b:=.int (.ofNat L.length)) (by rfl') (by rfl') (by rw[py,decide_eq_false (by exact wG h)]))).trans rfl)
theorem S6(m:Nat)(hl:l.length<=4096):pex (m+20) cJ (rF L L.length F) (⟨none,l⟩::R) d2=some (.brk,rF L L.length F,⟨none,l++[.str aaN]⟩::R):=by
 refine aa (Cv) ((eV (v:=true) (dk (a:=.int (.ofNat L.length)) (b:=.int (.ofNat L.length)) (by rfl') (by rfl') (by rw[py,decide_eq_true rfl]))).trans (ZY (aR (n:=m+18) (ρ1:=rF L L.length F) (σ1:=⟨none,l++[.str aaN]⟩::R) ?_) (AE (n:=m+17) (by rfl'))));exact aa (SU) (je (pn (k:=0) (l:=l) (v:=.str aaN) (by rfl') (by rfl') (by rfl') rfl hl))
noncomputable abbrev kF:List Nat:=[102,105,120,101,100]
theorem S7(m k:Nat)(hF:F=[]\/∃v,F=[(kF,v)]):pex (m+20) cJ (rF L k F) (⟨none,l⟩::R) d4=some (.next,rF L k [(kF,.cell (R.length+1))],⟨none,l⟩::(R++[⟨none,[]⟩])):=by
 rcases hF with rfl | ⟨v,rfl⟩
 ·rfl'
 ·rfl'
variable{q:Nat}{fx:List AV}
theorem S8(m k:Nat){s:List Nat}{σ:S}(h:k<L.length)(hv:L[k]=.str s):pt (m+20) cJ (rF L k F) σ T5=some (true,σ):=
 kh (a:=true) (b:=true) (dk (a:=.int (.ofNat k)) (b:=.int (.ofNat L.length)) (by rfl') (by rfl') (by show some (gX _ _)=_;rw[nh h])) λ_=>dk (a:=.str s) (b:=.op 0) (fG (a:=.lst L) (x:=.int (.ofNat k)) trivial (by rfl') (by rfl') ((li h).trans (by rw[hv]))) (by rfl') rfl
theorem S9(m k:Nat){σ:S}(h:k<L.length)(hv:L[k]=.op 0):pt (m+20) cJ (rF L k F) σ T5=some (false,σ):=
 kh (a:=true) (b:=false) (dk (a:=.int (.ofNat k)) (b:=.int (.ofNat L.length)) (by rfl') (by rfl') (by show some (gX _ _)=_;rw[nh h])) λ_=>dk (a:=.op 0) (b:=.op 0) (fG (a:=.lst L) (x:=.int (.ofNat k)) trivial (by rfl') (by rfl') ((li h).trans (by rw[hv]))) (by rfl') rfl
theorem Ta(m:Nat){σ:S}:pt (m+20) cJ (rF L L.length F) σ T5=some (false,σ):=
 kh (a:=false) (b:=false) (dk (a:=.int (.ofNat L.length)) (b:=.int (.ofNat L.length)) (by rfl') (by rfl') (by show some (gX _ _)=_;rw[rb (XR _)])) λc=>by cases c
theorem Tb(m k:Nat){s:List Nat}(h:k<L.length)(hv:L[k]=.str s)(hq:bP R q=some ⟨none,fx⟩)(hl:fx.length<=4096):pst (m+20) cJ (rF L k [(kF,.cell (q+1))]) (⟨none,l⟩::R) (dw d5)=some (.next,rF L (k+1) [(kF,.cell (q+1))],⟨none,l⟩::dg R q ⟨none,fx++[.str s]⟩):=by
 refine aa (SZ) ?_;refine(aR (ρ1:=rF L k [(kF,.cell (q+1))]) (σ1:=⟨none,l⟩::dg R q ⟨none,fx++[.str s]⟩) (je (jG (by rfl') (by rfl') (SQ (q:=q+1) (l:=fx) (cl':=⟨none,fx++[.str s]⟩) (vs:=[.str s]) trivial (by rfl') hq ?_ (by rw[S3];exact Cm hl))))).trans (dm (by rfl'));have h1:pe (m+15) cJ (rF L k [(kF,.cell (q+1))]) (⟨none,l⟩::R) (.Subscript (cY nB) (dj nB) (eH nB))=some (.val (.str s),⟨none,l⟩::R):=fG (a:=.lst L) (x:=.int (.ofNat k)) trivial (by rfl') (by rfl') ((li h).trans (by rw[hv]));exact dz h1 rfl
theorem CA(L':List AV)(hL:L'=[]\/∃r,L'=.op 0::r):∀(p:List (List Nat))(k:Nat)(R:S)(fx:List AV)(m:Nat),L.drop k=p.map AV.str++L'->k<=L.length->bP R q=some ⟨none,fx⟩->fx.length+p.length<=4000->
  pex (m+p.length+30) cJ (rF L k [(kF,.cell (q+1))]) (⟨none,l⟩::R) d5=some (.next,rF L (k+p.length) [(kF,.cell (q+1))],⟨none,l⟩::dg R q ⟨none,fx++p.map AV.str⟩)
 | [],k,R,fx,m,h,hk,hq,_=>by
  have e:dg R q ⟨none,fx++([]:List (List Nat)).map AV.str⟩=R:=by
   rw[List.map_nil,Yc];clear h;induction R generalizing q with
   | nil=>rfl
   | cons a R ih=>
    cases q with
    | zero=>cases hq;rfl
    | succ q=>show a::dg R q _=_;rw[ih hq]
  refine aa (e) (aa (Cx) (na ?_));rcases hL with rfl | ⟨r,rfl⟩
  ·have:k=L.length:=by
    have:=congrArg ZT h;rw[Zu]at this;exact sB hk this
   exact aa this (Ta (m+9))
  ·exact af (lj (show L.drop k=.op 0::r from h)) λh1 h2 zz=>S9 (m+9) k h1 h2
 | s::p,k,R,fx,m,h,hk,hq,hl=>by
  rw[W5]at hl;refine af (lj (show L.drop k=.str s::(p.map AV.str++L') from h)) λh1 h2 h3=>?_;have t:=S8 (F:=[(kF,.cell (q+1))]) (σ:=⟨none,l⟩::R) (m+p.length+10) k h1 h2;have b:=Tb (l:=l) (m+p.length+10) k h1 h2 hq (by exact sy hl);have ih:=CA L' hL p (k+1) (dg R q ⟨none,fx++[.str s]⟩) (fx++[.str s]) m h3 h1 (Ct _ _ _ _ hq) (by (refine aa Om ?_);simp only[W5,Xq];exact sv hl);rw[Cr]at ih;have w:=l9 (p:=fX d5) t b;rw[<-Cx]at w;refine aa (show fx++(s::p).map AV.str=(fx++[.str s])++p.map AV.str from by simp) ?_;refine aa (show k+(s::p).length=k+1+p.length from by simp only[W5];exact wF) ?_;exact w.trans ih
end
noncomputable def jJ:List (List (List Nat))->List (List Nat)
 | []=>[]
 | [s]=>match s with
  | []=>[aaN]
  | a::r=>[aaN,bF [] (a::r)]
 | s::cg::r=>(aaP++bF [] s++[41])::jJ (cg::r)
noncomputable def ie:List (List (List Nat))->List AV
 | []=>[]
 | s::ss=>.op 0::(s.map AV.str++ie ss)
noncomputable def rO:List (List (List Nat))->Prop
 | []=>True
 | [_]=>True
 | s::cg::r=>s≠[]/\rO (cg::r)
theorem CB(ss:List (List (List Nat))):ie ss=[]\/∃r,ie ss=.op 0::r:=by
 cases ss with
 | nil=>exact .inl rfl
 | cons s ss=>exact .inr ⟨_,rfl⟩
theorem rP{α:Type}{L:List α}{k:Nat}(h:L.drop k=[])(hk:k<=L.length):k=L.length:=by
 have:=congrArg ZT h;rw[Zu,Xq]at this;exact sB hk this
section
variable{L:List AV}{F:ai}{l:List AV}{R:S}
theorem Tc(m k q:Nat)(xs:List (List Nat))(hq:bP R q=some ⟨none,xs.map AV.str⟩)(hb:(bF [] xs).length<=4000):pex (m+20) cJ (rF L k [(kF,.cell (q+1))]) (⟨none,l⟩::R) d6=some (.next,rF L k [(kF,.val (.str (bF [] xs)))],⟨none,l⟩::R):=by
 refine aa (SY) (Cp (v:=.str (bF [] xs)) (by rfl') (Cq (x:=[]) (w:=.cell (q+1)) (l:=xs.map AV.str) trivial (by rfl') (by rfl') (by rfl') ?_ ?_) (by rfl'))
 ·exact ba (x:=bP R q) hq rfl
 ·exact ba (x:=jo (xs.map AV.str)) (o4 _) (jy (W6 hb (by decide)))
theorem Td(m:Nat)(x:List Nat)(hl:l.length<=4000):pex (m+20) cJ (rF L L.length [(kF,.val (.str x))]) (⟨none,l⟩::R) d7=some (.next,rF L L.length [(kF,.val (.str x))],⟨none,(l++[.str aaN])++[.str x]⟩::R):=by
 refine aa (Cw) ((eV (v:=true) (dk (a:=.int (.ofNat L.length)) (b:=.int (.ofNat L.length)) (by rfl') (by rfl') (by rw[py,decide_eq_true rfl]))).trans (ZY (aR (n:=m+18) (ρ1:=rF L L.length [(kF,.val (.str x))]) (σ1:=⟨none,l++[.str aaN]⟩::R) ?_) (dm (n:=m+16) ?_)))
 ·exact aa (SV) (je (pn (k:=0) (l:=l) (v:=.str aaN) (by rfl') (by rfl') (by rfl') rfl (by exact wH hl)))
 ·refine aa (SW) ?_;exact je (pn (k:=0) (l:=l++[.str aaN]) (v:=.str x) (by rfl') (by rfl') (by rfl') rfl (by rw[Om];simp only[W5,Xq];exact FR hl))
theorem Te(m k:Nat)(x:List Nat):pe (m+10) cJ (rF L k [(kF,.val (.str x))]) (⟨none,l⟩::R) ((bx (bK ll)).getD 0 e0)=(jl (([]++aaP++x)++[41])).map λv=>(.val v,⟨none,l⟩::R):=by rfl'
theorem Tf(m k:Nat)(x:List Nat)(h:k<L.length)(hl:l.length<=4000)(hx:x.length<=4000):pex (m+20) cJ (rF L k [(kF,.val (.str x))]) (⟨none,l⟩::R) d7=some (.next,rF L k [(kF,.val (.str x))],⟨none,l++[.str (aaP++x++[41])]⟩::R):=by
 refine aa (Cw) ((eV (v:=false) (dk (a:=.int (.ofNat k)) (b:=.int (.ofNat L.length)) (by rfl') (by rfl') (by rw[py,decide_eq_false (by exact wG h)]))).trans (dm (n:=m+17) ?_));refine aa (SX) (je (pn (k:=0) (l:=l) (v:=.str (aaP++x++[41])) (by rfl') (by rfl') ((Te (m+6) k x).trans ?_) rfl (by exact wH hl)));rw[ZH,jy (by simp only[Om,W5,Xq];show _<=4096;exact FS hx)];rfl
theorem vQ(m k:Nat){σ:S}(h:k<L.length):pt (m+20) cJ (rF L k F) σ (.Compare (aI (dG W4)) [.Lt] [bj (dG W4)] (bl (dG W4)))=some (true,σ):=
 dk (a:=.int (.ofNat k)) (b:=.int (.ofNat L.length)) (by rfl') (by rfl') (by show some (gX _ _)=_;rw[nh h])
theorem CC(m:Nat){σ:S}:pt (m+20) cJ (rF L L.length F) σ (.Compare (aI (dG W4)) [.Lt] [bj (dG W4)] (bl (dG W4)))=some (false,σ):=
 dk (a:=.int (.ofNat L.length)) (b:=.int (.ofNat L.length)) (by rfl') (by rfl') (by show some (gX _ _)=_;rw[rb (XR _)])
noncomputable def Tg(L':List AV)(j:List Nat):List AV:=match L' with
 | []=>[.str aaN,.str j]
 | _::_=>[.str (aaP++j++[41])]
theorem CD(m k:Nat)(L':List AV)(hL:L'=[]\/∃r,L'=.op 0::r)(s:List Nat)(p:List (List Nat))(h:L.drop k=.op 0::((s::p).map AV.str++L'))(hF:F=[]\/∃v,F=[(kF,v)])(hp:(s::p).length<=m)(hb:(bF [] (s::p)).length<=4000)(hl:l.length<=3000)(hm:m<=3000) :
  pst (m+60) cJ (rF L k F) (⟨none,l⟩::R) (dw W4)=some (.next,rF L (k+1+(s::p).length) [(kF,.val (.str (bF [] (s::p))))],⟨none,l++Tg L' (bF [] (s::p))⟩::(R++[⟨none,(s::p).map AV.str⟩])):=by
 refine af (lj h) λh1 h2 h3=>af (lj (show L.drop (k+1)=.str s::(p.map AV.str++L') from h3)) λg1 g2 zz=>?_;have hlen:k+1+(s::p).length<=L.length:=by
  have:=congrArg ZT h3;rw[Zu,Om,W7]at this;exact w2 h1 this
 have hdrop:L.drop (k+1+(s::p).length)=L':=by
  exact aS (List.drop_drop) (aa (h3) (List.drop_left' (by rw[W7])))
 obtain⟨m',rfl⟩:∃m',m=m'+(s::p).length:=⟨m-(s::p).length,by exact HB hp⟩;have hset:dg (R++[(⟨none,[]⟩:bE)]) R.length ⟨none,[]++(s::p).map AV.str⟩=R++[⟨none,(s::p).map AV.str⟩]:=by
  rw[ZH];clear hp hm;induction R with
  | nil=>rfl
  | cons a R ih=>show a::dg (R++[_]) R.length _=_;rw[ih];rfl
 have r5:=CA (L:=L) (l:=l) (q:=R.length) L' hL (s::p) (k+1) (R++[⟨none,[]⟩]) [] (m'+24) h3 (Yo g1) (vM _ _) (by rw[Xq];exact FT hm);rw[hset]at r5;refine aa (Cu) (aa (show m'+(s::p).length+60=(m'+(s::p).length+39)+21 from rfl) ((aR (Cy (m'+(s::p).length+39) k h1 h2)).trans ((aR (Cz (m'+(s::p).length+38) k)).trans ((aR (S5 (m'+(s::p).length+37) (k+1) g1)).trans ((aR (S4 (m'+(s::p).length+36) (k+1) g1 g2)).trans ((aR (S7 (m'+(s::p).length+35) (k+1) hF)).trans ((aR ?_).trans ((aR (Tc (L:=L) (l:=l) (R:=R++[⟨none,(s::p).map AV.str⟩]) (m'+(s::p).length+33) (k+1+(s::p).length) R.length (s::p) (vM _ _) hb)).trans (dm (n:=m'+(s::p).length+51) ?_)))))))))
 ·have e:m'+24+(s::p).length+30=m'+(s::p).length+54:=by exact FU
  rw[e]at r5;exact r5
 ·clear hL h h3 zz;cases L' with
  | nil=>
   have:=rP hdrop hlen;have e:=Td (L:=L) (l:=l) (R:=R++[⟨none,(s::p).map AV.str⟩]) (m'+(s::p).length+32) (bF [] (s::p)) (by exact wJ hl);rw[XO]at e;exact aa (this) e
  | cons a L'=>
   refine Tf (m'+(s::p).length+32) (k+1+(s::p).length) (bF [] (s::p)) ?_ (by exact wJ hl) hb;clear hb h2 g2 hlen hp hm hset r5;rcases Nat.lt_or_ge (k+1+(s::p).length) L.length with q | q
   ·exact q
   ·rw[List.drop_eq_nil_of_le q]at hdrop;cases hdrop
end
section
variable{L:List AV}{F:ai}{l:List AV}{R:S}
theorem CE(M:Nat)(hM:M<=600):∀(ss:List (List (List Nat)))(k:Nat)(F:ai)(l:List AV)(R:S),L.drop k=ie ss->k<=L.length->rO ss->(∀s∈ss,s.length<=M/\(bF [] s).length<=4000)->(F=[]\/∃v,F=[(kF,v)])->l.length+2 * ss.length<=2000->
  ∃F' R',pex (M+ss.length+70) cJ (rF L k F) (⟨none,l⟩::R) W4=some (.next,rF L L.length F',⟨none,l++(jJ ss).map AV.str⟩::R')
 | [],k,F,l,R,h,hk,_,_,_,_=>by
  have:=rP h hk;subst this;refine(dZ F R ?_);rw[pp];show _=some (bG.next,rF L L.length F,⟨none,l++[]⟩::R);rw[Yc];exact na (CC (M+49))
 | [s],k,F,l,R,h,hk,ok,hs,hF,hl=>by
  refine af (lj (show L.drop k=.op 0::(s.map AV.str++[]) from h)) λh1 h2 h3=>?_;cases s with
  | nil=>
   have e:=rP (show L.drop (k+1)=[] from h3) h1;refine(dZ F R ?_);rw[pp];show pex (M+1+70) cJ (rF L k F) (⟨none,l⟩::R) _=some (bG.next,rF L L.length F,⟨none,l++[.str aaN]⟩::R);refine SP (n:=M+70) (vQ (M+50) k h1) ?_;rw[Cu];refine(aR (n:=M+69) (Cy (M+49) k h1 h2)).trans ((aR (n:=M+68) (Cz (M+48) k)).trans (AE (n:=M+67) ?_));rw[e];exact S6 (M+47) (by exact FV hl)
  | cons a p=>
   refine aw (hs (a::p) (Xh ..)) λb1 b2=>?_;have b:=CD (F:=F) (l:=l) (R:=R) (M+10) k [] (.inl rfl) a p h hF (by exact FW b1) b2 (by exact FX hl) (by exact FY hM);have w:=l9 (p:=fX W4) (vQ (F:=F) (σ:=⟨none,l⟩::R) (M+50) k h1) b;rw[<-pp]at w;have hlen:k+1+(a::p).length<=L.length:=by
    have:=congrArg ZT h3;rw[Zu,Om,W7,Xq]at this;exact FZ h1 this
   have hd:L.drop (k+1+(a::p).length)=[]:=by
    rw[<-List.drop_drop,h3,Yc];exact List.drop_eq_nil_of_le (by rw[W7];exact Xs _)
   have e:=rP hd hlen;rw[e]at w;refine(dZ ([(kF,.val (.str (bF [] (a::p))))]) (R++[⟨none,(a::p).map AV.str⟩]) (w.trans ?_));rw[pp];refine(na (n:=M+69) (CC (M+49))).trans ?_;rfl
 | s::cg::r,k,F,l,R,h,hk,ok,hs,hF,hl=>by
  refine af (lj (show L.drop k=.op 0::(s.map AV.str++ie (cg::r)) from h)) λh1 h2 h3=>?_;cases s with
  | nil=>exact absurd rfl ok.1
  | cons a p=>
   simp only[W5]at hl;refine aw (hs (a::p) (Xh ..)) λb1 b2=>?_;have b:=CD (F:=F) (l:=l) (R:=R) (M+r.length+11) k (ie (cg::r)) (CB _) a p h hF (by exact F0 b1) b2 (by exact F1 hl) (by exact F2 hM hl);have w:=l9 (p:=fX W4) (vQ (F:=F) (σ:=⟨none,l⟩::R) (M+r.length+51) k h1) b;rw[<-pp]at w;have hlen:k+1+(a::p).length<=L.length:=by
    have:=congrArg ZT h3;rw[Zu,Om,W7]at this;exact w2 h1 this
   have hd:L.drop (k+1+(a::p).length)=ie (cg::r):=by
    exact aS List.drop_drop (aa h3 (List.drop_left' (by rw[W7])))
   refine iH (CE M hM (cg::r) (k+1+(a::p).length) [(kF,.val (.str (bF [] (a::p))))] (l++[.str (aaP++bF [] (a::p)++[41])]) (R++[⟨none,(a::p).map AV.str⟩]) hd hlen ok.2 (λx hx=>hs x (Xc _ hx)) (.inr ⟨_,rfl⟩) (by (refine aa Om ?_);simp only[W5,Xq];exact F3 hl)) λF' R' ih=>?_;refine(dZ F' R' ?_);rw[XO l]at ih;exact w.trans ih
end
theorem pz:∀l:List (List Nat),bF [] l=l.flatten
 | []=>rfl
 | [a]=>by simp[bF]
 | a::b::l=>by
  show a++([]++bF [] (b::l))=_;rw[pz (b::l),ZH];rfl
noncomputable def eD(s:List Nat):List (List Nat):=s.map tx
theorem vR:∀a b:List Tk,bL (a++b)=bL a++bL b
 | [],_=>rfl
 | t::a,b=>by show t.text++bL (a++b)=(t.text++bL a)++bL b;simp only[vR a b,XO]
theorem rQ:∀s:List Nat,bL (s.map .at)=(eD s).flatten
 | []=>rfl
 | d::s=>by show tx d++bL (s.map .at)=tx d++(eD s).flatten;rw[rQ s]
theorem CF:∀ss:List (List Nat),bL (fZ ss)=(jJ (ss.map eD)).flatten
 | []=>rfl
 | [s]=>by
  show aaN++bL (s.map .at)=_;rw[rQ];cases s with
  | nil=>rfl
  | cons a s=>
   show _=([aaN,bF [] (eD (a::s))]:List (List Nat)).flatten;rw[pz];simp
 | s::cg::r=>by
  show aaT++(aaQ++bL (s.map .at++.cl::fZ (cg::r)))=((aaP++bF [] (eD s)++[41])::jJ ((cg::r).map eD)).flatten;rw[vR,rQ,pz,List.flatten_cons,<-CF (cg::r)];show aaT++(aaQ++((eD s).flatten++([41]++bL (fZ (cg::r)))))=_;simp
theorem CG(ds:List Nat):bL (cZ (aZ ds))=bF [] (eD (aZ ds).1++jJ ((aZ ds).2.map eD)):=by
 unfold cZ;rw[vR,rQ,CF,pz,List.flatten_append]
noncomputable def nC:List (List Nat)->List Nat
 | []=>[]
 | s::ss=>0::(s++nC ss)
theorem CH:∀ds:List Nat,bY ds=(aZ ds).1++nC (aZ ds).2
 | []=>rfl
 | d::ds=>by
  have ih:=CH ds;have fx:=(oX ds).1;show gj d (bY ds)=_;unfold gj;cases h:bz d with
  | false=>
   refine aa (nq h) (aa (ih) ?_);rfl
  | true=>
   refine aa (np h) (aa (ih) ?_);revert fx;generalize aZ ds=q;obtain⟨p,ss⟩:=q;intro fx;cases p with
   | nil=>
    cases ss with
    | nil=>rfl
    | cons s ss=>rfl
   | cons a p=>
    have ha:bz a=false:=fx a (Xh ..);show(match bz a with
     | true=>a::(p++nC ss)
     | false=>0::a::(p++nC ss))=_
    refine aa (ha) ?_;cases ss<;>rfl
theorem CI:∀ds:List Nat,rO ((aZ ds).2.map eD)
 | []=>trivial
 | d::ds=>by
  have ih:=CI ds;cases h:bz d with
  | false=>rw[nq h];exact ih
  | true=>
   refine aa (np h) ?_;revert ih;generalize aZ ds=q;obtain⟨p,ss⟩:=q;intro ih;cases p with
   | nil=>
    cases ss with
    | nil=>trivial
    | cons s ss=>exact ih
   | cons a p=>
    cases ss with
    | nil=>trivial
    | cons s ss=>exact⟨by simp[eD],ih⟩
theorem CJ{s:List Nat}(h:∀d∈s,bz d=false):s.map aM=(eD s).map AV.str:=by
 unfold eD;refine aa (YV) ?_;exact List.map_congr_left λd hd=>by unfold aM;rw[h d hd];rfl
theorem CK:∀ss:List (List Nat),(∀s∈ss,∀d∈s,bz d=false)->(nC ss).map aM=ie (ss.map eD)
 | [],_=>rfl
 | s::ss,h=>by
  show aM 0::(s++nC ss).map aM=.op 0::((eD s).map AV.str++ie (ss.map eD));refine aa Y0 (aa (CJ (h s (Xh ..))) (aa (CK ss λx hx=>h x (Xc _ hx)) ?_));rfl
theorem Th(ds:List Nat):(bY ds).map aM=(eD (aZ ds).1).map AV.str++ie ((aZ ds).2.map eD):=by
 refine aw (oX ds) λf1 f2=>?_;rw[CH,Y0,CJ f1,CK _ f2]
noncomputable abbrev J5:Stmt:=au 13 5
noncomputable abbrev J6:Stmt:=au 13 6
noncomputable abbrev J7:Stmt:=au 13 7
theorem Ti:bt (am 13)=[au 13 0,au 13 1,au 13 2,W3,W4,J5,J6,J7]:=by rfl'
theorem Tj:J5=.Assert (.Compare (aI (pq J5)) [.Eq] [bj (pq J5)] (bl (pq J5))) none (vN J5):=by rfl'
noncomputable abbrev q6:Expr:=ay J6
noncomputable abbrev vS:Expr:=rn (aJ q6)
theorem Tl:J6=.Assign [.Name (eA J6) (dq J6)] (.Call (.Attribute (.Constant (rk vS) (rl vS) (rm vS)) (ro (aJ q6)) (rq (aJ q6))) [.Name (bO ((bx q6).getD 0 e0)) (bQ ((bx q6).getD 0 e0))] [] (bB q6)) (du J6):=by rfl'
theorem Tm:J7=.Return (some (cW J7)) (jE J7):=by rfl'
noncomputable def rG(L:List AV)(i:Nat)(t:List Nat)(F:ai):ai:=(aaR,.val (.lst L))::(aaG,.val (.op 0))::(aaD,.val (.str t))::(aaM,.app 0)::([110],.val (.int (.ofNat L.length)))::([105],.val (.int (.ofNat i)))::F
section
variable{L:List AV}{F:ai}{l:List AV}{R:S}
theorem To(m:Nat){σ:S}:pex (m+20) cJ (rF L L.length F) σ J5=some (.next,rF L L.length F,σ):=by
 exact aa (Tj) (vL (dk (a:=.int (.ofNat L.length)) (b:=.int (.ofNat L.length)) (by rfl') (by rfl') (by rw[py,decide_eq_true rfl])))
theorem Tp(m:Nat)(xs:List (List Nat))(hb:(bF [] xs).length<=4000):pex (m+20) cJ (rF L L.length F) (⟨none,xs.map AV.str⟩::R) J6=some (.next,rG L L.length (bF [] xs) F,⟨none,xs.map AV.str⟩::R):=by
 refine aa (Tl) (Cp (v:=.str (bF [] xs)) (by rfl') (Cq (x:=[]) (w:=.cell 0) (l:=xs.map AV.str) trivial (by rfl') (by rfl') (by rfl') rfl ?_) (by rfl'));exact ba (x:=jo (xs.map AV.str)) (o4 _) (jy (W6 hb (by decide)))
theorem Tq(m:Nat)(t:List Nat){σ:S}:pe (m+10) cJ (rG L L.length t F) σ (cW J7)=(jl (([]++[40,63,115,58]++t)++[41,92,90])).map λv=>(.val v,σ):=by rfl'
theorem Tr(m:Nat)(t:List Nat){σ:S}(hb:t.length<=4000):pex (m+20) cJ (rG L L.length t F) σ J7=some (.ret (.val (.str (dQ t))),rG L L.length t F,σ):=by
 refine aa (Tm) (jF ((Tq (m+9) t).trans ?_));refine aa (jy (by simp only[Om,W5,Xq];show _<=4096;exact F4 hb)) ?_;rfl
end
theorem Tt(p:List (List Nat))(ss:List (List (List Nat)))(hp:p.length<=100)(hss:ss.length<=100)(ok:rO ss)(hs:∀s∈ss,s.length<=100/\(bF [] s).length<=4000)(hb:(bF [] (p++jJ ss)).length<=4000) :
  bJ T0 0 [aaD,[102,105,120,101,100]] 400 (am 13) [.lst (p.map AV.str++ie ss),.op 0]=some (.str (dQ (bF [] (p++jJ ss)))):=by
 generalize hL:p.map AV.str++ie ss=L;have hlen:p.length<=L.length:=by rw[<-hL,Om,W7];exact mt
 have w3:=Co L [] (ie ss) (CB ss) p 0 [] (366-p.length) (by rw[List.drop_zero,hL]) (Y4 _) (by rw[Xq];exact F5 hp);rw[show 366-p.length+p.length+30=396 from by exact F6 hp,ZL,ZH]at w3;refine iH (CE (L:=L) (325-ss.length) (by exact F7) ss p.length [] (p.map AV.str) [] (by rw[<-hL];exact List.drop_left' (by rw[W7])) hlen ok (λs h=>⟨by have:=(hs s h).1;exact F8 hss this,(hs s h).2⟩) (.inl rfl) (by rw[W7];exact F9 hp hss)) λF' R' w4=>?_;rw[show 325-ss.length+ss.length+70=395 from by exact Ga hss,<-Y0]at w4;refine qN (ρ0:=[(aaR,.val (.lst L)),(aaG,.val (.op 0))]) (ρ':=rG L L.length (bF [] (p++jJ ss)) F') (σ':=⟨none,(p++jJ ss).map AV.str⟩::R') (t:=.val (.str (dQ (bF [] (p++jJ ss))))) (by rfl') (by rfl') ?_ rfl;refine aa (Ti) ?_;show pst 400 cJ _ _ _=_;refine(aR (SG 389 L)).trans ((aR (SH 388 L)).trans ((aR (SI 387 L)).trans ((aR w3).trans ((aR w4).trans ((aR (To 374)).trans ((aR (Tp 373 _ hb)).trans (i9 (Tr 372 _ hb))))))))
noncomputable def ig(a:AV):Prop:=a=.op 0\/∃s,a=.str s
noncomputable def gR(l:List AV):Bool:=match l.getLast? with
 | some (.op _)=>true
 | _=>false
noncomputable def eL(l:List AV)(d:Nat):List AV:=match bz d with
 | true=>match gR l with
  | true=>l
  | false=>l++[.op 0]
 | false=>l++[.str (tx d)]
theorem Tu(rest:List Nat):∀(l:List AV),(∀a∈l,ig a)->l.length<=8->cm (42::rest) l=cn (42::rest) (match gR l with | true=>l | false=>l++[.op 0]) 1
 | [],_,_=>Sk rest
 | [a],h,_=>by
  rcases h a (by simp) with rfl | ⟨s,rfl⟩
  ·exact Sl rest
  ·exact Sm s rest
 | [a0,a],h,_=>by
  rcases h a (by simp) with rfl | ⟨s,rfl⟩
  ·exact Sn a0 rest
  ·exact So a0 s rest
 | [a0,a1,a],h,_=>by
  rcases h a (by simp) with rfl | ⟨s,rfl⟩
  ·exact Sp a0 a1 rest
  ·exact Sq a0 a1 s rest
 | [a0,a1,a2,a],h,_=>by
  rcases h a (by simp) with rfl | ⟨s,rfl⟩
  ·exact Sr a0 a1 a2 rest
  ·exact Ss a0 a1 a2 s rest
 | [a0,a1,a2,a3,a],h,_=>by
  rcases h a (by simp) with rfl | ⟨s,rfl⟩
  ·exact Su a0 a1 a2 a3 rest
  ·exact Sv a0 a1 a2 a3 s rest
 | [a0,a1,a2,a3,a4,a],h,_=>by
  rcases h a (by simp) with rfl | ⟨s,rfl⟩
  ·exact Sw a0 a1 a2 a3 a4 rest
  ·exact Sx a0 a1 a2 a3 a4 s rest
 | [a0,a1,a2,a3,a4,a5,a],h,_=>by
  rcases h a (by simp) with rfl | ⟨s,rfl⟩
  ·exact Sy a0 a1 a2 a3 a4 a5 rest
  ·exact Sz a0 a1 a2 a3 a4 a5 s rest
 | [a0,a1,a2,a3,a4,a5,a6,a],h,_=>by
  rcases h a (by simp) with rfl | ⟨s,rfl⟩
  ·exact SD a0 a1 a2 a3 a4 a5 a6 rest
  ·exact SE a0 a1 a2 a3 a4 a5 a6 s rest
 | _::_::_::_::_::_::_::_::_::_,_,h=>absurd h (by simp only[W5];exact wK)
theorem Tv(rest:List Nat)(d:Nat)(h2:2<=d)(h20:d<20):∀(l:List AV),l.length<=8->cm ((kd d).text++rest) l=cn ((kd d).text++rest) (l++[.str (tx d)]) (kd d).text.length
 | [],_=>Sa d rest h2 h20
 | [a0],_=>Sb a0 d rest h2 h20
 | [a0,a1],_=>Sc a0 a1 d rest h2 h20
 | [a0,a1,a2],_=>Sd a0 a1 a2 d rest h2 h20
 | [a0,a1,a2,a3],_=>Se a0 a1 a2 a3 d rest h2 h20
 | [a0,a1,a2,a3,a4],_=>Sf a0 a1 a2 a3 a4 d rest h2 h20
 | [a0,a1,a2,a3,a4,a5],_=>Sh a0 a1 a2 a3 a4 a5 d rest h2 h20
 | [a0,a1,a2,a3,a4,a5,a6],_=>Si a0 a1 a2 a3 a4 a5 a6 d rest h2 h20
 | [a0,a1,a2,a3,a4,a5,a6,a7],_=>Sj a0 a1 a2 a3 a4 a5 a6 a7 d rest h2 h20
 | _::_::_::_::_::_::_::_::_::_,h=>absurd h (by simp only[W5];exact wK)
theorem Tx:∀d,d<20->2<=d->bz d=false:=by decide
theorem Ty(rest:List Nat)(d:Nat)(h20:d<20)(h1:d≠1)(l:List AV)(hp:∀a∈l,ig a)(hl:l.length<=8):cm ((kd d).text++rest) l=cn ((kd d).text++rest) (eL l d) (kd d).text.length:=by
 by_cases h:d=0
 ·clear h20 h1;subst h;exact Tu rest l hp hl
 ·have h2:2<=d:=by exact Gb h1 h
  unfold eL;exact aa (Tx d h20 h2) (Tv rest d h2 h20 l hl)
theorem Tz{o:bG}(h:tc o=true):o=.next:=by cases o<;>first | rfl | exact eE h
theorem TA{cl:bE}{l:List AV}(h:my cl=some l):cl=⟨none,l⟩:=by
 cases cl with
 | mk a i=>cases a with
  | none=>exact congrArg (bE.mk none) (W9 h)
  | some _=>exact aT h
theorem TB{x:List Nat}{l l':List AV}{k:Nat}(h:cm x l=cn x l' k):∃ρ junk,pst 200 gw (gQ x) [⟨none,l⟩] (dw jI)=some (.next,ρ,⟨none,l'⟩::junk)/\aB ρ aaU=some (.val (.pat x))/\aB ρ aaG=some (.val (.op 0))/\aB ρ aaC=some (.val (.str [46]))/\
  aB ρ aaD=some (.cell 0)/\aB ρ aaM=some (.app 0)/\aB ρ [105]=some (.val (.idx k))/\aB ρ [110]=some (.val (.idx x.length)):=by
 exact ab h λq hq h=>aK h λhn h=>ab h λz hz h=>ab h λl2 hl h=>ab h λa ha h=>ab h λb hb h=>ab h λc hc h=>ab h λd hd h=>ab h λe he h=>ab h λf hf h=>ab h λg hg h=>aw (Xv (W9 h)) λq0 h=>aw (Xv h) λq1 h=>aw (Xv h) λq2 h=>aw (Xv h) λq3 h=>aw (Xv h) λq4 h=>aw (Xv h) λq5 h=>aw (Xv h) λq6 q7=>⟨q.2.1,z.2,hq.trans (congrArg some (Prod.ext (Tz hn) (Prod.ext rfl ((nW hz).trans (congrArg (·::z.2) (TA (q0▸hl))))))),q1▸ha,q2▸hb,q3▸hc,q4▸hd,q5▸he,q6▸hf,q7▸hg⟩
theorem TC(n a:Nat)(r:List Nat)(σ:S):pt (n+10) gw (gQ (a::r)) σ (dG jI)=some (true,σ):=by rfl'
theorem TD(n:Nat)(σ:S):pt (n+10) gw (gQ []) σ (dG jI)=some (false,σ):=by rfl'
theorem TE:∀d,d<20->∃a r,(kd d).text=a::r:=by
 intro d h;have:∀d,d<20->(kd d).text≠[]:=by decide
 cases e:(kd d).text with
 | nil=>exact absurd e (this d h)
 | cons a r=>exact(dZ a r rfl)
theorem TF(l:List AV)(d:Nat):gR (eL l d)=bz d:=by
 unfold eL;cases bz d with
 | true=>
  cases h:gR l with
  | true=>exact h
  | false=>dsimp only[gR];rw[List.getLast?_concat]
 | false=>dsimp only[gR];rw[List.getLast?_concat]
noncomputable def kk(b:Bool)(l:List Nat):List Nat:=cond b (match l with
 | []=>[]
 | d::r=>cond (bz d) r (d::r)) l
theorem CL:∀(ds:List Nat)(l:List AV),ds.foldl eL l=l++(kk (gR l) (bY ds)).map aM
 | [],l=>by
  show l=l++(kk (gR l) []).map aM;cases gR l<;>simp[kk]
 | d::ds,l=>by
  show ds.foldl eL (eL l d)=l++(kk (gR l) (gj d (bY ds))).map aM;rw[CL ds (eL l d),TF];dsimp only[eL,gj];cases hd:bz d with
  | false=>
   have e:aM d=.str (tx d):=by unfold aM;rw[hd]
   cases gR l with
   | true=>simp[kk,hd,e]
   | false=>simp[kk,e]
  | true=>
   have e0:aM 0=.op 0:=rfl;have s0:bz 0=true:=rfl;cases hm:bY ds with
   | nil=>cases gR l<;>simp[kk,e0,s0]
   | cons a r=>
    cases ha:bz a with
    | true=>
     have ea:aM a=.op 0:=by unfold aM;rw[ha]
     cases gR l<;>simp[kk,ha,ea]
    | false=>cases gR l<;>simp[kk,ha,s0,e0]
theorem CM(l:List AV)(d:Nat):l.length<=(eL l d).length:=by
 unfold eL;split
 ·split
  ·exact Xs _
  ·rw[Om];exact mt
 ·rw[Om];exact mt
theorem CO:∀(ds:List Nat)(l:List AV),l.length<=(ds.foldl eL l).length
 | [],_=>Xs _
 | d::ds,l=>W6 (CM l d) (CO ds (eL l d))
theorem TG{l:List AV}(h:∀a∈l,ig a)(d:Nat):∀a∈eL l d,ig a:=by
 unfold eL;split
 ·split
  ·exact h
  ·intro a ha;rcases Yv.mp ha with ha | ha
   ·exact h a ha
   ·exact .inl (Xi.mp ha)
 ·intro a ha;rcases Yv.mp ha with ha | ha
  ·exact h a ha
  ·exact .inr ⟨_,Xi.mp ha⟩
noncomputable def jK(ds:List Nat):List Nat:=ds.flatMap λd=>if d=1 then [0,0] else [d]
theorem TH(ds:List Nat)(h:∀d∈ds,d<20):∀d∈jK ds,d<20/\d≠1:=by
 intro d hd;refine af (List.mem_flatMap.mp hd) λe he h1=>?_;split at h1
 ·simp at h1;clear hd;subst h1;decide
 ·rw[Xi.mp h1];exact⟨h e he,by assumption⟩
theorem TI(ds:List Nat):(jK ds).flatMap (λd=>(kd d).text)=pat ds:=by
 unfold pat;rw[pz];induction ds with
 | nil=>rfl
 | cons d ds ih=>
  show(((if d=1 then [0,0] else [d])++jK ds).flatMap _)=(kd d).text++(ds.map λd=>(kd d).text).flatten;refine aa (List.flatMap_append) (aa (ih) ?_);split
  ·rename_i e;subst e;rfl
  ·simp
theorem vT:∀ds:List Nat,bY (jK ds)=bY ds
 | []=>rfl
 | d::ds=>by
  show bY ((if d=1 then [0,0] else [d])++jK ds)=gj d (bY ds);split
  ·rename_i e;subst e;show gj 0 (gj 0 (bY (jK ds)))=_;refine aa (vT ds) ?_;have fH:bz 1=true:=rfl;have s0:bz 0=true:=rfl;unfold gj;refine aa (fH) (aa (s0) ?_);cases bY ds with
   | nil=>rfl
   | cons a r=>cases ha:bz a<;>simp[ha,s0]
  ·show gj d (bY (jK ds))=_;rw[vT ds]
theorem vU:∀ds:List Nat,(bY ds).length<=ds.length
 | []=>Xs _
 | d::ds=>by
  have ih:=vU ds;show(gj d (bY ds)).length<=ds.length+1;unfold gj;split
  ·split
   ·simp
   ·rename_i e r hm;rw[hm]at ih;split
    ·exact w5 ih
    ·simp only[W5]at ih ⊢;exact Gc ih
  ·simp only[W5];exact wu ih
theorem CP(ds:List Nat):(jK ds).foldl eL []=(bY ds).map aM:=by
 rw[CL,vT];rfl
theorem vV{c c':aj}{h:Heap}{k:Nat}{v:W2}(hθ:c'.θ=c.θ)(r:bN c h (.val (.op k)) v):bN c' h (.val (.op k)) v:=by
 exact ZY (r:v=c.θ k) (congrFun hθ k).symm
theorem vW{c c':aj}{h:Heap}{x:List Nat}{v:W2}(r:bN c h (.val (.str x)) v):bN c' h (.val (.str x)) v:=r
theorem CQ:∀{l:List AV},(∀a∈l,ig a)->fE (λ_=>true) l=true
 | [],_=>rfl
 | a::l,h=>by
  have h1:jC (λ_=>true) a=true:=by
   rcases h a (Xh ..) with rfl | ⟨s,rfl⟩<;>rfl
  show(jC (λ_=>true) a&&fE (λ_=>true) l)=true;refine aa (h1) (aa (CQ λb hb=>h b (Xc _ hb)) ?_);rfl
theorem TJ{a rest:List Nat}{l:List AV}{junk:S}(hp:aB ρ aaU=some (.val (.pat (a++rest))))(hS:aB ρ aaG=some (.val (.op 0)))(hQ:aB ρ aaC=some (.val (.str [46])))
  (hr:aB ρ aaD=some (.cell 0))(ha:aB ρ aaM=some (.app 0))(hi:aB ρ [105]=some (.val (.idx a.length)))(hn:aB ρ [110]=some (.val (.idx (a++rest).length)))
  (hl:∀a∈l,ig a)(I:ak K c env ρ (⟨none,l⟩::junk) s):∃b tl,c.cells=b::tl/\ak K {c with cells:=[b],P:=c.P+a.length,pre:=c.pre++a} env (gQ rest) [⟨none,l⟩] s:=by
 have len:=I.cells.length;obtain⟨b,tl,e⟩:∃b tl,c.cells=b::tl:=by
  cases h:c.cells with
  | nil=>rw[h]at len;injection len
  | cons b tl=>exact(dZ b tl rfl)
 refine⟨b,tl,e,I.base,⟨λx hx=>I.cfg.sub x (by rw[e];rw[Xi.mp hx];exact Xh ..),by show [b].Nodup;simp,λx hx=>I.cfg.low x (by rw[e];rw[Xi.mp hx];exact Xh ..),I.cfg.live,I.cfg.theta⟩,?_,?_,I.tk⟩
 ·refine I.env.names (λX t ht=>?_) λb h=>h;have c0:({c with cells:=[b],P:=c.P+a.length,pre:=c.pre++a}:aj).cells[0]?=some b:=rfl;have c1:c.cells[0]?=some b:=by rw[e];rfl
  unfold gQ aB at ht;split at ht
  ·rename_i q;cases ht;refine(ah _ (by (refine aS (aW.mp q) ?_);exact hp) (λv r=>?_));exact il r λr1 r2 t r3=>(fU (by show(c.pre++a).length=c.P+a.length;rw[Om,r1]) (by show((c.pre++a)++rest).length<=_;rw[XO];exact r2) t (by rw[r3,<-XO]))
  unfold aB at ht;split at ht
  ·rename_i q;cases ht;exact(ah (.val (.op 0)) (by (refine aS (aW.mp q) ?_);exact hS) (λv r=>vV rfl r))
  unfold aB at ht;split at ht
  ·rename_i q;cases ht;exact(ah (.val (.str [46])) (by (refine aS (aW.mp q) ?_);exact hQ) (λv r=>vW r))
  unfold aB at ht;split at ht
  ·rename_i q;cases ht;refine(ah _ (by (refine aS (aW.mp q) ?_);exact hr) (λv r=>?_));refine af r λy e1 e2=>?_;rw[c1]at e1;clear e c1;cases e1;exact(ah b c0 e2)
  unfold aB at ht;split at ht
  ·rename_i q;cases ht;refine(ah _ (by (refine aS (aW.mp q) ?_);exact ha) (λv r=>?_));refine io r λy m' e1 e2 e3 e4=>?_;rw[c1]at e1;clear e c1;cases e1;exact⟨b,m',c0,e2,e3,e4⟩
  unfold aB at ht;split at ht
  ·rename_i q;cases ht;refine(ah _ (by (refine aS (aW.mp q) ?_);exact hi) (λv r=>?_));exact al r λt e1=>⟨t,e1⟩
  unfold aB at ht;split at ht
  ·rename_i q;cases ht;refine(ah _ (by (refine aS (aW.mp q) ?_);exact hn) (λv r=>?_));refine al r λt e1=>⟨t,?_⟩;refine aa e1 (aa Om ?_);congr 1;show Int.ofNat (c.P+(a.length+rest.length))=Int.ofNat ((c.P+a.length)+rest.length);rw[Nat.add_assoc]
  ·exact aT ht
 ·have h0:=I.cells;rw[e]at h0;exact⟨bD.conv (f:=λ_=>true) (c:=c) (λ_ _=>rfl) (λ_ _ _ h=>h) (CQ hl) h0.1,trivial⟩
theorem CR(all:∀n,fM prog w K T0 m n)(allP:∀n,fD prog w K T0 m n)(hs:aQ gw env){Q:Result->Xd->Prop}:∀(ds:List Nat)(l:List AV)(c:aj)(s:Xd)(b:Addr),(∀d∈ds,d<20/\d≠1)->(∀a∈l,ig a)->(ds.foldl eL l).length<=8->c.cells=[b]->ak K c env (gQ (ds.flatMap λd=>(kd d).text)) [⟨none,l⟩] s->az (m+1) A->
  (∀c1 s1,c1.cells=[b]->c1.θ=c.θ->(∀x,c1.fr x->c.fr x\/s.heap.get? x=none)->ae (XS c env) s s1->ak K c1 env (gQ []) [⟨none,ds.foldl eL l⟩] s1->Q (.ok .next) s1)->
  Zq (Xe prog w) A (.whileLoop (dG jI) (dw jI) [] env) Q s
 | [],l,c,s,b,hd,hl,h8,hc,I,R,h=>by
  refine Lb (x:=gw) (all 10).pt rfl hs (TD 0 _) I R λs1 X I1=>h c s1 hc rfl (λ_ h=>.inl h) (X.weaken λ_ h=>.inl h) I1
 | d::ds,l,c,s,b,hd,hl,h8,hc,I,R,h=>by
  refine aw (hd d (Xh ..)) λjg d1=>?_;have len1:(eL l d).length<=8:=W6 (CO ds (eL l d)) h8;have len0:l.length<=8:=W6 (CM l d) len1;refine sj (TB (Ty (ds.flatMap λd=>(kd d).text) d jg d1 l hl len0)) λρ junk hp e1 e2 e3 zc0=>gV zc0 λe4 e5 e6 e7=>iH (TE d jg) λx0 xr ex=>?_;have hg:=TC 190 x0 (xr++ds.flatMap λd=>(kd d).text) [⟨none,l⟩];have I':ak K c env (gQ ((kd d).text++ds.flatMap λd=>(kd d).text)) [⟨none,l⟩] s:=I;have hg':pt 200 gw (gQ ((kd d).text++ds.flatMap λd=>(kd d).text)) [⟨none,l⟩] (dG jI)=some (true,[⟨none,l⟩]):=by (refine aa ex ?_);exact hg
  refine La (x:=gw) (all 200).pt (allP 200).pst rfl hs hg' hp I' R λc1 s2 G X I2=>?_;have hl1:=TG hl d;refine cw (TJ e1 e2 e3 e4 e5 e6 e7 hl1 I2) λb1 tl ec I3=>?_;have eb:b1=b:=by
   refine af G.cells λnew en zz=>?_;rw[ec,hc]at en;clear hc h ec I3 zz;cases en;rfl
  subst eb;refine CR all allP hs ds (eL l d) _ s2 b1 (λe he=>hd e (Xc _ he)) hl1 h8 rfl I3 R λc2 s3 hc2 hθ hfr X2 I4=>h c2 s3 hc2 (hθ.trans G.θ) (λx hx=>?_) ?_ I4
  ·clear hd jg d1 hp e1 zc0 e6 e7 ex I' hg' I2 hl1 ec I3 hc h hc2 hθ X2 I4;rcases hfr x hx with q | q
   ·exact G.fr' x q
   ·exact .inr (eT X.live q)
  ·refine X.trans (X2.weaken λx hx=>?_);rcases hx with (hx | hx) | hx
   ·refine aa (Xi.mp hx) ?_;exact .inl (.inl (by (refine aa hc ?_);exact Xi.mpr rfl))
   ·exact .inl (.inr hx)
   ·exact .inr hx
noncomputable def ln(x:List Nat):ai:=[(aaU,.val (.str x)),(aaG,.val (.op 0)),(aaC,.val (.str [46]))]
theorem TK:bt (am 12)=[au 12 0,au 12 1,au 12 2,.While (dG jI) (dw jI) [] (fX jI),au 12 4,au 12 5]:=by rfl'
theorem TM(x:List Nat):pex 20 gw (ln x) [] (au 12 0)=some (.next,(ln x)++[(aaD,.cell 0)],[⟨none,[]⟩]):=by rfl'
theorem TN(x:List Nat):pex 20 gw ((ln x)++[(aaD,.cell 0)]) [⟨none,[]⟩] (au 12 1)=some (.next,(ln x)++[(aaD,.cell 0),(aaM,.app 0)],[⟨none,[]⟩]):=by rfl'
theorem TO(x:List Nat):∃ρ,pex 20 gw ((ln x)++[(aaD,.cell 0),(aaM,.app 0)]) [⟨none,[]⟩] (au 12 2)=some (.next,ρ,[⟨none,[]⟩])/\aB ρ aaU=some (.val (.str x))/\aB ρ aaG=some (.val (.op 0))/\aB ρ aaC=some (.val (.str [46]))/\
  aB ρ aaD=some (.cell 0)/\aB ρ aaM=some (.app 0)/\aB ρ [105]=some (.val (.int (.ofNat 0)))/\aB ρ [110]=some (.val (.int (.ofNat x.length))):=
 ⟨(ln x)++[(aaD,.cell 0),(aaM,.app 0),([110],.val (.int (.ofNat x.length))),([105],.val (.int (.ofNat 0)))],by rfl',by rfl',by rfl',by rfl',by rfl',by rfl',by rfl',by rfl'⟩
theorem TP(l:List AV):pst 20 gw (gQ []) [⟨none,l⟩] [au 12 4,au 12 5]=some (.ret (.cell 0),gQ [],[⟨none,l⟩]):=by rfl'
theorem rR(ds:List Nat):∀a∈ds.map aM,ig a:=by
 intro a ha;refine af (Yp.mp ha) λd zz zr2=>?_;clear ha zz;subst zr2;unfold aM;cases bz d with
 | true=>exact .inl rfl
 | false=>exact .inr ⟨_,rfl⟩
theorem CS{c c':aj}{h:Heap}(hθ:c'.θ=c.θ):∀{l:List AV}{vs:List W2},(∀a∈l,ig a)->aq c h l vs->aq c' h l vs
 | [],_,_,r=>r
 | a::l,_,hp,zp1=>by
  refine bb zp1 λv r e p q=>(bM v r e ?_ (CS hθ (λb hb=>hp b (Xc _ hb)) q));rcases hp a (Xh ..) with rfl | ⟨s,rfl⟩
  ·exact vV (c:=c) (h:=h) hθ p
  ·exact vW (c:=c) (c':=c') (h:=h) p
theorem TR{x:List Nat}(hp:aB ρ aaU=some (.val (.str x)))(hS:aB ρ aaG=some (.val (.op 0)))(hQ:aB ρ aaC=some (.val (.str [46])))
  (hr:aB ρ aaD=some (.cell 0))(ha:aB ρ aaM=some (.app 0))(hi:aB ρ [105]=some (.val (.int (.ofNat 0))))(hn:aB ρ [110]=some (.val (.int (.ofNat x.length))))
  {b:Addr}(e:c.cells=[b])(I:ak K c env ρ [⟨none,[]⟩] s):ak K {c with P:=0,pre:=[]} env (gQ x) [⟨none,[]⟩] s:=by
 refine⟨I.base,⟨I.cfg.sub,I.cfg.nodup,I.cfg.low,I.cfg.live,I.cfg.theta⟩,?_,?_,I.tk⟩
 ·refine I.env.names (λX t ht=>?_) λb h=>h;unfold gQ aB at ht;split at ht
  ·rename_i q;cases ht;refine(ah _ (by (refine aS (aW.mp q) ?_);exact hp) (λv r=>?_));exact cq r λr2 t r3=>(fU rfl r2 t r3)
  unfold aB at ht;split at ht
  ·rename_i q;cases ht;exact(ah (.val (.op 0)) (by (refine aS (aW.mp q) ?_);exact hS) (λv r=>vV rfl r))
  unfold aB at ht;split at ht
  ·rename_i q;cases ht;exact(ah (.val (.str [46])) (by (refine aS (aW.mp q) ?_);exact hQ) (λv r=>vW r))
  unfold aB at ht;split at ht
  ·rename_i q;cases ht;exact(ah (.cell 0) (by (refine aS (aW.mp q) ?_);exact hr) (λv r=>r))
  unfold aB at ht;split at ht
  ·rename_i q;cases ht;exact(ah (.app 0) (by (refine aS (aW.mp q) ?_);exact ha) (λv r=>r))
  unfold aB at ht;split at ht
  ·rename_i q;cases ht;refine(ah _ (by (refine aS (aW.mp q) ?_);exact hi) (λv r=>?_));exact al r λt e1=>⟨t,e1⟩
  unfold aB at ht;split at ht
  ·rename_i q;cases ht;refine(ah _ (by (refine aS (aW.mp q) ?_);exact hn) (λv r=>?_));refine al r λt e1=>⟨t,?_⟩;refine aa e1 ?_;congr 1;show Int.ofNat x.length=Int.ofNat (0+x.length);simp only[ZL]
  ·exact aT ht
 ·have h0:=I.cells;show b8 _ s.heap c.cells _;rw[e]at h0 ⊢;exact⟨bD.conv (f:=λ_=>true) (c:=c) (λ_ _=>rfl) (λ_ _ _ h=>h) rfl h0.1,trivial⟩
theorem TS(all:∀n,fM prog w K T0 m n)(allP:∀n,fD prog w K T0 m n){a:Addr}(D:dE K a (am 12))(hg:∃q,GT q/\iA (Kn K) a q.1)(ds:List Nat)(h20:∀d∈ds,d<20)(h8:ds.length<=8) :
  i8 prog w K (m+2) a [.str (pat ds),.op 0,.str [46]] (.lst ((bY ds).map aM)):=by
 refine iI D λo fd e1 e2 e3 D e4 e5=>?_;intro c s us A B C hr tk R;have hcode:∃q,GT q/\fd.code=.ref q.1:=by
  refine wl hg λq hq o' fd' y1 y2 y3=>aw (fN y1) λz1 zz=>?_;rw[e1]at z1;clear e1 y1;cases z1;rw[e2]at y2;clear e2 D e4 e5;cases y2;exact(ah q hq y3)
 have hmg:((jK ds).foldl eL []).length<=8:=by rw[CP,W7];exact W6 (vU ds) h8
 refine ou (m:=m+1) D e1 e2 e3 B C hr (by rw[e4];rfl) tk R λcN s1 hθ hcells hex hle X I nw A1 R1=>?_;have hs:aQ gw (Xz fd s.heap.objs.size a):=⟨e5.symm,λ_=>hcode⟩;have I0:ak K cN (Xz fd s.heap.objs.size a) (ln (pat ds)) [] s1:=by
  have e:fg fd.params.args ([AV.str (pat ds),.op 0,.str [46]].map PV.val)=ln (pat ds):=by rw[e4];rfl'
  rw[e]at I;exact I
 have R1':az (m+gw.gen) A1:=R1;have dead:∀{b:Addr},s1.heap.get? b=none->s.heap.get? b=none:=λd=>eT X.live d;refine aa (TK) (iz (allP 20).pex rfl hs (TM (pat ds)) I0 R1' λc1 s2 G1 X1 I1=>?_);obtain⟨b,hb,dB⟩:∃b,c1.cells=[b]/\s.heap.get? b=none:=by
  refine af G1.cells λnew en f=>?_;rw[hcells,ZH]at en;have len:=I1.cells.length;rw[en]at len
  match new,len with
  | [b],_=>exact(ah b en (dead (f b (Xi.mpr rfl))))
 refine iz (allP 20).pex rfl hs (TN (pat ds)) I1 R1' λc2 s3 G2 X2 I2=>?_;have cu:∀{c c':aj}{h:Heap}{ρ:ai}{t:Xd}{l:bE},bH h c c'->c.cells=[b]->ak K c' (Xz fd s.heap.objs.size a) ρ [l] t->c'.cells=[b]:=by
  intro c c' h ρ t l G hc I;refine af G.cells λnew en zz=>?_;have len:=I.cells.length;rw[en,hc]at len
  match new,len with
  | [],_=>rw[en,hc];rfl
 have hb2:=cu G2 hb I2;refine DC (TO (pat ds)) λρ3 hr3 g1 g2 g3 g4 zc0=>da zc0 λg5 g6 g7=>iz (allP 20).pex rfl hs hr3 I2 R1' λc3 s4 G3 X3 I3=>?_;have hb3:=cu G3 hb2 I3;have I3':=TR g1 g2 g3 g4 g5 g6 g7 hb3 I3;rw[<-TI ds]at I3';have toD:∀{c0:aj}{x:Addr},c0.cells=[b]->XS c0 (Xz fd s.heap.objs.size a) x->XD s x:=λhc h=>j8 (λy hy=>by rw[hc]at hy;(refine aa (Xi.mp hy) ?_);exact dB) nw h;have toN:∀{x:Addr},XS cN (Xz fd s.heap.objs.size a) x->XD s x:=λh=>j8 (λy hy=>by rw[hcells]at hy;cases hy) nw h;have Xa:ae (XD s) s s4:=((X.x0.trans (X1.weaken λ_=>toN)).trans (X2.weaken λ_=>toD hb)).trans (X3.weaken λ_=>toD hb2);refine Yw (wpAny_While (CR all allP hs (jK ds) [] {c3 with P:=0,pre:=[]} s4 b (TH ds h20) (λ_ h=>(nomatch h)) hmg hb3 I3' R1' λc5 s5 hc5 hθ5 hfr5 X5 I5=>?_));rw[CP]at I5;refine KE ((allP 20).pst (x:=gw) rfl hs (TP ((bY ds).map aM)) I5 R1') (λf s6 r=>?_) no;refine pC r λc6 G6 X6 I6 v zr5 rv=>?_;clear r;subst zr5;refine(ah v rfl ?_);have Xb:ae (XD s) s s6:=(Xa.trans (X5.weaken λ_=>toD hb3)).trans (X6.weaken λ_=>toD hc5);have hθ6:c.θ=c6.θ:=by (refine aa G6.θ ?_;refine aa hθ5 ?_);show c.θ=c3.θ;simp only[G3.θ,G2.θ,G1.θ,hθ]
 refine(bR Xb.undead I6.base ?_);refine af rv λb' hb' zr2=>?_;clear rv;subst zr2;refine af G6.cells λnew en zz=>?_;rw[hc5]at en;have eb:b'=b:=by rw[en]at hb';(injection hb' with zi;clear dB en;subst zi);rfl
 subst eb;have h0:=I6.cells;rw[en]at h0;refine aw h0 λzn0 zz=>eQ zn0 λzz vs k g rr=>(dS b' vs k rfl (λhx=>?_) g (by simp only[W7];exact W6 (vU ds) (W6 h8 (by show 8<=4096;exact GN))) (CS hθ6 (rR _) rr));refine al (C.live b' hx) λo' g'=>?_;rw[dB]at g';exact aT g'
theorem TT{v:W2}{Q:W2->Xd->Prop}(h:Xf (Xe prog w) A.in1 (pyIter v) Q E s):Xf (Xe prog w) A (call (.builtin "iter") [v]) Q E s:=by
 refine call_function_entry (by decide +kernel) (by decide +kernel) kdk_entry_iter (kdk_args_iter _) ?_;unfold Xp.«iter»;refine El (m:=someArgs "iter" 1 2 _) (XG (a:=[v]) (by first | rfl | kernel_rfl!) ?_);show Xf _ _ (pyIter v >>= _) _ _ _;exact El (KE h (λ_ _ q=>Ev (ah _ rfl q)) λ_ _ e=>e)
theorem TU:Zx "iter"=some (.builtin "iter"):=by decide +kernel
theorem TV{fd:Yz}{body:List Stmt}(D:j5 K {fd with defaults:=.none} body){a:Addr}{o:Obj}(ho:K.lookup a=some o)(hd:o.data=.func fd)(hnt:¬aG a){vs:List AV}{us:List W2}{Q:W2->Xd->Prop}
  (hbind:BindsTo s fd ⟨us,[]⟩ ((fd.params.args.map (·.arg)).zip us))
  (B:aC K s.heap)(C:bW c s.heap)(hr:aq c s.heap vs us)(hlen:vs.length=fd.params.args.length)(tk:1<=s.toks)(R:az (m+1) A)
  (h:∀(cN:aj) s1,cN.θ=c.θ->cN.cells=[]->cN.ex=c.ex->ae X0 s s1->ak K cN (Xz fd s.heap.objs.size a) (fg fd.params.args (vs.map .val)) [] s1->(∀b,cy (Xz fd s.heap.objs.size a) b->s.heap.get? b=none)->
   ∀A1,az m A1->Xf (Xe prog w) A1 (execs body (Xz fd s.heap.objs.size a)) (λf s2=>∃v,f=.ret v/\Q v s2) nr s1) :
  Xf (Xe prog w) A (call (.ref a) us) Q nr s:=by
 let cN:aj:={c with cells:=[],fr:=λb=>cy (Xz fd s.heap.objs.size a) b}
 have le:aj.Le s.heap c cN:=⟨rfl,rfl,rfl,λ_ _ _ h=>h⟩;have CN:bW cN s.heap:=⟨λ_ h=>(nomatch h),List.nodup_nil,λ_ h=>(nomatch h),C.live,C.theta⟩;have hlen':us.length=fd.params.args.length:=by (refine aa hr.length ?_;refine aa hlen ?_;rfl)
 have hcd:s.heap.CodeRec fd.code fd.qualname:=by
  exact jh D.code λcd oc vs tq zc0=>km zc0 λe1 e2 e3 e4 e5=>⟨cd,oc,vs,tq,e1,B.stat cd oc e2 e3,e4,e5⟩
 refine Zr (codeAny_call_function R.depth (B.stat a o ho hnt) hd D.co D.gen D.stmts hcd (hbind _ _ _ _ ?_));have hcl:fd.closure=[]:=D.closure;rw[hcl];refine XJ tk (wpAny_newFunctionEnv_cells D.kind (λy hy=>?_) λenv he0 s1 X tk1=>?_)
 ·refine aw (List.of_mem_zip hy) λh1 zz=>af (Yp.mp h1) λag hag e=>?_;rw[<-e];rcases D.own ag hag with q | q
  ·exact .inl q
  ·refine .inr ⟨q,?_⟩;refine al (j0 (n:=s.heap.objs.size+1) (mem_of_lookup q)) λb hb=>?_;simp only[hb];rfl
 ·subst he0;refine⟨B.lim.keeps X.toInCall.keep,codeAny_func ?_⟩;refine aw (uL (cN:=cN) (σ:=[]) (ts:=vs.map .val) D B hlen' tk1 X CN (ot (hr.le le)) trivial (λb h=>h)) λX1 I1=>?_;have newOwn:∀b,cy (Xz fd s.heap.objs.size a) b->s.heap.get? b=none:=λb o=>by
   clear ho hd hnt hbind tk h le CN hlen' hcd hcl X1 I1;rcases o with rfl | ⟨Y,_,ea⟩
   ·exact XA (Xs _)
   ·exact XA (Yo (X.above _ _ (mem_of_lookup ea)))
  refine KE (h cN s1 rfl rfl rfl X1 I1 newOwn _ R.deeper) (λf s2 r=>?_) no;refine af r λv zr1 rv=>?_;clear r;subst zr1;exact rv
theorem CT{a d:Addr}{st:Stmt}(P:dD prog (Kn K) a st [] (fQ (Kn K) d))(h:fF st=true)(hb:eO st):∃o fd,K.lookup a=some o/\o.data=.func fd/\¬aG a/\j5 K {fd with defaults:=.none} (bt st)/\fd.params=aU st/\fd.scope=aF st/\fQ (Kn K) d fd.defaults:=by
 refine lx P.ex λo fd cd oc vs t file tf zc0=>mr zc0 λe1 e2 e3 e4 e5 e6 zc1=>mr zc1 λe7 e8 e9 e10 e11 e12 zc2=>gV zc2 λe13 e14 e15 e16=>aw (fN e1) λx1 x2=>aw (fN e12) λy1 y2=>?_;simp only[fF,YK,ZK,decide_eq_true_eq]at h;refine aw h λzn0 h7=>aw zn0 λzn0 h6=>?_;obtain⟨⟨⟨⟨h1,h2⟩,h3⟩,h4⟩,h5⟩:=zn0;refine⟨o,fd,x1,e3,x2,⟨e4,e7,e8,e9,by show fd.scope.kind=_;rw[e6];exact h1,by show once fd.scope.names=_;rw[e6];exact h2,by show gY fd.scope.names=_;rw[e6];exact h3,by show fd.scope.isCoroutine=_;rw[e6];exact h4,by show fd.scope.isGenerator=_;rw[e6];exact h5,⟨cd,oc,vs,t,e11,y1,y2,e13,e14⟩,λus hu=>?_,λy hy=>?_,by show(fd.params.args.map (·.arg)).Nodup;rw[e5];exact h7⟩,e5,e6,e10⟩
 ·have hu':us.length=(aU st).args.length:=by (refine aS e5 ?_);exact hu
  show bindArgs {fd with defaults:=.none} ⟨us,[]⟩=pure ((fd.params.args.map (·.arg)).zip us);refine aa (hb {fd with defaults:=.none} us e5 rfl hu') (aa e5 ?_);rfl
 ·have hy':y∈(aU st).args:=by rw[<-e5];exact hy
  show fd.scope.names.lookup y.arg=_\/fd.scope.names.lookup y.arg=_;rw[e6];have:=YP.mp h6 y hy';simp only[Bool.or_eq_true,decide_eq_true_eq]at this;exact this
theorem TW(h:(Kn K).In s.heap)(fd:Yz)(hp:fd.params=aU (am 16))(hd:fQ (Kn K) 162 fd.defaults)(u1 u2 u3:W2):BindsTo s fd ⟨[u1,u2,u3],[]⟩ ((fd.params.args.map (·.arg)).zip [u1,u2,u3]):=by
 refine si hd λe1 cc od x n sl e2=>aa hp (kp_binds (uS (h _ _ e2)) λS=>?_);obtain⟨n,q,p,bo,sc,g,cl,df,kd,dc,pm,an,cd,ct,bi⟩:=fd;dsimp only at hp e1;subst hp e1
 rfl'
theorem CU:fF (am 16)=true:=by rfl'
theorem CV:eO (am 16):=qI (by rfl') λfd u v x=>by rfl'
noncomputable abbrev R0:Stmt:=au 16 0
noncomputable abbrev R1:Stmt:=au 16 1
noncomputable abbrev R2:Stmt:=au 16 2
noncomputable abbrev CW:Stmt:=au 16 3
noncomputable def zN(e:Expr)(i:Nat):Pos:=bQ ((bx e).getD i e0)
theorem TY:bt (am 16)=[R0,R1,R2,CW]:=by rfl'
theorem TZ:R0=.Assign [.Name "it" (dq R0)] (.Call (.Name "iter" (bQ (aJ (ay R0)))) [.Name "sequence" (zN (ay R0) 0)] [] (bB (ay R0))) (du R0):=by rfl'
theorem T3:R1=.If (.Compare (aI (aV R1)) [.Is] [.Name "_initial_missing" (bQ (bj (aV R1)))] (bl (aV R1))) (aO R1) (cB R1) (eB R1):=by rfl'
noncomputable abbrev gS:Stmt:=at_ (hK R2) 0
theorem T4:R2=.For (.Name "element" (bQ (gN R2))) (.Name "it" (bQ (m7 R2))) [gS] [] (oE R2):=by rfl'
theorem T6:gS=.Assign [.Name "value" (dq gS)] (.Call (.Name "function" (bQ (aJ (ay gS)))) [.Name "value" (zN (ay gS) 0),.Name "element" (zN (ay gS) 1)] [] (bB (ay gS))) (du gS):=by rfl'
noncomputable def xR:aH:=⟨Tn,aF (am 16),[],0⟩
noncomputable def nE(ps:List AV):ai:=[(aaV,.val (.op 5)),(aaW,.val (.lst ps)),(aaY,.val (.int 1))]
noncomputable def vX(ps:List AV):ai:=[(aaV,.val (.op 5)),(aaW,.val (.lst ps)),(aaY,.val (.int 1)),([105,116],.val (.op 6))]
noncomputable def fb(ps:List AV)(v:Int)(r:ai):ai:=(aaV,.val (.op 5))::(aaW,.val (.lst ps))::(aaY,.val (.int 1))::([105,116],.val (.op 6))::([118,97,108,117,101],.val (.int v))::r
noncomputable def ii(a:AV):ai:=[([101,108,101,109,101,110,116],.val a)]
theorem T7(ps:List AV)(p:Pos):pe 3 xR (nE ps) [] (.Name "sequence" p)=some (.val (.lst ps),[]):=by rfl'
theorem T8(ps:List AV)(sc:YM)(h:sc=aF (am 16)):eN sc (nE ps) "it" (.val (.op 6))=some (vX ps):=by subst h;rfl'
theorem T9(ps:List AV):pe 3 xR (vX ps) [] (aI (aV R1))=some (.val (.int 1),[]):=by rfl'
theorem Ua(ps:List AV):pst 20 xR (vX ps) [] (cB R1)=some (.next,fb ps 1 [],[]):=by rfl'
theorem Ub(ps:List AV)(p:Pos):pe 3 xR (fb ps 1 []) [] (.Name "it" p)=some (.val (.op 6),[]):=by rfl'
theorem Uc(ps:List AV)(v:Int)(r:ai)(hr:r=[]\/∃b,r=ii b)(a:AV)(p:Pos)(sc:YM)(h:sc=aF (am 16)):eG sc (.Name "element" p) a (fb ps v r)=some (fb ps v (ii a)):=by
 subst h;rcases hr with rfl | ⟨b,rfl⟩
 ·rfl'
 ·rfl'
theorem Ud(ps:List AV)(v:Int)(a:AV)(p:Pos):pe 3 xR (fb ps v (ii a)) [] (.Name "function" p)=some (.val (.op 5),[]):=by rfl'
theorem Ue(ps:List AV)(v:Int)(a:AV)(p q:Pos):pes 9 xR (fb ps v (ii a)) [] [.Name "value" p,.Name "element" q]=some ([.int v,a],[]):=by rfl'
theorem Uf(ps:List AV)(v u:Int)(a:AV)(sc:YM)(h:sc=aF (am 16)):eN sc (fb ps v (ii a)) "value" (.val (.int u))=some (fb ps u (ii a)):=by subst h;rfl'
theorem Ug(ps:List AV)(v:Int)(r:ai):pst 20 xR (fb ps v r) [] [CW]=some (.ret (.val (.int v)),fb ps v r,[]):=by rfl'
theorem CX{c c':aj}{h h':Heap}{a:AV}{v:W2}(hp:ig a)(hθ:c'.θ 0=c.θ 0)(r:ao c h a v):ao c' h' a v:=by
 rcases hp with rfl | ⟨s,rfl⟩
 ·exact ZY r hθ.symm
 ·exact r
theorem CY{c c':aj}{h h':Heap}(hθ:c'.θ 0=c.θ 0):∀{l:List AV}{vs:List W2},(∀a∈l,ig a)->aq c h l vs->aq c' h' l vs
 | [],_,_,r=>r
 | _::_,_,hp,zp1=>by
  exact bb zp1 λv r e p q=>(bM v r e (CX (hp _ (Xh ..)) hθ p) (CY hθ (λb hb=>hp b (Xc _ hb)) q))
theorem Uh(ds:List Nat):∀X t,aB (nE (ds.map aM)) X=some t->mV (λk=>decide (k=0\/k=5)) t=true:=by
 intro X t ht;have hl:fE (λk=>decide (k=0\/k=5)) (ds.map aM)=true:=by
  clear ht;induction ds with
  | nil=>rfl
  | cons d ds ih=>
   show(jC _ (aM d)&&fE _ (ds.map aM))=true;refine aa ih ?_;unfold aM;cases bz d<;>rfl
 refine fA ht (λq ht=>?_) λht=>fA ht (λq ht=>?_) λht=>fA ht (λq ht=>?_) λht=>aT ht
 ·cases ht;rfl
 ·cases ht;exact hl
 ·cases ht;rfl
noncomputable def iF(y:List Nat)(ds:List Nat)(i:Nat):List Bool:=(ds.take i).foldl (bu y) (fu y)
theorem Ui{y ds:List Nat}{i d:Nat}(h:ds[i]?=some d):iF y ds (i+1)=bu y (iF y ds i) d:=by
 unfold iF;refine aa (List.take_add_one) (aa (h) ?_);simp
theorem Uj(y ds:List Nat)(i:Nat):(iF y ds i).length=y.length+1:=by
 skip;have:∀(l:List Nat)(R:List Bool),R.length=y.length+1->(l.foldl (bu y) R).length=y.length+1:=by
  intro l;induction l with
  | nil=>exact λR h=>h
  | cons d l ih=>exact λR h=>ih _ (oO y R d h)
 exact this _ _ (by unfold fu;rw[W7,Yn])
noncomputable def rs(ds y:List Nat)(i:Nat):ai:=fb (ds.map aM) (.ofNat (bX (iF y ds i))) (match i with | 0=>[] | j+1=>ii (aM (ds.getD j 0)))
theorem Uk(ds y:List Nat)(i:Nat):∃r,rs ds y i=fb (ds.map aM) (.ofNat (bX (iF y ds i))) r/\(r=[]\/∃b,r=ii b):=by
 cases i with
 | zero=>exact(ah _ rfl (.inl rfl))
 | succ j=>exact(ah _ rfl (.inr ⟨_,rfl⟩))
noncomputable def YR(env:Env)(b:Addr):Prop:=aG b\/cy env b
theorem CZ{c:aj}{env:Env}(h:c.cells=[]){b:Addr}(q:XS c env b):YR env b:=by
 rcases q with (q | q) | q
 ·rw[h]at q;cases q
 ·exact .inl q
 ·exact .inr q
theorem vY{c:aj}{env:Env}(h:c.cells=[]){b:Addr}(q:XE c b):YR env b:=CZ h (.inl q)
theorem ij(I:ak K c env ρ [] s):c.cells=[]:=by
 have h0:=I.cells;cases hc:c.cells with
 | nil=>rfl
 | cons a l=>rw[hc]at h0;exact h0.elim
theorem C3(I:ak K c env ρ [] s){b:Addr}{o:Obj}(g:s.heap.get? b=some o)(so:dK o):¬YR env b:=by
 rintro(h | h)
 ·refine al (zt I.base g h) λps zr1=>?_;subst zr1;exact qj so
 ·rcases qz I g h with ⟨es,ep,d⟩ | ⟨v,d⟩<;>(unfold dK at so;rw[d]at so;exact so)
structure nF(K:Frag)(cO:aj)(envO:Env)(ρO:ai)(y:List Nat)(f:Addr)(s:Xd):Prop where
 inv:ak K cO envO ρO [] s
 glob:envO.globals=Xj
 blt:envO.builtins=Yi
 free:fV envO.scope (aF bA).names ρO=some (mh y (2 ^ (y.length+1)))
 fn:∃o name qual doc pm c' ctv,s.heap.get? f=some o/\dK o/\¬aG f/\o.data=.func (rN name qual (cH envO.cells (aF bA).names []) doc pm c' ctv)/\¬aG c'/\s.heap.CodeRec (.ref c') qual
theorem nF.tab{cO:aj}{envO:Env}{ρO:ai}{y:List Nat}{f:Addr}(H:nF K cO envO ρO y f s)(X:ae aG s s1)(B:aC K s1.heap)(tk:1<=s1.toks):nF K cO envO ρO y f s1:=by
 refine sk H.fn λo name qual doc pm c' ctv zc0=>jM zc0 λh1 h2 h3 h4 h5 h6=>⟨H.inv.tab X B tk,H.glob,H.blt,H.free,o,name,qual,doc,pm,c',ctv,X.keep _ _ h1 h3,h2,h3,h4,h5,?_⟩;refine lw h6 λc2 oc vs t q1 q2 q3 q4=>?_;cases q1;exact⟨c',oc,vs,t,rfl,X.keep _ _ q2 h5,q3,q4⟩
noncomputable abbrev ml:=List Nat×List AV×AV
open Classical in
noncomputable def ik(T:bh):List ml->bh
 | []=>T
 | e::l=>{fn:=λf vs=>if f=e.1/\vs=e.2.1 then some e.2.2 else (ik T l).fn f vs,cf:=(ik T l).cf,gc:=(ik T l).gc}
open Classical in
theorem rU{T:bh}{f:List Nat}{vs:List AV}{r:AV}{l:List ml}:(ik T ((f,vs,r)::l)).fn f vs=some r:=by
 show(if f=f/\vs=vs then some r else _)=_;refine aa (if_pos ⟨rfl,rfl⟩) ?_;rfl
open Classical in
theorem rV{T:bh}{f g:List Nat}{vs us:List AV}{r:AV}{l:List ml}(h:ax g f=false):(ik T ((f,vs,r)::l)).fn g us=(ik T l).fn g us:=by
 show(if g=f/\us=vs then some r else _)=_;rw[if_neg];rintro⟨e,_⟩;subst e;rw[aW.mpr rfl]at h;cases h
theorem C4{T:bh}:∀{l:List ml},(ik T l).cf=T.cf
 | []=>rfl
 | _::l=>C4 (l:=l)
theorem C5{T:bh}:∀{l:List ml},(ik T l).gc=T.gc
 | []=>rfl
 | _::l=>C5 (l:=l)
open Classical in
theorem C6{T:bh}{f:List Nat}{vs:List AV}{r:AV}:∀{l:List ml},(ik T l).fn f vs=some r->(∃e∈l,f=e.1/\vs=e.2.1/\r=e.2.2)\/T.fn f vs=some r
 | [],h=>.inr h
 | e::l,h=>by
  have h':(if f=e.1/\vs=e.2.1 then some e.2.2 else (ik T l).fn f vs)=some r:=h;split at h'
  ·rename_i q;cases h';exact .inl (dH e (Xh ..) q.1 q.2 rfl)
  ·rcases C6 h' with ⟨e',he,q⟩ | q
   ·exact .inl (ah e' (Xc _ he) q)
   ·exact .inr q
section
variable{m':Nat}
theorem dh.mono(O:dh prog w K mg T m)(h:m<=m'):dh prog w K mg T m':=
 ⟨O.glob,O.bi,O.gc,λX vs r e=>af (O.fn X vs r e) λa t k=>(ah a t (λc s us A B C R tk R1=>k c s us A B C R tk (R1.mono h))),
  λX cl vs r cl' e=>af (O.cf X cl vs r cl' e) λa t k=>(ah a t (λc s us b A B C R hb hc tk R1=>k c s us b A B C R hb hc tk (R1.mono h)))⟩
theorem C7(O:dh prog w K mg T m){l:List ml}(h:∀e∈l,∀X,nm X=e.1->∃a,oe K mg X a/\i8 prog w K m a e.2.1 e.2.2):dh prog w K mg (ik T l) m:=by
 refine⟨O.glob,O.bi,λX a e=>O.gc X a (by rw[C5]at e;exact e),λX vs r e=>?_,λX cl vs r cl' e=>O.cf X cl vs r cl' (by rw[C4]at e;exact e)⟩;rcases C6 e with ⟨e',he,h1,h2,h3⟩ | q
 ·refine af (h e' he X h1) λa t k=>?_;subst h2 h3;exact(ah a t k)
 ·exact O.fn X vs r q
theorem rW{c:aj}{h:Heap}{k:Nat}{v:W2}(e:v=c.θ k):bN c h (.val (.op k)) v:=by
 show ao c h (.op k) v;skip;exact e
theorem ak.retheta{f:Nat->Bool}{c:aj}{env:Env}{ρ:ai}{s:Xd}{θ':Nat->W2}(hρ:∀X t,aB ρ X=some t->mV f t=true)(hf:∀k,f k=true->θ' k=c.θ k)(hθ:∀k,∃a,θ' k=.ref a)(I:ak K c env ρ [] s):ak K {c with θ:=θ'} env ρ [] s:=by
 refine⟨I.base,⟨I.cfg.sub,I.cfg.nodup,I.cfg.low,I.cfg.live,hθ⟩,I.env.names (λX t e=>(ah t e (λv r=>bN.conv (f:=f) (c:=c) (c':={c with θ:=θ'}) hf (λ_ _ _ h=>h) (λ_ _ h=>h) (hρ _ _ e) r))) (λ_ h=>h),?_,I.tk⟩;have h0:=I.cells;show b8 _ s.heap c.cells [];cases hc:c.cells with
 | nil=>trivial
 | cons a l=>rw[hc]at h0;exact h0.elim
end
theorem Ul(all:∀n,fM prog w K Tn m n)(allP1:∀n,fD prog w K T1 m n){cO:aj}{envO:Env}{ρO:ai}{y:List Nat}{f:Addr}(hs:aQ xR env)(hsc:env.scope=aF (am 16))
  (H:nF K cO envO ρO y f s1){ps:List AV}{R:List Bool}{d:Nat}(hd:d<20)(hy:y.length<7)(hy2:∀c∈y,c∈gO)(hR:R.length=y.length+1)(h5:c.θ 5=.ref f)(h0:cO.θ 0=c.θ 0)
  (X:ae aG s1 s)(I:ak K c env (fb ps (.ofNat (bX R)) (ii (aM d))) [] s)(Rm:az (m+1) A) :
  Xf (Xe prog w) A (execs [gS] env) (bU K c env s .next (fb ps (.ofNat (bX (bu y R d))) (ii (aM d))) []) nr s:=by
 have Rm0:az m A:=Rm.mono (XH _);refine aa (T6) (Yw (Zj ?_));show Xf _ A (do callWith (bB (ay gS)) (<-eval (.Name "function" (bQ (aJ (ay gS)))) env) [] (aae (bB (ay gS)) (YD [.Name "value" (zN (ay gS) 0),.Name "element" (zN (ay gS) 1)] env)) []) _ _ s;refine El (KE ((all 3).pe (x:=xR) rfl hs (Ud ps _ _ _) I Rm0) (λfv s2 zq0=>da zq0 λX2 I2 r2=>?_) no);have ef:fv=.ref f:=by
  exact ZY (r2:fv=c.θ 5) h5
 clear h5 r2;refine aa ef (sk H.fn λo name qual doc pm c' ctv zc0=>jM zc0 λg1 g2 g3 g4 g5 g6=>?_);have hcn:=ij I;have toT:∀{b},XE c b->aG b:=λh=>h.elim (λh=>by rw[hcn]at h;cases h) id;refine callWith_function (o:=o) (fd:=rN name qual (cH envO.cells (aF bA).names []) doc pm c' ctv) (iy rfl ?_);refine KE ((all 9).pes (x:=xR) rfl hs (Ue ps _ _ _ _) I2 Rm0) (λus s3 zq1=>da zq1 λX3 I3 r3=>?_) no;have XT:ae aG s1 s3:=(X.trans (X2.weaken λ_=>toT)).trans (X3.weaken λ_=>toT);refine⟨⟨XT.keep _ _ g1 g3,g4⟩,?_⟩;have H3:=H.tab XT I3.base I3.tk;refine nG r3 λu1 us1 e1 q1 u2 us2 zc0=>da zc0 λe2 q2 e3=>?_;subst e1 e2 e3;have hp:ig (aM d):=rR [d] _ (by simp);refine sk H3.fn λo3 name3 qual3 doc3 pm3 c3 ctv3 zc0=>jM zc0 λk1 k2 k3 k4 k5 k6=>al (Ri 10 R y d hd hy hR hy2) λρ1 hrun=>KE (Ys I3.tk (Rn allP1 H3.inv H3.glob H3.blt H3.free k1 k4 k6 (us:=[u1,u2]) ⟨u1,_,rfl,q1,u2,_,rfl,CX hp h0 q2,rfl⟩ hrun Rm)) (λv s4 ⟨tk4,X4,B4,t,e⟩=>?_) λ_ _ f=>f.2.elim;refine aa e ?_;have I4:=I3.tab X4 B4 tk4;have rv:bN c s4.heap (.val (.int (.ofNat (bX (bu y R d))))) (.int (.ofNat (bX (bu y R d))) t):=⟨t,rfl⟩;refine KE (gJ (Uf ps _ _ _ _ hsc) I4 rv) (λ_ s5 zq2=>aw zq2 λX5 I5=>?_) no;refine ZW (dH c (bH.refl _ _) ?_ I5 rfl);exact(((X2.trans X3).weaken λ_ h=>.inl h).trans (X4.weaken λ_ h=>.inl (.inr h))).trans (X5.weaken λ_ o=>.inr o.own)
theorem Um(O:dh prog w K mg Tn m)(all:∀n,fM prog w K Tn m n)(allP:∀n,fD prog w K Tn m n)(allP1:∀n,fD prog w K T1 m n){cO:aj}{envO:Env}{ρO:ai}{y:List Nat}{f:Addr}
  (P:dD prog (Kn K) 169 (am 16) [] (fQ (Kn K) 162))(hmiss:mg "_initial_missing"=some (.ref 161))(hiter:mg "iter"=none)(H:nF K cO envO ρO y f s)(h5:cO.θ 5=.ref f){ds:List Nat}(hds:∀d∈ds,d<20)(hy:y.length<7)(hy2:∀c∈y,c∈gO){us:List W2}
  (hr:aq cO s.heap [.op 5,.lst (ds.map aM),.int 1] us)(Rm:az (m+2) A) :
  Xf (Xe prog w) A (call (.ref 169) us) (λv s'=>ae aG s s'/\aC K s'.heap/\∃t,v=.int (.ofNat (bX (ds.foldl (bu y) (fu y)))) t) nr s:=by
 refine nH (CT P CU CV) λo fd e1 e2 e3 D e4 e5 e6=>?_;have B:=H.inv.base;have hb:BindsTo s fd ⟨us,[]⟩ ((fd.params.args.map (·.arg)).zip us):=by
  refine nG (id hr) λu1 us1 q1 zz u2 us2 zc0=>wj zc0 λq2 zz u3 us3 q3 zz q4=>?_;subst q1 q2 q3 q4;exact TW B.kn fd e4 e6 _ _ _
 refine TV (m:=m+1) D e1 e2 e3 hb B H.inv.cfg hr (by rw[e4];rfl) H.inv.tk Rm λcN s1 hθ hcells hex X I nw A1 Rm1=>?_;generalize henv:Xz fd s.heap.objs.size 169=env at I nw;have hsc:env.scope=aF (am 16):=by rw[<-henv];exact e5
 have hs:aQ xR env:=⟨hsc.symm,λh=>absurd rfl h⟩;have Rm0:az m A1:=Rm1.mono (XH _);have I0:ak K cN env (nE (ds.map aM)) [] s1:=by
  have e:fg fd.params.args ([AV.op 5,.lst (ds.map aM),.int 1].map PV.val)=nE (ds.map aM):=by rw[e4];rfl'
  rw[e]at I;exact I
 have H1:=H.tab X.x0 I.base I.tk;have hk:∀{Y:Str},(aF (am 16)).names.lookup Y=some .globalImplicit->env.kindOf Y=some .globalImplicit:=λh=>by show env.scope.names.lookup _=_;rw[hsc];exact h
 refine aa (TY) (aa (TZ) (Yw (Zj ?_)));show Xf _ A1 (do callWith (bB (ay R0)) (<-eval (.Name "iter" (bQ (aJ (ay R0)))) env) [] (aae (bB (ay R0)) (YD [.Name "sequence" (zN (ay R0) 0)] env)) []) _ _ s1;refine af I0.ns_b λmb nb hmb=>El (Xx I0.env.kind (hk (by rfl')) (Zc (iw O I0) hiter nb (by rw[hmb "iter" (by decide)];exact TU) ?_));refine XW rfl (iy rfl (XK (KE ((all 3).pe (x:=xR) rfl hs (T7 _ _) I0 Rm0) (λv s2 zq3=>da zq3 λX2 I2 r2=>YC ?_) no)));refine b5 r2 λa vs k zr3 nx g hl rr=>aa zr3 (TT (wpAny_pyIter_list (dl _ g rfl _ rfl) ?_))
 let θ':Nat->W2:=λk=>if k=6 then .ref s2.heap.objs.size else if k=9 then .ref 161 else cN.θ k
 have I2':=I2.retheta (θ':=θ') (Uh ds) (λk hk=>by
  have:k=0\/k=5:=of_decide_eq_true hk;rcases this with rfl | rfl<;>rfl) (λk=>by
  show ∃a,(if k=6 then _ else if k=9 then _ else cN.θ k)=Value.ref a;split
  ·exact⟨_,rfl⟩
  ·split
   ·exact⟨_,rfl⟩
   ·exact I2.cfg.theta k)
 have dead:s2.heap.get? s2.heap.objs.size=none:=XA (Xs _)
 let cs:aj:={cN with θ:=θ'}
 let c1:aj:={cs with ex:=λb=>cs.ex b\/b=s2.heap.objs.size,fr:=λb=>cs.fr b\/b=s2.heap.objs.size}
 have X3:ae X0 s2 {s2 with heap:=s2.heap.push {cls:=.type "list_iterator",data:=.fields #[.ref a,.int 0 0]}}:=ae.push _ _ _;have le0:aj.Le s2.heap cs c1:=⟨rfl,rfl,rfl,λb o g nx q=>q.elim nx λe=>by subst e;rw[dead]at g;cases g⟩;have I3:ak K c1 env (nE (ds.map aM)) [] {s2 with heap:=s2.heap.push {cls:=.type "list_iterator",data:=.fields #[.ref a,.int 0 0]}}:=ak.grow (c:=cs) I2' X3 I2'.tk le0 rfl (λb q=>.inl q) (λb q=>by
  rcases q with q | rfl
  ·refine al (I2'.cfg.live b q) λo g=>?_;exact⟨o,X3.all b o g⟩
  ·exact⟨_,Xl _ rfl⟩) (λb q=>.inl q) (λb q=>q.imp id λe=>by refine aa e ?_;exact dead)
 have G0:bH s2.heap cs c1:=⟨rfl,rfl,rfl,λb _ _ q=>.inl q,λb q=>q.imp id λe=>by subst e;exact dead,λb q=>.inl q,λb q=>q.imp id λe=>by subst e;exact dead,[],by simp[c1],λ_ h=>(nomatch h)⟩;generalize hs3:({s2 with heap:=s2.heap.push {cls:=.type "list_iterator",data:=.fields #[.ref a,.int 0 0]}}:Xd)=s3 at X3 I3;have gI3:s3.heap.get? s2.heap.objs.size=some {cls:=.type "list_iterator",data:=.fields #[.ref a,.int 0 0]}:=by rw[<-hs3];exact Xl _ rfl
 have ga3:=X3.all _ _ g;have rv:bN c1 s3.heap (.val (.op 6)) (.ref s2.heap.objs.size):=rW rfl;refine KE (gJ (T8 _ _ hsc) I3 rv) (λ_ s4 zq4=>aw zq4 λX4 I4=>?_) no;refine aa (T3) (Yw (wpAny_If (wpAny_isTrue_Compare1 (KE ((all 3).pe (x:=xR) rfl hs (T9 _) I4 Rm0) (λa1 s5 zq5=>da zq5 λX5 I5 r5=>?_) no) (by rfl'))));refine Xx I5.env.kind (hk (by rfl')) (YX (iw O I5) hmiss ?_);have r9:ao c1 s5.heap (.op 9) (.ref 161):=rfl;refine mO (op:=.Is) (a:=.int 1) (b:=.op 9) (by rfl) r5 r9 Rm0 I5.cfg _ _ (Zi ?_);refine aa (if_neg Y1) (KE ((allP 20).pst (x:=xR) rfl hs (Ua _) I5 Rm0) (λf6 s6 r=>?_) no);refine im r λc6 G6 X6 I6 zr4=>aa zr4 (aa (T4) ?_);have hit:=Ub (ds.map aM) (bQ (m7 R2));refine Yw (wpAny_For (KE ((all 3).pe (x:=xR) rfl hs hit I6 Rm0) (λv s7 zq6=>da zq6 λX7 I7 r7=>?_) no) (uC hit));have hc1:c1.cells=[]:=hcells;have hc6:=ij I6;have E37:ae (YR env) s3 s7:=(((X4.weaken λ_ o=>.inr o.own).trans (X5.weaken λ_=>vY hc1)).trans (X6.weaken λ_=>CZ hc1)).trans (X7.weaken λ_=>vY hc6);have gI7:=E37.keep _ _ gI3 (C3 I3 gI3 (by simp[dK]));have ga7:=E37.keep _ _ ga3 (C3 I3 ga3 mM);have G16:bH s2.heap c1 c6:=⟨G6.θ,G6.P,G6.pre,λb o e q=>(al (X3.live b o e) λo1 e1=>al (X4.live b o1 e1) λo2 e2=>al (X5.live b o2 e2) λo3 e3=>G6.fr b o3 e3 q),λb q=>(G6.fr' b q).imp id λd=>eT X3.live (eT X4.live (eT X5.live d)),G6.ex,λb q=>(G6.ex' b q).imp id λd=>eT X3.live (eT X4.live (eT X5.live d)),af G6.cells λnw e1 f1=>(ah nw e1 (λb q=>eT X3.live (eT X4.live (eT X5.live (f1 b q)))))⟩;have G26:bH s2.heap cs c6:=G0.trans G16 (λb o e=>⟨o,e⟩);have X27:ae (XS cs env) s2 s7:=X3.x0.trans (E37.weaken λb h=>h.elim (λh=>.inl (.inr h)) .inr);have eI:v=.ref s2.heap.objs.size:=by
  exact ZY (r7:v=c6.θ 6) (congrFun G26.θ 6)
 refine aa eI ?_;have hne:a≠s2.heap.objs.size:=XZ (Xm g);refine wpAny_pyIter_listiter (it:=s2.heap.objs.size) (l:=a) (i:=0) (de _ gI7 rfl rfl) ?_;have hlen:=rr.length;have rr7:aq c6 s7.heap (ds.map aM) vs:=CY (by rw[G26.θ];rfl) (rR ds) rr;have e0:rs ds y 0=fb (ds.map aM) 1 []:=by
  show fb (ds.map aM) (.ofNat (bX (iF y ds 0))) []=_;have:bX (iF y ds 0)=1:=Rh y.length hy;rw[this];rfl
 refine aah (Cj (σ:=[]) (ρs:=rs ds y) (cs:=cs) (ss:=s2) (I:=s2.heap.objs.size) (fp:=[s2.heap.objs.size,a]) (Pi:=λi v=>(⟨vs⟩:Array W2)[i]?=some v) (St:=λi h=>h.IsListIter s2.heap.objs.size a i/\h.IsList a ⟨vs⟩) Rm0.1 (λi x hx=>?_) dead I2'.cfg.live (ds.map aM).length 0 c6 s7 (ZL _).symm (by rw[e0];exact I7) ⟨?_,?_,?_,?_,?_,?_,?_,?_⟩ G26 X27) (λr s8 q=>?_)
 ·obtain⟨d,hd,rfl⟩:∃d,ds[i]?=some d/\aM d=x:=by
   rw[ZJ]at hx;exact af (Option.map_eq_some_iff.mp hx) λd h1 h2=>(ah d h1 h2)
  refine af (Uk ds y i) λr er hr'=>(ah _ (by rw[er];exact Uc _ _ r hr' _ _ _ hsc) (λc9 s9 I9 G9 X9=>?_));have XT:ae aG s s9:=((((X.x0.trans (X2.weaken λb h=>h.elim (λh=>by rw[hcells]at h;cases h) .inl)).trans (X9.weaken λb h=>j8 (c:=cs) (λy hy=>by rw[show cs.cells=[] from hcells]at hy;cases hy) nw h))):ae (XD s) s s9).undead;have hθ9:c9.θ=θ':=G9.θ;have e9:rs ds y (i+1)=fb (ds.map aM) (.ofNat (bX (bu y (iF y ds i) d))) (ii (aM d)):=by
   show fb (ds.map aM) (.ofNat (bX (iF y ds (i+1)))) (ii (aM (ds.getD i 0)))=_;refine aa (Ui hd) (aa (Yb) ?_);refine aa (hd) ?_;rfl
  refine aa (e9) ?_;exact Ul all allP1 hs hsc H (hds d (YB hd)) hy hy2 (Uj y ds i) (by rw[hθ9];show cN.θ 5=_;rw[hθ];exact h5) (by rw[hθ9];show cO.θ 0=cN.θ 0;rw[hθ]) XT I9 Rm1
 ·have:=Walks.list (prog:=prog) (w:=w) Rm0.1 s2.heap.objs.size a hne ⟨vs⟩;rw[show(⟨vs⟩:Array W2).size=(ds.map aM).length from hlen]at this;exact this
 ·rintro i h ⟨⟨o,g1,g2,g3⟩,_⟩;exact⟨o,g1,_,g2,by decide,_,g3⟩
 ·intro i v b hi hb;rw[jY]at hi;refine af (rr7.at hi) λz q1 q2=>?_;have zs:=fS q1 hb;clear q1;subst zs;exact q2
 ·intro b hb;simp only[Xk,Xw,or_false]at hb;clear X2 nx r2 I2' dead le0 hs3 rv gI7 G26 X27 r7 hne;rcases hb with rfl | rfl
  ·exact .inl rfl
  ·exact .inr (fw (by rw[hc6];simp) _ ga7 mM)
 ·exact⟨(de _ gI7 rfl rfl),(dl _ ga7 rfl _ rfl)⟩
 ·exact G6.ex _ (.inr rfl)
 ·exact al (X4.live _ _ gI3) λo1 q1=>al (X5.live _ _ q1) λo2 q2=>G6.fr _ o2 q2 (.inr rfl)
 ·exact I2.base.size
 ·obtain⟨f8,rfl,q⟩:=q;obtain⟨c8,G8,X8,I8,rfl⟩:=q;have e8:rs ds y (ds.map aM).length=fb (ds.map aM) (.ofNat (bX (ds.foldl (bu y) (fu y)))) (match (ds.map aM).length with | 0=>[] | j+1=>ii (aM (ds.getD j 0))):=by
   show fb (ds.map aM) (.ofNat (bX (iF y ds (ds.map aM).length))) _=_;rw[W7];unfold iF;rw[List.take_length]<;>rfl
  rw[e8]at I8;refine KE ((allP 20).pst (x:=xR) rfl hs (Ug _ _ _) I8 Rm0) (λf9 s9 q=>?_) no;refine wm q λc9 G9 X9 I9 v zr5 t zr7=>?_;clear q;subst zr5;subst zr7;have hc8:=ij I8;exact⟨_,rfl,((((X.x0.trans (X2.weaken λb h=>h.elim (λh=>by rw[hcells]at h;cases h) .inl)).trans (X8.weaken λb h=>j8 (c:=cs) (λy hy=>by rw[show cs.cells=[] from hcells]at hy;cases hy) nw h)).trans (X9.weaken λb h=>j8 (λy hy=>by rw[hc8]at hy;cases hy) nw h)):ae (XD s) s s9).undead,I9.base,t,rfl⟩
theorem vZ(K:Frag):Kn (Kn K)=Kn K:=by
 unfold Kn;refine aa List.filter_filter ?_;congr 1;funext p;simp only[Bool.and_self]
theorem C8(K:Frag):(Kn K).lookup 193=none:=by
 cases h:(Kn K).lookup 193 with
 | none=>rfl
 | some o=>exact absurd (by unfold aG;simp) (fN h).2
theorem aC.weak{h:Heap}(B:aC K h):aC (Kn K) h:=
 ⟨λa o e t=>B.stat a o (fN e).1 t,B.bns,λq hq=>im (B.tab q hq) λps e1 e2 e3 zz=>(dH ps e1 e2 e3 (λ_ n=>absurd (C8 K) n)),B.top,λa o e=>B.old a o (fN e).1,B.lim⟩
theorem ak.weak{σ:S}(I:ak K c env ρ σ s):ak (Kn K) c env ρ σ s:=⟨I.base.weak,I.cfg,I.env,I.cells,I.tk⟩
theorem aC.table193{h h':Heap}(B:aC K h)(X:Heap.ExtBut 193 h h'){ps':Array W2}(ht:h'.get? 193=some (tabObj ps'))(h1:TriplesOk ps'.toList)(h2:∀pos cv,codeAmong pos ps'.toList=some cv->∃a,cv=.ref a):aC (Kn K) h':=by
 have it:aG 193:=by unfold aG;simp
 have lo:=dp it;have B:=B.weak;refine⟨λa o e t=>X a o (λe'=>t (e'▸it)) (B.stat a o e t),?_,λp hp=>?_,?_,B.old,?_⟩
 ·refine af B.bns λmb a1 a2=>(ah mb (a1.at' λo e=>X _ o (λe'=>?_) e) a2);refine af (B.tab (197,193) (by simp[cz])) λps e1 zz=>fJ a1 λoL es ep gL dL zz=>?_;rw[e',e1]at gL;cases gL;cases dL
 ·by_cases e:p.2=193
  ·exact(dH ps' (by rw[e];exact ht) h1 h2 (λ_ n=>absurd (C8 K) n))
  ·exact dY (B.tab p hp) λps e1 e2 e3=>(de ps (X _ _ e e1) e2 e3)
 ·exact al B.top λo e=>⟨o,X _ o (by decide) e⟩
 ·exact B.lim.at λo e=>X _ o (by decide) e
theorem Un(C:gq K mg)(h193:K.lookup 193≠none)(I:ak K c env ρ [] s)(hc:env.code=.ref 197)(hcl:∀n,(n,NameKind.free)∈(aF bA).names->∃a,env.cells.lookup n=some a){name qual:Str}{pos:Pos}{line:Nat} :
  Xf (Xe prog w) A (makeFunction name qual (aU bA) (.stmts (bt bA)) (aF bA) env [] [] [] pos line) (λv s'=>∃f o c' doc pm ctv,v=.ref f/\ae aG s s'/\aC (Kn K) s'.heap/\s.heap.get? f=none/\s'.heap.get? f=some o/\dK o/\
   o.data=.func (rN name qual (cH env.cells (aF bA).names []) doc pm c' ctv)/\¬aG c'/\s'.heap.CodeRec (.ref c') qual) nr s:=by
 have B:=I.base;have hq:((197,193):Addr×Addr)∈cz:=by simp[cz]
 refine im (B.tab _ hq) λps e1 e2 e3 e4=>?_;have eps:=e4 rfl h193;subst eps;have H:=C.heads _ hq _ B;have it:aG 193:=by unfold aG;lia
 refine nH C.bmod λbm ob f1 f2 f3 f4 f5 f6 f7=>?_;have hgl:=C.glob _ B;have hbm:=B.stat _ _ f3 f4;have hbt:s.heap.BuiltinsAt mg 193:=by
  refine⟨bm,ob,f1,f2,λe=>?_,λe=>f4 (e▸it),hbm,f5,f6,f7⟩;refine fJ hgl λo es ep g1 g2 zz=>?_;rw[<-e,hbm]at g1;injection g1 with zi
  subst zi;rw[f7]at g2;injection g2
 refine makeFunction_K (ux hcl) I.env.globals hgl hc H e1 e2 rfl (by decide) hbt λc' ctv doc h' tk X ge lt cr tb=>?_;have k2:∀b o,h'.get? b=some o->(h'.push (fnMade name qual (aU bA) (bt bA) (aF bA) (cH env.cells (aF bA).names []) doc ((mg "__name__").getD .none) c' ctv)).get? b=some o:=λb o e=>Xg _ e;have hsz:n₀<=s.heap.objs.size:=B.size;have X':Heap.ExtBut 193 s.heap (h'.push (fnMade name qual (aU bA) (bt bA) (aF bA) (cH env.cells (aF bA).names []) doc ((mg "__name__").getD .none) c' ctv)):=λb o hb e=>k2 b o (X b o hb e);refine⟨h'.objs.size,_,c',doc,_,ctv,rfl,⟨λb o e n=>X' b o (λe'=>n (e'▸it)) e,λb o e=>?_,rfl,id⟩,B.table193 X' (k2 _ _ tb) ?_ (λpos' cv hcv=>?_),?_,Xl _ rfl,by simp[dK],rfl,λt=>?_,?_⟩
 ·by_cases e':b=193
  ·subst e';exact⟨_,k2 _ _ tb⟩
  ·exact⟨_,X' b o e' e⟩
 ·(refine aa Zm ?_);exact TriplesOk_snoc _ _ _ _ e2
 ·rw[Zm]at hcv;rcases uV _ e2 hcv with q | rfl
  ·exact e3 _ _ q
  ·exact⟨_,rfl⟩
 ·exact XA (W6 ge (Yo lt))
 ·have:=dp t;exact Gy ge hsz this
 ·exact lw cr λc2 oc vs t q1 q2 q3 q4=>⟨c2,oc,vs,t,q1,k2 _ _ q2,q3,q4⟩
noncomputable abbrev P0:Stmt:=au 22 0
noncomputable abbrev P2:Stmt:=au 22 2
noncomputable def Uo:Stmt->Pos | .FunctionDef _ _ _ _ _ _ _ _ _ p=>p | _=>default
theorem Up:bt (am 22)=[P0,.FunctionDef "step" (aU bA) (bt bA) [] none [] (aF bA) none "step" (Uo bA),P2]:=by rfl'
noncomputable abbrev v4:Expr:=bj (ay P0)
theorem Uq:P0=.Assign [.Name (eA P0) (dq P0)] (.BinOp (aI (ay P0)) .Pow (.BinOp (aI v4) .Add (bj v4) (bl v4)) (bl (ay P0))) (du P0):=by rfl'
theorem Ur:P2=.Return (some (.Call (.Name "reduce" (bQ (aJ (cW P2)))) (bx (cW P2)) [] (bB (cW P2)))) (jE P2):=by rfl'
noncomputable def xP:aH:=⟨Tn,aF (am 22),[],0⟩
noncomputable def v5(ps:List AV)(y:List Nat):ai:=[(aaH,.val (.lst ps)),(aaz,.val (.op 0)),(aam,.val (.str y))]
noncomputable def v6(ps:List AV)(y:List Nat)(wh:Int):ai:=[(aaH,.val (.lst ps)),(aaz,.val (.op 0)),(aam,.val (.str y)),(aaL,.val (.int wh))]
noncomputable def rX(ps:List AV)(y:List Nat)(wh:Int):ai:=[(aaH,.val (.lst ps)),(aaz,.val (.op 0)),(aam,.val (.str y)),(aaL,.val (.int wh)),([115,116,101,112],.val (.op 5))]
theorem Us(ps:List AV)(y:List Nat)(hy:y.length<7):pex 20 xP (v5 ps y) [] P0=some (.next,v6 ps y (2 ^ (y.length+1)),[]):=by
 refine aa (Uq) ?_;have e:lF .Pow (.int (.ofNat 2)) (.int (.ofNat (y.length+1)))=some (.int (2 ^ (y.length+1))):=by
  refine aa (vG (by exact Gz hy)) ?_;show some (AV.int ((2 ^ (y.length+1):Nat):Int))=_;rw[Int.natCast_pow];rfl
 exact eC (n:=19) (v:=.int (2 ^ (y.length+1))) (by rfl') trivial (eJ (n:=18) (a:=.int (.ofNat 2)) (b:=.int (.ofNat (y.length+1))) (by rfl') (by rfl') e) (by rfl')
theorem Ut(ps:List AV)(y:List Nat)(wh:Int)(sc:YM)(h:sc=aF (am 22)):fV sc (aF bA).names (rX ps y wh)=some (mh y wh):=by subst h;rfl'
theorem Uu(ps:List AV)(y:List Nat)(wh:Int)(sc:YM)(h:sc=aF (am 22)):eN sc (v6 ps y wh) "step" (.val (.op 5))=some (rX ps y wh):=by subst h;rfl'
theorem C9(ps:List AV)(y:List Nat)(wh:Int):pes 9 xP (rX ps y wh) [] (bx (cW P2))=some ([.op 5,.lst ps,.int 1],[]):=by rfl'
theorem Uv{ps:List AV}(hp:∀a∈ps,ig a)(y:List Nat)(wh:Int):∀X t,aB (v6 ps y wh) X=some t->mV (λk=>decide (k=0)) t=true:=by
 intro X t ht;have hl:fE (λk=>decide (k=0)) ps=true:=by
  clear ht;induction ps with
  | nil=>rfl
  | cons a ps ih=>
   show(jC _ a&&fE _ ps)=true;refine aa (ih λb hb=>hp b (Xc _ hb)) ?_;rcases hp a (Xh ..) with rfl | ⟨s,rfl⟩<;>rfl
 refine fA ht (λq ht=>?_) λht=>fA ht (λq ht=>?_) λht=>fA ht (λq ht=>?_) λht=>fA ht (λq ht=>?_) λht=>aT ht
 ·clear hp;cases ht;exact hl
 ·cases ht;rfl
 ·cases ht;rfl
 ·cases ht;rfl
theorem Uw:(aF bA).names.all (λp=>!(decide (p.2=.free))||decide ((aF (am 22)).names.lookup p.1=some .cell))=true:=by rfl'
theorem Ux(C:gq K mg)(h193:K.lookup 193≠none)(O':dh prog w (Kn K) mg Tn m)(all':∀n,fM prog w (Kn K) Tn m n)(allP:∀n,fD prog w K Tn m n)(allP':∀n,fD prog w (Kn K) Tn m n)(allP1':∀n,fD prog w (Kn K) T1 m n)
  (P:dD prog (Kn K) 169 (am 16) [] (fQ (Kn K) 162))(hmiss:mg "_initial_missing"=some (.ref 161))(hiter:mg "iter"=none)(hred:mg "reduce"=some (.ref 169)){a:Addr}(D:dE K a (am 22))(hcd:iA (Kn K) a 197){y:List Nat}(hy:y.length<7)(hy2:∀c∈y,c∈gO){ds:List Nat}(hds:∀d∈ds,d<20)
  (B:aC K s.heap)(Cf:bW c s.heap){us:List W2}(hr:aq c s.heap [.lst (ds.map aM),.op 0,.str y] us)(tk:1<=s.toks)(Rm:az (m+3) A) :
  Xf (Xe prog w) A (call (.ref a) us) (λv s'=>ae aG s s'/\aC (Kn K) s'.heap/\∃t,v=.int (.ofNat (bX (ds.foldl (bu y) (fu y)))) t) nr s:=by
 refine iI D λo fd e1 e2 e3 D e4 e5=>?_;have hcode:fd.code=.ref 197:=by
  refine bb hcd λo' fd' y1 y2 y3=>aw (fN y1) λz1 zz=>?_;rw[e1]at z1;clear e1 y1;cases z1;rw[e2]at y2;clear e2 D e4 e5;cases y2;exact y3
 refine ou (m:=m+2) D e1 e2 e3 B Cf hr (by rw[e4];rfl) tk Rm λcN s1 hθ hcells hex hle X I nw A1 Rm1=>?_;have Rm0:az m A1:=Rm1.mono (by exact GA);generalize henv:Xz fd s.heap.objs.size a=env at I nw;have hsc:env.scope=aF (am 22):=by rw[<-henv];exact e5
 have hs:aQ xP env:=⟨hsc.symm,λh=>absurd rfl h⟩;have I0:ak K cN env (v5 (ds.map aM) y) [] s1:=by
  have e:fg fd.params.args ([AV.lst (ds.map aM),.op 0,.str y].map PV.val)=v5 (ds.map aM) y:=by rw[e4];rfl'
  rw[e]at I;exact I
 refine aa (Up) (iz (allP 20).pex (x:=xP) rfl hs (Us (ds.map aM) y hy) I0 Rm0 λc1 s2 G1 X1 I1=>?_);have hc1:=ij I1;have hcl:∀n,(n,NameKind.free)∈(aF bA).names->∃a,env.cells.lookup n=some a:=λn hn=>by
  have h1:=YP.mp Uw _ hn;have h2:env.kindOf n=some .cell:=by
   show env.scope.names.lookup n=_;refine aa (hsc) ?_;simpa using h1
  exact cw (I1.env.cell n h2) λa v q1 zz=>⟨a,q1⟩
 have hcd':env.code=.ref 197:=by rw[<-henv];exact hcode
 refine Yw (nestDef_K (by rfl') (by rfl') (by rfl') (KE (Ys I1.tk (Un C h193 I1 hcd' hcl)) (λv s3 zq0=>aw zq0 λtk3 q=>?_) λ_ _ f=>f.2.elim));obtain⟨f,of,c',doc,pm,ctv,rfl,X3,B3,df,g3,so3,d3,nt3,rec3⟩:=q;have nf:¬aG f:=λt=>by
  obtain⟨q,hq,rfl⟩:∃q∈cz,q.2=f:=by rcases t with rfl | rfl | rfl | rfl<;>simp[cz]
  obtain⟨ps,e',_⟩:=I1.base.tab q hq;rw[df]at e';cases e'
 have I3:=I1.weak.tab X3 B3 tk3
 let θ':Nat->W2:=λk=>if k=5 then .ref f else c1.θ k
 have I3':=I3.retheta (θ':=θ') (Uv (rR ds) y _) (λk hk=>by
  have:k=0:=of_decide_eq_true hk;refine aa this ?_;rfl) (λk=>by
  show ∃a,(if k=5 then _ else c1.θ k)=Value.ref a;split
  ·exact⟨_,rfl⟩
  ·exact I3.cfg.theta k)
 refine KE (gJ (Uu _ _ _ _ hsc) I3' (rW (v:=.ref f) rfl)) (λ_ s4 zq1=>aw zq1 λX4 I4=>?_) no;show Xf _ A1 (execs [P2] env) _ _ s4;refine aa (Ur) ?_;have hlow:env.kindOf "reduce"=some .globalImplicit:=by show env.scope.names.lookup _=_;rw[hsc];rfl'
 refine Yw (wpAny_Return_some ?_);show Xf _ A1 (do callWith (bB (cW P2)) (<-eval (.Name "reduce" (bQ (aJ (cW P2)))) env) [] (aae (bB (cW P2)) (YD (bx (cW P2)) env)) []) _ _ s4;refine El (Xx I4.env.kind hlow (YX (iw O' I4) hred ?_));refine io (CT (K:=Kn K) (by rw[vZ];exact P) CU CV) λo9 fd9 k1 k2 k3 k4=>?_;have hpl:(aae (bB (cW P2)) (YD (bx (cW P2)) env)).any (·.1)=false:=qo (C9 (ds.map aM) y (2 ^ (y.length+1))) _;refine callWith_function (o:=o9) (fd:=fd9) (iy hpl (KE ((all' 9).pes (x:=xP) rfl hs (C9 (ds.map aM) y (2 ^ (y.length+1))) I4 Rm0) (λus s5 zq2=>da zq2 λX5 I5 r5=>?_) no));refine⟨⟨I5.base.stat _ _ k1 k3,k2⟩,?_⟩;have nOwnf:∀b o,s3.heap.get? b=some o->dK o->¬cy env b:=λb o g so h=>by
  rcases qz I3' g h with ⟨es,ep,d⟩ | ⟨v,d⟩<;>(unfold dK at so;rw[d]at so;exact so)
 have X35:ae (YR env) s3 s5:=(X4.weaken λ_ o=>.inr o.own).trans (X5.weaken λ_ h=>vY (c:={c1 with θ:=θ'}) hc1 h);have hcr:s5.heap.CodeRec (.ref c') (qualnameIn env "step" "step"):=by
  refine lw rec3 λc2 oc vs t q1 q2 q3 q4=>?_;cases q1;have hoc:¬YR env c':=by
   rintro(h | h)
   ·exact nt3 h
   ·rcases qz I3' q2 h with ⟨es,ep,d⟩ | ⟨v,d⟩<;>(rw[d]at q3;cases q3)
  exact⟨c',oc,vs,t,rfl,X35.keep _ _ q2 hoc,q3,q4⟩
 have SA:nF (Kn K) {c1 with θ:=θ'} env (rX (ds.map aM) y (2 ^ (y.length+1))) y f s5:=
  ⟨I5,I5.env.globals,I5.env.builtins,Ut _ _ _ _ hsc,of,_,_,doc,pm,c',ctv,X35.keep _ _ g3 (λh=>h.elim nf (nOwnf _ _ g3 so3)),so3,nf,d3,nt3,hcr⟩
 refine KE (Um O' all' allP' allP1' (by rw[vZ];exact P) hmiss hiter SA rfl hds hy hy2 r5 Rm1) (λv s6 zq3=>il zq3 λX6 B6 t e=>?_) no;clear hy hy2 hds hr I I0 I3' I4 r5 SA;refine aa e ?_;have toD:∀{c0:aj}{x:Addr},c0.cells=[]->XS c0 env x->XD s x:=λhc h=>j8 (λy hy=>by rw[hc]at hy;cases hy) nw h;refine⟨_,rfl,((((((X.x0.trans (X1.weaken λ_=>toD hcells)).trans (X3.weaken λ_ h=>.inl h)).trans (X4.weaken λb o=>.inr (nw b o.own))).trans (X5.weaken λ_ h=>toD (c0:={c1 with θ:=θ'}) hc1 (.inl h))).trans (X6.weaken λ_ h=>.inl h)):ae (XD s) s s6).undead,B6,t,rfl⟩
noncomputable def v7:Nat->Sre.M->Option Sre.M
 | 0,_=>none
 | n+1,m=>cond (m.runFor 4).outcome.isSome (some (m.runFor 4)) (v7 n (m.runFor 4))
noncomputable def Uy(o:Sre.Outcome):Option Unit:=un (P:=λ_=>o=.failed) (match o with
 | .failed=>some ⟨(),rfl⟩
 | _=>none)
noncomputable def Da(y:List Nat):Bool:=(bo (v7 80 (Sre.forSearch mH ⟨y⟩ 1 0 y.length false)) λm=>bo m.outcome Uy).isSome
theorem v8{y:List Nat}:∀{l:List (List Nat)},inL y l=true->y∈l
 | [],h=>by exact eE h
 | x::l,h=>by
  refine(Bool.or_eq_true_iff.mp (h:(ax x y||inL y l)=true)).elim (λe=>?_) λe=>Xc _ (v8 e);exact aW.mp e▸Xh ..
theorem Uz:jS.all Da=true:=by rfl'
section
variable{M:Model}
theorem Db:∀{k:Nat}{m m':Sre.M}{n:Nat}{Q:Sre.M->Xd->Prop},v7 k m=some m'->k<=n->Q m' s->Xf M A (Xp.Re.reDrive n m) Q E s
 | 0,m,m',n,Q,h,_,_=>by exact aT h
 | k+1,m,m',0,Q,h,hn,_=>absurd hn (Nat.not_succ_le_zero _)
 | k+1,m,m',n+1,Q,h,hn,q=>by
  show Xf M A (if (m.runFor 4).outcome.isSome then pure (m.runFor 4) else do rule "sre.turn";Xp.Re.reDrive n (m.runFor 4)) Q E s;refine cQ (h:cond (m.runFor 4).outcome.isSome _ _=_) (λho h=>?_) λho h=>?_
  ·rw[if_pos ho,W9 h];exact Ev q
  ·rw[if_neg (mT ho)];exact El (ZZ (Db h (Nat.le_of_succ_le_succ hn) q))
theorem UA{y:List Nat}(hy:inL y jS=true){Q:Option Sre.M->Xd->Prop}(q:Q none s) :
  Xf M A (Xp.Re.reRunToEnd (Sre.forSearch mH ⟨y⟩ 1 0 y.length false)) Q E s:=by
 have hm:Da y=true:=by
  have h1:y∈jS:=v8 hy;exact YP.mp Uz y h1
 refine al (Zd.mp hm) λ_ hm=>ab hm λm hd hm=>ab hm λo ho hf=>?_;rw[bS (P:=λ_=>o=.failed) hf]at ho;unfold Xp.Re.reRunToEnd;refine El (Db hd (W6 (by decide:80<=2 ^ 8) (Nat.pow_le_pow_right (by decide) (by decide))) ?_);refine El (wpAny_forIn_list _ (λ_ _ s'=>s'=s) _ (λi rest b s' hs=>?_) (λb s' hs=>?_) _ _ rfl)
 ·by_cases hi:m.seen.has i=true
  ·rw[if_pos hi];exact El (ZZ (Ev hs))
  ·rw[if_neg hi];exact Ev hs
 ·rw[ho,hs];exact Ev q
end
section
variable{M:Model}
theorem UB(C:gq K mg)(B:aC K s.heap)(hg:env.globals=Xj){q:Addr×Addr}(hgt:GT q)(hc:env.code=.ref q.1){la:Arguments}{lb:Expr}{ls:YM}{lp:Pos}(hl:mD la ls=true)
  {Q:W2->Xd->Prop}
  (h:∀f o fd h' tk,Heap.ExtBut q.2 s.heap h'->aC K h'->s.heap.objs.size<=f->h'.get? f=some o->o.cls=.type "function"->o.data=.func fd->(∀b b',h'.get? b=some b'->b<=f)->Q (.ref f) {s with heap:=h',toks:=tk}) :
  Xf M A (eval (.Lambda la lb ls lp) env) Q E s:=by
 have hdef:defaultsOf la env=([],[])/\gY ls.names=true:=by
  obtain⟨a1,a2,a3,a4,a5,a6,a7⟩:=la;cases a5<;>cases a7<;>first | exact⟨rfl,by simpa [mD] using hl⟩ | simp[mD]at hl
 have hq:=hgt.1;refine im (B.tab q hq) λps e1 e2 e3 zz=>?_;have H:=C.heads q hq _ B;have it:aG q.2:=by
  simp only[cz,Xk,Xw,or_false]at hq;rcases hq with rfl | rfl | rfl | rfl<;>simp[aG]
 have lo:=dp it;have hsz:n₀<=s.heap.objs.size:=B.size;refine nH C.bmod λbm ob f1 f2 f3 f4 f5 f6 f7=>?_;have hgl:=C.glob _ B;have hbm:=B.stat _ _ f3 f4;have hgP:Xj≠q.2:=λe=>by
  rcases it with h | h | h | h<;>rw[h]at e<;>revert e<;>decide
 have hbt:s.heap.BuiltinsAt mg q.2:=by
  refine⟨bm,ob,f1,f2,λe=>?_,λe=>f4 (e▸it),hbm,f5,f6,f7⟩;refine fJ hgl λo es ep g1 g2 zz=>?_;rw[<-e,hbm]at g1;cases g1;rw[f7]at g2;cases g2
 refine kla_eval hdef.1 ?_;cases hf:codeAmong lp ps.toList with
 | some cv=>
  refine kla_makeFunctionHit (qD hdef.2) hg hgl hc H e1 e2 hf hbt λctv h' tk k sz=>?_;have k2:∀b o,s.heap.get? b=some o->(h'.push {cls:=.type "function",data:=.func (kla_fn "<lambda>" (env.qual++"<lambda>") la lb ls [] ((mg "__name__").getD .none) cv ctv)}).get? b=some o:=λb o e=>Xg _ (k b o e);exact h _ _ _ _ _ (λb o _ e=>k2 b o e) (B.keep0 k2) sz (Xl _ rfl) rfl rfl λb b' e=>by
   have:=Xm e;rw[XV]at this;exact Nat.le_of_lt_succ this
 | none=>
  refine kla_makeFunction (qD hdef.2) hg hgl hc H e1 e2 hf hgP hbt λc' ctv h' tk X ge lt cr tb=>?_;have sz:s.heap.objs.size<=h'.objs.size:=by exact GP ge lt
  have k2:∀b o,h'.get? b=some o->(h'.push (kla_obj "<lambda>" (env.qual++"<lambda>") la lb ls [] ((mg "__name__").getD .none) c' ctv)).get? b=some o:=λb o e=>Xg _ e;refine h _ _ _ _ _ (λb o hb e=>k2 b o (X b o hb e)) (B.table hgt (λb o hb e=>k2 b o (X b o hb e)) (k2 _ _ tb) ?_ λpos' cv hcv=>?_) sz (Xl _ rfl) rfl rfl λb b' e=>?_
  ·rw[Zm];exact TriplesOk_snoc _ _ _ _ e2
  ·rw[Zm]at hcv;rcases uV ps.toList e2 hcv with q | rfl
   ·exact e3 _ _ q
   ·exact⟨_,rfl⟩
  ·have:=Xm e;rw[XV]at this;exact Nat.le_of_lt_succ this
end
theorem UC:aaf (.type "re.Pattern") "sub"=pure (some (.builtin "re.Pattern.sub")):=by rw[YN,Yg];rfl'
theorem UD:PlainAttrs "re.Pattern":=
 ⟨⟨"object.__getattribute__",by rw[YN,Yg];rfl',by decide +kernel⟩,by rw[YN,Yg];rfl'⟩
theorem v9:Slot "re.Pattern" "sub" "re.Pattern.sub":=
 .of (owner:="re.Pattern") (n:="sub") UC (by decide +kernel) (by decide +kernel) (by decide +kernel)
  (by first | exact .inl (by decide +kernel) | exact .inr (by decide +kernel)) (by rw[ZC];rfl')
theorem UE:typeOf (.builtin "re.Pattern.sub")=pure (.type "method_descriptor"):=by show builtinType _=_;rw[builtinType_eq_fast];rfl'
theorem UF:aak table "re.Pattern.sub"=some Xp.«re.Pattern.sub»:=Zf (by rfl')
theorem UG:aak table "re.Pattern.sub.loop"=some Xp.«re.Pattern.sub.loop»:=Zf (by rfl')
theorem UH(a b c:W2):ZD "re.Pattern.sub" ⟨[a,b,c],[]⟩:=by unfold ZD;rfl'
theorem UI:aaf (.type "function") "__call__"=pure (some (.builtin "function.__call__")):=by rw[YN,Yg];rfl'
theorem UJ:isSubtype (.type "str") (.type "bytearray")=pure false:=by rw[ZC];rfl'
theorem Dc:plainId "re.Pattern.sub.loop"=true:=by decide +kernel
structure mn(h:Heap)(P C:Addr):Prop where
 pat:∃o vs,h.get? P=some o/\o.cls=.type "re.Pattern"/\o.dict=none/\o.data=.fields vs/\vs.getD 5 .none=.ref C/\Xp.Re.reRawNat (vs.getD 6 .none)=0/\Xp.Re.reRawNat (vs.getD 2 .none)=1
 code:∃o xs n,h.get? C=some o/\o.data=.seq xs n/\(xs.map Xp.Re.reRawOf).map (·.toNat)=mH
theorem mn.keep{h h':Heap}{P C:Addr}(p:mn h P C)(k:∀b o,h.get? b=some o->h'.get? b=some o):mn h' P C:=
 ⟨cw p.pat λo vs a b=>(cx o vs (k _ _ a) b),dd p.code λo xs n a b=>(lA o xs n (k _ _ a) b)⟩
section
variable{P C f:Addr}{y:List Nat}{t:Tok}
theorem Dd(p:mn s.heap P C){Q:Xp.Re.ReTarget->Xd->Prop}
  (q:Q {pattern:=.ref P,string:=.str ⟨⟨y⟩⟩ t,code:=mH,text:=⟨y⟩,kind:=0,groups:=1,pos:=0,lim:=y.length} s) :
  Xf (Xe prog w) A (Xp.Re.reWholeTarget (.ref P) (.str ⟨⟨y⟩⟩ t)) Q E s:=by
 refine nH p.pat λo vs g zz zz d e5 e6 e2=>fJ p.code λoc xs n gc dc ec=>?_;unfold Xp.Re.reWholeTarget;refine El (wpAny_fieldsOf g d ?_);refine aa e5 (aa e6 (aa e2 (El (Ev ?_))));refine El (Ev ?_);refine El ?_;unfold Xp.Re.reRawItems;refine El (YY gc dc ?_);refine Ev (Ev ?_);show Q {pattern:=.ref P,string:=.str ⟨⟨y⟩⟩ t,code:=(xs.map Xp.Re.reRawOf).map (·.toNat),text:=⟨y⟩,kind:=0,groups:=1,pos:=0,lim:=y.length} s;exact aa (ec) q
theorem UK{D:Addr}(p:mn s.heap P C)(gD:s.heap.get? D=some {cls:=.type "list",data:=.seq ([]:List W2).toArray})(hy:inL y jS=true){Q:W2->Xd->Prop}
  (q:∀h' tk t',(∀b o,s.heap.get? b=some o->b≠D->h'.get? b=some o)->Q (.str ⟨⟨y⟩⟩ t') {s with heap:=h',toks:=tk}) :
  Xf (Xe prog w) A (Xp.«re.Pattern.sub.loop» ⟨[.ref P,.str ⟨⟨y⟩⟩ t,.ref f,rawInt 1,rawInt 0,rawInt 0,rawInt 0,rawInt 0,.bool false,.ref D,.bool false],[]⟩)
   (λfin s'=>∃v,fin=.done (.ret v)/\Q v s') E s:=by
 unfold Xp.«re.Pattern.sub.loop»;skip;refine El (Dd p ?_);refine Yu rfl ?_;skip;refine El (Yu rfl (UA hy ?_));dsimp only;have hlen:y.length<=5:=by
  have:jS.all (λy=>YG y.length 5)=true:=by decide
  exact Xn (YP.mp this y (v8 hy))
 have hmx:sizeLine=16777216:=Ze;have hex:(⟨y⟩:Array Nat).extract (Int.toNat 0) y.length=⟨y⟩:=by
  have:(⟨y⟩:Array Nat).extract 0 (⟨y⟩:Array Nat).size=⟨y⟩:=Array.extract_size;exact this
 have jz:∀{m:Nat},Xp.Re.reSlice ⟨y⟩ 0 0 m=mkStr ⟨(⟨y⟩:Array Nat).extract 0 m⟩:=rfl;cases y with
 | nil=>
  refine Yu rfl (aa jz (El (wpAny_mkStr ?_ (by decide))));refine El (YY (s:={s with toks:=s.toks+1}) gD rfl ?_);refine wpAny_ite_true rfl (El (Ev ?_));exact aa (if_neg (by decide)) (Ev (ah _ rfl (q _ _ _ λb o e _=>e)))
 | cons z r=>
  have h1:Xp.Re.reSlice ⟨z::r⟩ 0 (Int.toNat 0) (z::r).length=mkStr ⟨⟨z::r⟩⟩:=by
   show mkStr ⟨(⟨z::r⟩:Array Nat).extract (Int.toNat 0) (z::r).length⟩=_;refine aa hex ?_;rfl
  refine wpAny_ite_true rfl (aa h1 ?_);refine El (wpAny_mkStr ?_ (by show(z::r).length<=sizeLine;exact GQ hmx hlen));refine El (ZV (s:={s with toks:=s.toks+1}) gD rfl ?_);have gD':=Zz (Y2 (·.push (Value.str ⟨⟨z::r⟩⟩ s.toks))) gD rfl;have kD:=Yt s.heap D (Y2 (·.push (Value.str ⟨⟨z::r⟩⟩ s.toks)));dsimp only at gD' kD ⊢;generalize s.heap.update D (Y2 λx=>x.push (Value.str ⟨⟨z::r⟩⟩ s.toks))=h2 at gD' kD ⊢;refine aa (show Xp.Re.reSlice ⟨z::r⟩ 0 0 0=mkStr ⟨⟨[]⟩⟩ by rfl) (El (wpAny_mkStr ?_ (by decide)));obtain⟨k,hk⟩:∃k,Y2 (·.push (Value.str ⟨⟨z::r⟩⟩ s.toks)) {cls:=.type "list",data:=.seq ([]:List W2).toArray}={cls:=.type "list",data:=.seq ⟨[Value.str ⟨⟨z::r⟩⟩ s.toks]⟩ k}:=⟨_,rfl⟩;rw[hk]at gD';refine El (YY (s:={s with heap:=h2,toks:=s.toks+1+1}) gD' rfl ?_);refine Yu rfl (El (KE (join_list (s:={s with heap:=h2,toks:=s.toks+1+1}) (Q:=λv s'=>∃t' k,v=.str ⟨⟨z::r⟩⟩ t'/\s'={s with heap:=h2,toks:=k}) (ys:=[⟨⟨z::r⟩⟩]) (dl _ gD' rfl _ rfl) ?_ ?_ λt' k=>(cx t' k ?_ rfl)) (λv s' zq2=>cw zq2 λt' k e1 e2=>?_) no))
  ·exact .cons _ _ .nil
  ·show(z::r).length+0+1 * 0<=16777216;exact GR hlen
  ·exact aa (eq_of_beq (join_plain_closes _ _)) (congrArg (λq=>Value.str q t') (mR [] [z::r]))
  ·subst e1 e2;exact aa (if_neg (by decide)) (Ev (ah _ rfl (q _ _ _ λb o e hb=>kD.extBut b o hb e)))
theorem UL(p:mn s.heap P C){o:Obj}(gf:s.heap.get? f=some o)(of:o.cls=.type "function")(hy:inL y jS=true){Q:W2->Xd->Prop}
  (q:∀h' tk t',(∀b o,s.heap.get? b=some o->h'.get? b=some o)->Q (.str ⟨⟨y⟩⟩ t') {s with heap:=h',toks:=tk}) :
  Xf (Xe prog w) A (call (.builtin "re.Pattern.sub") [.ref P,.ref f,.str ⟨⟨y⟩⟩ t]) Q E s:=by
 have hty:s.TypeIs (.ref P) "re.Pattern":=bb p.pat λo vs g c zz=>(ah o g c);refine Zr (ZF v9.plain UF (v9.check _ _ _ _ _ _ _ _ hty (UH _ _ _) ?_));show Xf _ _ (Xp.Re.reSubstitute "re.Pattern.sub" "sub" false ⟨[.ref P,.ref f,.str ⟨⟨y⟩⟩ t],[]⟩) _ _ s;unfold Xp.Re.reSubstitute;skip;refine El (XG (a:=[some (.ref f),some (.str ⟨⟨y⟩⟩ t),none]) (by rfl) ?_);skip;refine El (Ev ?_);refine El (El (aag (v:=.ref f) (ah o gf of) (XG UI ?_)));refine aa (show(some (Value.builtin "function.__call__")).isSome=true from rfl) ?_;skip;refine El (Ev ?_);refine El (Ev ?_);refine El (XQ (Dd p ?_));refine wpAny_ite_true rfl (El ?_);unfold Xp.Re.reNotHeld;refine El (Zs (Zh _ _ _) UJ ?_);refine Ev (El (wpAny_newList ?_));refine Ev ⟨plainId_quiet Dc _,codeAny_builtin UG ?_⟩;rw[Around.under_plainId Dc];have kp:∀b o,s.heap.get? b=some o->(s.heap.push {cls:=.type "list",data:=.seq ([]:List W2).toArray}).get? b=some o:=λb o e=>Xg _ e;have gD:(s.heap.push {cls:=.type "list",data:=.seq ([]:List W2).toArray}).get? s.heap.objs.size=some {cls:=.type "list",data:=.seq ([]:List W2).toArray}:=Xl _ rfl;have ltD:s.heap.objs.size<(s.heap.push {cls:=.type "list",data:=.seq ([]:List W2).toArray}).objs.size:=Xm gD;have hD:∀b o,s.heap.get? b=some o->b≠s.heap.objs.size:=λb o e=>XZ (Xm e);generalize (s.heap.push {cls:=.type "list",data:=.seq ([]:List W2).toArray})=h1 at kp gD ltD ⊢;generalize s.heap.objs.size=D at gD ltD hD ⊢;refine KE (UK (s:={s with heap:=h1}) (p.keep kp) gD hy λh' tk t' k=>q h' tk t' λb o e=>k b o (kp b o e) (hD b o e)) (λfin s' zq4=>af zq4 λv e q=>?_) no;exact aa e q
end
structure wa(K:Frag)(mg:Str->Option W2):Prop where
 name:∀t:Str,nm t=kE->mg t=some (.ref 127)
 pat:∀h,aC K h->mn h 127 126
theorem UM(C:gq K mg)(Z:wa K mg):qx prog w K T m:=by
 intro n x c env ρ σ σ' s A t M fp ap la lb ls lp e p y P ht hs htw hM hk hg hl he hy hline I R;have hMs:M="sub":=cF hM;subst hMs;have hbase:attributeBase (.Name t fp) "sub" env (eval (.Name t fp) env)=eval (.Name t fp) env:=rfl;have hargs:YD [.Lambda la lb ls lp,e] env=[(false,eval (.Lambda la lb ls lp) env),(false,eval e env)]:=by
  show(false,eval (.Lambda la lb ls lp) env)::YD [e] env=_;refine aa (kW he) ?_;rfl
 have hd':(t==("__debug__":Str))=false:=by
  rw[beq_eq_false_iff_ne];rintro rfl;exact absurd htw (by decide)
 refine af (hs.2 hg) λq hgt hqc=>?_;have hq:=hgt.1;have it:aG q.2:=by
  simp only[cz,Xk,Xw,or_false]at hq;rcases hq with rfl | rfl | rfl | rfl<;>simp[aG]
 refine Yd hbase (gK rfl (by (refine aa hargs ?_);rfl)) hline ?_;have hgl:s.heap.Ns env.globals mg:=by (refine aa I.env.globals ?_);exact C.glob _ I.base
 refine Xx I.env.kind hk (YX hgl (Z.name t htw) ?_) hd';have hp0:=Z.pat _ I.base;refine(gW ("re.Pattern") _ UD v9 UE ?_ (λa ea=>?_) ?_)
 ·exact bb hp0.pat λo vs g c1 zz=>(ah o g c1)
 ·cases ea;exact io hp0.pat λo vs g c1 d1 zz=>(ah o g d1)
 refine aa hargs (XW rfl (YI ?_));show Xf _ A (spliced [(false,eval (.Lambda la lb ls lp) env),(false,eval e env)]) _ _ _;refine XK (KE (Ys I.tk (UB (E:=nr) C I.base I.env.globals hgt hqc hl (Q:=λv s1=>∃f o,v=.ref f/\ae aG s s1/\aC K s1.heap/\s.heap.objs.size<=f/\s1.heap.get? f=some o/\o.cls=.type "function") λf o fd h' tk X B lt g1 g2 g3 g4=>(gW f o rfl ⟨λb ob eb hb=>X b ob (λe'=>hb (e'▸it)) eb,λb ob eb=>?_,rfl,λz=>z⟩ B lt g1 g2))) (λv s1 zq0=>wk zq0 λtk1 f o ev X1 B1 zc0=>da zc0 λlt g1 g2=>?_) λ_ _ f=>f.2.elim)
 ·by_cases e':b=q.2
  ·exact af (B.tab q hq) λps e1 zz=>⟨_,e'▸e1⟩
  ·exact⟨_,X b ob e' eb⟩
 subst ev;have I1:=I.tab X1 B1 tk1;refine XK (KE (P ht hs he I1 R) (λv s2 zq1=>da zq1 λX2 I2 r2=>YC ?_) no);refine cq r2 λhyl u zr2=>?_;subst zr2;have gf:s2.heap.get? f=some o:=X2.keep _ _ g1 (by
  rintro(h | h)
  ·exact al (I.cfg.live f (I.cfg.sub f h)) λo' e'=>absurd (Xm e') (XN.mpr lt)
  ·have:=dp h;have:=I.base.size;omega)
 refine KE (Ys I2.tk (UL (E:=nr) (Z.pat _ I2.base) gf g2 hy (Q:=λv s3=>(∃t',v=.str ⟨⟨y⟩⟩ t')/\ae X0 s2 s3) λh' tk t' k=>⟨⟨t',rfl⟩,ae.kept k rfl id⟩)) (λv s3 zq2=>da zq2 λtk3 zw2b X3=>al zw2b λt' ev=>?_) λ_ _ f=>f.2.elim;subst ev;exact bf.of_val (s1:=s2) ((X1.weaken λb h=>.inr h).trans X2) I2 (fU X3 hyl t' rfl) tk3
noncomputable abbrev rY:Obj:={cls:=.type "object",data:=.plain}
theorem De:mroOf (.type "object")=pure [.type "object"]:=by rfl'
theorem UN:aaf (.type "object") "__new__"=pure (some (.builtin "object.__new__")):=by rw[YN,Yg];rfl'
theorem UO:Slot "object" "__init__" "object.__init__":=
 .of (owner:="object") (n:="__init__") (by rw[YN,Yg];rfl') (by decide +kernel) (by decide +kernel) (by decide +kernel)
  (by first | exact .inl (by decide +kernel) | exact .inr (by decide +kernel)) (by rw[ZC];rfl')
theorem UP:Bind.madeBy (.type "object")=pure (some "object.__new__"):=madeBy_type De UN (by decide +kernel)
theorem UQ:TypeCalled "object" "object.__new__" "object.__init__":=
 ⟨by decide +kernel,by decide +kernel,(dZ _ _ De),UP,by decide +kernel,by rw[ZC];rfl',UO⟩
theorem UR:checkTypeCall "object" ⟨[],[]⟩=pure ():=by rfl'
theorem US:checkBuiltinCall "object.__new__" ⟨[.type "object"],[]⟩=pure ():=by rfl'
theorem UT:diesByItsTypesDel "object"=false:=by decide +kernel
theorem UU:Bind.madeHere "object.__new__" (.type "object")=pure ():=by rfl'
theorem UV:Meets (Xp.«object.__new__» ⟨[.type "object"],[]⟩) (λ_ R s=>R (.ok (.ret (.ref s.heap.objs.size))) {s with heap:=s.heap.push rY}):=by
 refine Meets.of_wp λprog w A R s hs=>?_;have h1:=UU;have h2:=UT;unfold Xp.«object.__new__»
 repeat (any_goals (first | assumption | wp_step))
 exact(ah _ rfl hs)
theorem UW{Q:W2->Xd->Prop}(h:Q (.ref s.heap.objs.size) {s with heap:=s.heap.push rY}):Xf (Xe prog w) A (call (.type "object") []) Q E s:=by
 refine callType_meets (Q₁:=λv s1=>v=.ref s.heap.objs.size/\s1={s with heap:=s.heap.push rY}) UQ UR US (Zf (by rfl')) entry_oi UV ⟨rfl,rfl⟩ λobj s1 q=>?_;obtain⟨rfl,rfl⟩:=q;refine⟨(ah _ (Xl _ rfl) rfl),oi_args _,_,Meets.of_wp (S:=λ_ R s=>R (.ok (.ret .none)) s) λprog w A R s hs=>?_,⟨rfl,h⟩⟩;rw[oi_run];exact Ev (ah _ rfl hs)
noncomputable def rZ:List Nat:=aaG
noncomputable def mo:List Nat:=aaU
noncomputable abbrev dX:Stmt:=au 7 0
noncomputable abbrev xC:Expr:=ay dX
theorem UX:dX=.Assign [.Name (eA dX) (dq dX)] (.Call (.Name (bO (aJ xC)) (bQ (aJ xC))) [] [] (bB xC)) (du dX):=by rfl'
theorem UY:bO (aJ xC)=("object":Str):=by rfl'
theorem UZ:bt (am 7)=[dX,au 7 1,au 7 2]:=by rfl'
noncomputable def TX(x:List Nat)(ps:List AV)(t:List Nat):bh:=ik T0 [(iT,[.str x,.op 0,.str [46]],.lst ps),(mJ,[.lst ps,.op 0],.str t)]
noncomputable def cX(x:List Nat)(ps:List AV)(t:List Nat):aH:={tab:=TX x ps t,sc:=aF (am 7),own:=[],gen:=0}
noncomputable abbrev jL:Stmt:=au 7 1
noncomputable abbrev lq:Stmt:=au 7 2
theorem U0:jL=.Assign [.Name (eA jL) (dq jL)] (.Call (.Name (bO (aJ (ay jL))) (bQ (aJ (ay jL)))) (bx (ay jL)) [] (bB (ay jL))) (du jL):=by rfl'
theorem U1:nm (bO (aJ (ay jL)))=iT:=by rfl'
theorem U2:lq=.Return (some (.Call (.Name (bO (aJ (cW lq))) (bQ (aJ (cW lq)))) (bx (cW lq)) [] (bB (cW lq)))) (jE lq):=by rfl'
theorem U3:nm (bO (aJ (cW lq)))=mJ:=by rfl'
section
variable{x t:List Nat}{ps:List AV}
theorem U4:(TX x ps t).fn iT [.str x,.op 0,.str [46]]=some (.lst ps):=rU
theorem U5:(TX x ps t).fn mJ [.lst ps,.op 0]=some (.str t):=(rV (by decide)).trans rU
theorem U6:pst 60 (cX x ps t) [(mo,.val (.str x)),(rZ,.val (.op 0))] [] [jL,lq]=some (.ret (.val (.str t)),[(mo,.val (.str x)),(rZ,.val (.op 0)),(aaH,.val (.lst ps))],[]):=by
 refine ZY (aR (n:=59) (ρ1:=[(mo,.val (.str x)),(rZ,.val (.op 0)),(aaH,.val (.lst ps))]) (σ1:=[]) ?_) (i9 (n:=58) ?_)
 ·rw[U0];exact eC (n:=58) (by rfl') trivial (jf (n:=57) (σ1:=[]) (vs:=[.val (.str x),.val (.op 0),.val (.str [46])]) (us:=[.str x,.op 0,.str [46]]) (by rfl') (by rfl') (by rfl') (by rfl') (by rfl') trivial rfl (by rw[U1];exact U4)) (by rfl')
 ·rw[U2];exact jF (n:=57) (jf (n:=56) (σ1:=[]) (vs:=[.val (.lst ps),.val (.op 0)]) (us:=[.lst ps,.op 0]) (by rfl') (by rfl') (by rfl') (by rfl') (by rfl') trivial rfl (by rw[U3];exact U5))
end
theorem U7:Zx "object"=some (.type "object"):=by decide +kernel
theorem U8{f:Nat->Bool}{n X:List Nat}{a:AV}{t:PV}(ha:jC f a=true)(h:aB [(n,PV.val a)] X=some t):mV f t=true:=by
 unfold aB at h;split at h
 ·cases h;exact ha
 ·cases h
theorem U9{x t:List Nat}{ps:List AV}(O:dh prog w K mg (TX x ps t) m)(allP:∀n,fD prog w K (TX x ps t) m n){a:Addr}(D:dE K a (am 7))(hob:mg "object"=none):i8 prog w K (m+1) a [.str x] (.str t):=by
 refine iI D λo fd e1 e2 e3 D e4 e5=>?_;intro c s us A B C hr tk R;refine ou D e1 e2 e3 B C hr (by rw[e4];rfl) tk R λcN s1 hθ hcells hex hle X I nw A1 R1=>?_;have hs:aQ (cX x ps t) (Xz fd s.heap.objs.size a):=⟨e5.symm,λh=>absurd rfl h⟩;have I0:ak K cN (Xz fd s.heap.objs.size a) [(mo,.val (.str x))] [] s1:=by
  have e:fg fd.params.args ([AV.str x].map PV.val)=[(mo,.val (.str x))]:=by rw[e4];rfl'
  rw[e]at I;exact I
 rw[UZ];refine Yw (st:=dX) ?_;rw[UX];refine Zj ?_;rw[UY];show Xf _ A1 (do callWith (bB xC) (<-eval (.Name "object" (bQ (aJ xC))) (Xz fd s.heap.objs.size a)) [] (aae (bB xC) (YD [] (Xz fd s.heap.objs.size a))) []) _ _ s1;refine af I0.ns_b λmb nb hmb=>El (Xx I0.env.kind (by show fd.scope.names.lookup _=_;rw[e5];rfl') (Zc (iw O I0) hob nb (by rw[hmb "object" (by decide)];exact U7) ?_));refine PyProof.Rows.callWith_type rfl (iy rfl ?_);show Xf _ A1 (spliced []) _ _ s1;refine YC (UW ?_);have X1:ae X0 s1 {s1 with heap:=s1.heap.push rY}:=ae.push _ _ _;have I1:=(I0.keep0 X1 I0.tk).retheta (θ':=λ_=>.ref s1.heap.objs.size) (f:=λ_=>false) (λX t h=>U8 rfl h) (λ_ h=>by cases h) (λ_=>⟨_,rfl⟩);have hst:eN (Xz fd s.heap.objs.size a).scope [(mo,.val (.str x))] (eA dX) (.val (.op 0))=some [(mo,.val (.str x)),(rZ,.val (.op 0))]:=by
  show eN fd.scope _ _ _=_;rw[e5]
  rfl'
 refine KE (gJ hst I1 (v:=.ref s1.heap.objs.size) (rW rfl)) (λ_ s2 zq0=>aw zq0 λX2 I2=>?_) no;refine KE ((allP 60).pst (x:=cX x ps t) rfl hs U6 I2 R1) (λf s3 r=>?_) no;refine pC r λc3 G3 X3 I3 v zr5 rv=>?_;clear r;subst zr5;refine(ah v rfl ?_);have toD:∀{c0:aj}{x:Addr},c0.cells=[]->XS c0 (Xz fd s.heap.objs.size a) x->XD s x:=λhc h=>j8 (λy hy=>by rw[hc]at hy;cases hy) nw h;exact(bR (((((X.x0.trans X1.x0).trans (X2.weaken λy hy=>.inr (nw y hy.own))).trans (X3.weaken λy hy=>toD hcells hy)):ae (XD s) s s3).undead) I3.base rv)
noncomputable def gU(K:Frag)(mg:Str->Option W2)(f:List Nat)(a:Addr)(st:Stmt):Prop:=mg (⟨⟨f⟩⟩:Str)=some (.ref a)/\dE K a st
structure gz(prog:Y3)(K:Frag)(mg:Str->Option W2):Prop where
 acc:oz prog K mg
 accN:mg (⟨⟨kL⟩⟩:Str)=some (.ref aN)
 twin:wa K mg
 esc:vI K mg
 trans:gU K mg kO 134 (am 7)
 escape:gU K mg pZ 146 (am 10)
 tr:gU K mg iT 153 (am 12)
 trC:iA (Kn K) 153 152
 parts:gU K mg mJ 160 (am 13)
 kinds:gU K mg qa 174 (am 18)
 draw:gU K mg jW 179 (am 19)
 meant:gU K mg kM 184 (am 20)
 first:gU K mg jX 191 (am 21)
 places:gU K mg mI 198 (am 22)
 placesC:iA (Kn K) 198 197
 cut:gU K mg n3 203 (am 23)
 takes:gU K mg n4 210 (am 24)
 through:gU K mg kN 215 (am 25)
 law:dE K 220 (am 26)
 red:dD prog (Kn K) 169 (am 16) [] (fQ (Kn K) 162)
 missing:mg "_initial_missing"=some (.ref 161)
 iter:mg "iter"=none
 reduce:mg "reduce"=some (.ref 169)
 object:mg "object"=none
theorem gU.fn{f:List Nat}{a:Addr}{st:Stmt}(D:gU K mg f a st){X:Str}(h:nm X=f):oe K mg X a:=by
 have e:X=⟨⟨f⟩⟩:=cF h;exact aa e (io D.2 λo fd e1 e2 e3 zz=>⟨D.1,o,fd,e1,e2,e3⟩)
theorem iG(F:gz prog K mg)(hm:3<=m)(O:dh prog w K mg T m):(∀n,fM prog w K T m n)/\∀n,fD prog w K T m n:=by
 have all:=zo O (Nf F.acc hm) (UM F.acc.code F.twin) λn a=>MP F.acc.code a.pe;exact⟨all,zG O (Ng F.acc F.accN) all⟩
theorem r6(F:gz prog K mg):dh prog w K mg Tn m:=⟨F.acc.code.glob,F.acc.bi,λ_ _ h=>(nomatch h),λ_ _ _ h=>(nomatch h),λ_ _ _ _ _ h=>(nomatch h)⟩
theorem r8(F:gz prog K mg)(hm:3<=m):dh prog w K mg T0 (m+1):=by
 refine⟨F.acc.code.glob,F.acc.bi,λ_ _ h=>(nomatch h),λX vs r h=>?_,λ_ _ _ _ _ h=>(nomatch h)⟩;refine aK h λhX h=>ab h λv hv h=>ab h λx hx h=>ab h λn hn h=>aK h λhs h9=>?_;cases dT hv;cases iR hx;cases dT hn;exact af (List.any_eq_true.mp hs) λk hk e=>aL h9 (XF e▸(ah 146 (F.escape.fn (aW.mp hX)) (Rx F.esc (r6 F) (iG F hm (r6 F)).1 F.escape.2 hk)))
theorem Df(F:gz prog K mg)(hm:3<=m):dh prog w K mg T1 (m+2):=by
 have O:=r8 (w:=w) F hm;have S:=(iG F (XU hm) O).2;refine⟨F.acc.code.glob,F.acc.bi,λ_ _ h=>(nomatch h),λX vs r h=>?_,λX cl vs r cl' h=>?_⟩
 ·exact cQ h (λhX h=>ah 174 (F.kinds.fn (aW.mp hX)) (m6 S F.kinds.2 (λh=>absurd rfl h) h)) λ_ h=>
   cQ h (λhX h=>ah 191 (F.first.fn (aW.mp hX)) (m6 S F.first.2 (λh=>absurd rfl h) h)) λ_ h=>
    cQ h (λhX h=>ah 184 (F.meant.fn (aW.mp hX)) (m6 S F.meant.2 (λh=>absurd rfl h) h)) λ_ h=>(O.mono (XH _)).fn X vs r h
 ·exact aK h λhX h=>ah 203 (F.cut.fn (aW.mp hX)) (AD S F.cut.2 h)
theorem Va(F:gz prog K mg)(hm:3<=m):dh prog w K mg T2 (m+3):=by
 have O:=Df (w:=w) F hm;have S:=(iG F (XU (XU hm)) O).2;refine⟨F.acc.code.glob,F.acc.bi,λ_ _ h=>(nomatch h),λX vs r h=>?_,λX cl vs r cl' h=>?_⟩
 ·exact cQ h (λhX h=>ah 179 (F.draw.fn (aW.mp hX)) (m6 S F.draw.2 (λh=>absurd rfl h) h)) λ_ h=>(O.mono (XH _)).fn X vs r h
 ·exact cQ h (λhX h=>ah 210 (F.takes.fn (aW.mp hX)) (AD S F.takes.2 h)) λ_ h=>(O.mono (XH _)).cf X cl vs r cl' h
noncomputable def TQ:bh where
 fn:=λf vs=>cond (ax f kN) (bJ T2 0 [oZ] 200 (am 25) vs) (T2.fn f vs)
 cf:=λ_ _ _=>none
 gc:=λ_=>none
theorem Vb(F:gz prog K mg)(hm:3<=m):dh prog w K mg TQ (m+4):=by
 have O:=Va (w:=w) F hm;have S:=(iG F (by exact Ep) O).2;refine⟨F.acc.code.glob,F.acc.bi,λ_ _ h=>(nomatch h),λX vs r h=>?_,λ_ _ _ _ _ h=>(nomatch h)⟩;exact cQ h (λhX h=>ah 215 (F.through.fn (aW.mp hX)) (m6 S F.through.2 (λh=>absurd rfl h) h)) λ_ h=>(O.mono (XH _)).fn X vs r h
theorem Vc(F:gz prog K mg)(hm:3<=m)(ds:List Nat)(hd:∀d∈ds,d<20)(hl:ds.length<=8):i8 prog w K (m+2) 160 [.lst ((bY ds).map aM),.op 0] (.str (dQ (bL (cZ (aZ ds))))):=by
 have O:=r8 (w:=w) F hm;have S:=(iG F (XU hm) O).2;have sl:=vB ds;refine aw (vC ds) λm1 m2=>?_;have tb:∀l:List Nat,(∀d∈l,d∈ds)->(bF [] (eD l)).length<=l.length * 7:=λl _=>by
  have:=rH 7 (eD l) (by intro a ha;refine af (Yp.mp ha) λd zz zr2=>?_;clear ha zz;subst zr2;exact Cb d);rw[show(eD l).length=l.length from W7 ..]at this;exact this
 have hs:∀s∈(aZ ds).2,s.length<=8:=by
  intro s h;have:∀(l:List (List Nat)),s∈l->s.length<=(l.map (·.length)).sum:=by
   intro l;induction l with
   | nil=>intro h;cases h
   | cons a l ih=>
    intro h;refine aa (YE) (aa (List.sum_cons) ?_);rcases Xk.mp h with rfl | h
    ·exact mt
    ·have:=ih h;exact Es this
  have:=this _ h;exact Et hl sl this
 have hj:=Tt (eD (aZ ds).1) ((aZ ds).2.map eD) (by show((aZ ds).1.map tx).length<=100;rw[W7];exact Eu hl sl) (by rw[W7];exact Ew hl sl) (CI ds) (by
  intro s h;refine af (Yp.mp h) λq hq zr2=>aS zr2 ?_;have h8:=hs q hq;have:=tb q λd hd=>m2 q hq d hd;refine⟨by show(q.map tx).length<=100;rw[W7];exact Ex h8,by exact Ey h8 this⟩) (by
  rw[<-CG];have h1:=vD (cZ (aZ ds));have h2:=vq (aZ ds).2;have h3:(cZ (aZ ds)).length<=40:=by
   unfold cZ;rw[Om,W7];exact Ez hl sl h2
  exact EA h1 h3)
 rw[<-Th,<-CG]at hj;exact m6 S F.parts.2 (λh=>absurd rfl h) hj
theorem Dg(F:gz prog K mg)(hm:3<=m)(ds:List Nat)(hd:∀d∈ds,d<20)(hl:ds.length<=8):i8 prog w K (m+3) 153 [.str (pat ds),.op 0,.str [46]] (.lst ((bY ds).map aM)):=by
 have O:=r8 (w:=w) F hm;exact aw (iG F (XU hm) O) λS1 S2=>TS S1 S2 F.tr.2 (ah (152,148) ⟨by simp[cz],by decide⟩ F.trC) ds hd hl
theorem Vd(F:gz prog K mg)(hm:3<=m)(ds:List Nat)(hd:∀d∈ds,d<20)(hl:ds.length<=8):i8 prog w K (m+4) 134 [.str (pat ds)] (.str (dQ (bL (cZ (aZ ds))))):=by
 have O:dh prog w K mg (TX (pat ds) ((bY ds).map aM) (dQ (bL (cZ (aZ ds))))) (m+3):=by
  refine C7 ((r8 (w:=w) F hm).mono (by exact Er)) λe he X hX=>?_;simp only[Xk,Xw,or_false]at he;rcases he with rfl | rfl
  ·exact(ah 153 (F.tr.fn hX) (Dg F hm ds hd hl))
  ·exact(ah 160 (F.parts.fn hX) ((Vc F hm ds hd hl).mono (by lia)))
 exact U9 O (iG F (by lia) O).2 F.trans.2 F.object
noncomputable def TL(ds:List Nat):bh:=ik TQ [(iT,[.str (pat ds),.op 0,.str [46]],.lst ((bY ds).map aM)),(kO,[.str (pat ds)],.str (dQ (bL (cZ (aZ ds)))))]
theorem Dh(F:gz prog K mg)(hm:3<=m)(ds:List Nat)(hd:∀d∈ds,d<20)(hl:ds.length<=8):dh prog w K mg (TL ds) (m+4):=by
 refine C7 (Vb (w:=w) F hm) λe he X hX=>?_;simp only[Xk,Xw,or_false]at he;rcases he with rfl | rfl
 ·exact(ah 153 (F.tr.fn hX) ((Dg F hm ds hd hl).mono (by exact GU)))
 ·exact(ah 134 (F.trans.fn hX) (Vd F hm ds hd hl))
theorem Ve(ds:List Nat):(TL ds).fn iT [.str (pat ds),.op 0,.str [46]]=some (.lst ((bY ds).map aM)):=rU
theorem Vf(ds:List Nat):(TL ds).fn kO [.str (pat ds)]=some (.str (dQ (bL (cZ (aZ ds))))):=(rV (by decide)).trans rU
theorem se(ds:List Nat){f:List Nat}{vs:List AV}(h1:ax f iT=false)(h2:ax f kO=false):(TL ds).fn f vs=TQ.fn f vs:=(rV h1).trans (rV h2)
theorem Vg(vs:List AV):TQ.fn jW vs=bJ T1 0 [] 100 (am 19) vs:=by rfl'
theorem Vh(vs:List AV):TQ.fn kM vs=bJ T0 0 [] 200 (am 20) vs:=by rfl'
theorem Vi(vs:List AV):TQ.fn jX vs=bJ T0 0 [] 200 (am 21) vs:=by rfl'
theorem Vj(vs:List AV):TQ.fn kN vs=bJ T2 0 [oZ] 200 (am 25) vs:=by rfl'
theorem Vk(xs:List Int)(ds:List Nat):(TL ds).fn jW [.lst (xs.map AV.int)]=some (.tup [.lst ((drawn xs).map λd=>(kd d).av),.str (pf xs)]):=(se ds (by decide) (by decide)).trans ((Vg _).trans (Cc xs).2.2.2.2)
theorem Vl(ds ds' y:List Nat)(hd:∀d∈ds',d<20)(hy:y.length<=50):(TL ds).fn kM [.lst (ds'.map λd=>(kd d).av),.str y]=some (aP (fY ds' y)):=(se ds (by decide) (by decide)).trans ((Vh _).trans (Oa ds' y hd hy))
theorem Vm(ds:List Nat)(d:Nat)(h2:2<=d)(h:d<20):(TL ds).fn jX [.str (tx d),.str []]=some (db d false):=(se ds (by decide) (by decide)).trans ((Vi _).trans (Yc (tx d)▸A8 d [] h2 h))
theorem Vn(ds ds' y:List Nat){z:Int}(hz:0<=z/\z<=4)(hd:∀d∈ds',d<20)(hl:ds'.length<=8)(hy:y.length<=6)(hs:∀c∈y,c∈gO):(TL ds).fn kN [.str (bL (cZ (aZ ds'))),.str y,.int z]=some (aP (fY ds' y)):=(se ds (by decide) (by decide)).trans ((Vj _).trans (QV hz hd hl hy hs))
section
variable{xs:List Int}{ds y t:List Nat}{M:List Bool}
theorem Vo:pargs 9 (cL T) (kj xs ds y t M) [] (bx p8)=some ([.val (.lst ((bY ds).map aM)),.val (.op 0),.val (.str y)],[]):=by rfl'
noncomputable abbrev Vp:Expr:=.Call (.Name (bO (aJ s8)) (bQ (aJ s8))) [.ListComp (.BinOp (aI (bw c8)) .Pow (bj (bw c8)) (bl (bw c8))) [⟨fh c8,fj c8,[.Subscript (cY f8) (dj f8) (eH f8)],0⟩] (fk c8) (fm c8)] [] (bB s8)
theorem Vq(n:Nat)(hM:M.length<=100):pe (n+39) (cL T) (kj xs ds y t M) [] Vp=some (.val (.int (.ofNat (bX M))),[]):=by
 have hsum:=vF M 0;rw[Nat.pow_zero,Nat.one_mul]at hsum;refine nt (σ1:=[]) (vs:=[.val (.lst (((Xr M.length).filter λk=>M.getD k false).map λk=>AV.int (.ofNat (2 ^ (k+0)))))]) (by rfl') (by rfl') (by rfl') ?_ (by (refine aa R4 ?_);exact rt hsum);have hc:∀m,pe (m+20) (cL T) (kj xs ds y t M) [] (.ListComp (.BinOp (aI (bw c8)) .Pow (bj (bw c8)) (bl (bw c8))) [⟨fh c8,fj c8,[.Subscript (cY f8) (dj f8) (eH f8)],0⟩] (fk c8) (fm c8))=some (.val (.lst (((Xr M.length).filter λk=>M.getD k false).map λk=>AV.int (.ofNat (2 ^ (k+0))))),[]):=λm=>by
  refine fo (it:=.rng 0 (.ofNat (M.map AV.bool).length) 1) (ts:=(Xr M.length).map λi=>AV.int (.ofNat i)) (ρ0:=[(aa0,.val (aP M))]) (by rfl') (by rfl') (by rw[W7];exact l7 (by exact pD hM)) (by rfl') ?_;refine oH (h:=λk=>AV.int (.ofNat (2 ^ (k+0)))) (t:=λk=>M.getD k false) (by rfl') λk hk=>(de ([(aa0,.val (aP M)),([107],.val (.int (.ofNat k)))]) (by rfl') (Cd (fG (a:=aP M) (x:=.int (.ofNat k)) trivial (by rfl') (by rfl') (qO (u8 (Ye.mp hk)))) rfl) (λ_=>eJ (a:=.int (.ofNat 2)) (b:=.int (.ofNat k)) (by rfl') (by rfl') (vG (by have:=Ye.mp hk;exact DF hM this))))
 have h2:=hc (n+17)
 conv=>lhs;unfold pargs
 dsimp only;refine aa h2 ?_;rfl
noncomputable def pA(xs:List Int)(ds y:List Nat):ai:=[(aan,.val (.lst (xs.map AV.int))),(aat,.val (.lst (ds.map λd=>(kd d).av))),(aam,.val (.str y)),(aaB,.val (.str (pat ds)))]
theorem Vr:pex 20 (cL T) (pA xs ds y) [] (au 26 2)=some (.next,pA xs ds y++[(aaz,.val (.lst [.str aaz]))],[]):=by rfl'
end
theorem Di:∀xs:List Int,fE (λ_=>false) (xs.map AV.int)=true
 | []=>rfl
 | _::xs=>by show(true&&fE _ (xs.map AV.int))=true;(refine aa (Di xs) ?_);rfl
theorem Vt(k:k8):jC (λ_=>false) k.av=true:=by
 have:∀l:List (Nat×Nat),fE (λ_=>false) (l.map λq=>AV.tup [.str [q.1],.str [q.2]])=true:=by
  intro l;induction l with
  | nil=>rfl
  | cons q l ih=>show(true&&fE _ (l.map _))=true;rw[ih];rfl
 show(true&&(true&&(fE _ (k.rngs.map λq=>AV.tup [.str [q.1],.str [q.2]])&&true)))=true;rw[this];rfl
theorem Dj:∀ds:List Nat,fE (λ_=>false) (ds.map λd=>(kd d).av)=true
 | []=>rfl
 | d::ds=>by show(jC _ (kd d).av&&fE _ (ds.map λd=>(kd d).av))=true;simp only[Vt,Dj ds];rfl
noncomputable def pB:List Nat:=aaz
theorem Vu{xs:List Int}{ds y:List Nat}(I:ak K c env (pA xs ds y++[(pB,.val (.lst [.str aaz]))]) [] s):∃θ',ak K {c with θ:=θ'} env (pA xs ds y++[(pB,.val (.op 0))]) [] s:=by
 have hc:=ij I;refine af (I.env.vars (⟨⟨pB⟩⟩:Str) (.val (.lst [.str aaz])) (by rfl')) λv0 hv0 r0=>dd r0 λa0 vs0 n0 zr3 zz=>?_;subst zr3;refine⟨λ_=>.ref a0,I.base,⟨I.cfg.sub,I.cfg.nodup,I.cfg.low,I.cfg.live,λ_=>⟨_,rfl⟩⟩,⟨I.env.kind,I.env.globals,I.env.builtins,λX t ht=>?_,I.env.ns,I.env.cell,I.env.apart,I.env.low,I.env.fr⟩,?_,I.tk⟩
 ·have old:∀{t:PV},aB (pA xs ds y++[(pB,.val (.lst [.str aaz]))]) (nm X)=some t->mV (λ_=>false) t=true->∃v,n6 env s.heap X v/\bN {c with θ:=λ_=>.ref a0} s.heap t v:=λ{t} e k=>by
   exact af (I.env.vars X t e) λv h1 h2=>(ah v h1 (bN.conv (f:=λ_=>false) (c:=c) (c':={c with θ:=λ_=>.ref a0}) (λ_ h=>by cases h) (λ_ _ _ h=>h) (λ_ _ h=>h) k h2))
  refine fA ht (λq ht=>?_) λht=>fA ht (λq ht=>?_) λht=>fA ht (λq ht=>?_) λht=>fA ht (λq ht=>?_) λht=>fA ht (λq ht=>?_) λht=>aT ht
  ·cases ht;exact old (by rw[<-aW.mp q];rfl') (Di xs)
  ·cases ht;exact old (by rw[<-aW.mp q];rfl') (Dj ds)
  ·cases ht;exact old (by rw[<-aW.mp q];rfl') rfl
  ·cases ht;exact old (by rw[<-aW.mp q];rfl') rfl
  ·cases ht;have e:X=⟨⟨pB⟩⟩:=cF (aW.mp q).symm;clear old;exact aa e ((ah _ hv0 (rW rfl)))
 ·show b8 _ s.heap c.cells [];refine aa (hc) ?_;trivial
theorem Vv(F:gz prog K mg)(F':gz prog (Kn K) mg)(h193:K.lookup 193≠none)(xs:List Int){us:List W2}(B:aC K s.heap)(C:bW c s.heap)(hr:aq c s.heap [.lst (xs.map AV.int)] us)(tk:1<=s.toks)(R:az 9 A) :
  Xf (Xe prog w) A (call (.ref 220) us) (λv s'=>v=.bool true/\ae aG s s'/\aC (Kn K) s'.heap) nr s:=by
 refine km (Cc xs) λd1 d2 d3 d4 zz=>?_;generalize hds:drawn xs=ds at d1 d2;generalize hyy:pf xs=y at d3 d4;have O:=(Dh (w:=w) (m:=3) F (Xs _) ds d1 d2).mono (m':=8) (by exact wO);have O':=(Dh (w:=w) (m:=3) F' (Xs _) ds d1 d2).mono (m':=8) (by exact wO);refine aw (iG F (by exact wP) O) λall allP=>aw (iG F' (by exact wP) O') λall' allP'=>?_;have On':dh prog w (Kn K) mg Tn 5:=r6 F';refine aw (iG F' (by exact wQ) On') λalln' allPn'=>aw (iG (m:=5) (w:=w) F (by exact wQ) (r6 F)) λzz allPn=>aw (iG F' (by exact Gi) (Df (w:=w) (m:=3) F' (Xs _))) λzz allP1'=>iI F.law λo fd e1 e2 e3 D e4 e5=>ou (m:=8) D e1 e2 e3 B C hr (by (refine aa e4 ?_);rfl) tk R λcN s1 hθ hcells hex hle X I nw A1 R1=>?_;generalize henv:Xz fd s.heap.objs.size 220=env at I nw;have hsc:env.scope=aF (am 26):=by (refine aS henv ?_);exact e5
 have hs:aQ (cL (TL ds)) env:=⟨hsc.symm,λh=>absurd rfl h⟩;have I0:ak K cN env [(aan,.val (.lst (xs.map AV.int)))] [] s1:=by
  have e:fg fd.params.args ([AV.lst (xs.map AV.int)].map PV.val)=[(aan,.val (.lst (xs.map AV.int)))]:=by (refine aa e4 ?_);rfl'
  rw[e]at I;exact I
 have hdraw:(TL ds).fn jW [.lst (xs.map AV.int)]=some (.tup [.lst (ds.map λd=>(kd d).av),.str y]):=by rw[Vk,hds,hyy]
 have hM:(fY ds y).length<=100:=by rw[rf];exact Gj d3
 refine aa (R9) (iz (allP 20).pex (x:=cL (TL ds)) rfl hs (RA 0 hdraw) I0 R1 λc1 s2 G1 X1 I1=>iz (allP 30).pex (x:=cL (TL ds)) rfl hs (RD 0 d1 d2) I1 R1 λc2 s3 G2 X2 I2=>iz (allP 20).pex (x:=cL (TL ds)) rfl hs Vr I2 R1 λc3 s4 G3 X3 I3=>al (Vu I3) λθ' I3'=>iz (allP 20).pex (x:=cL (TL ds)) rfl hs (RG 0 (Ve ds)) I3' R1 λc4 s5 G4 X4 I4=>iz (allP 20).pex (x:=cL (TL ds)) rfl hs (RJ 0 (Vf ds)) I4 R1 λc5 s6 G5 X5 I5=>iz (allP 20).pex (x:=cL (TL ds)) rfl hs (RM 0 (Vl ds ds y d1 (by exact Gk d3))) I5 R1 λc6 s7 G6 X6 I6=>iz (allP 20).pex (x:=cL (TL ds)) rfl hs (RQ 0) I6 R1 λc7 s8 G7 X7 I7=>iz (allP 40).pex (x:=cL (TL ds)) rfl hs (RV 0 (Vm ds) d1) I7 R1 λc8 s9 G8 X8 I8=>?_);have toD:∀{c0:aj}{x:Addr},c0.cells=[]->XS c0 env x->XD s x:=λhc h=>j8 (λy hy=>by rw[hc]at hy;cases hy) nw h;have X09:ae (XD s) s s9:=(((((((X.x0.trans (X1.weaken λ_=>toD hcells)).trans (X2.weaken λ_=>toD (ij I1))).trans (X3.weaken λ_=>toD (ij I2))).trans (X4.weaken λ_=>toD (ij I3'))).trans (X5.weaken λ_=>toD (ij I4))).trans (X6.weaken λ_=>toD (ij I5))).trans (X7.weaken λ_=>toD (ij I6))).trans (X8.weaken λ_=>toD (ij I7));have eX:bO (aJ p8)=(⟨⟨mI⟩⟩:Str):=cF RZ;refine aa (RY) (Yw (wpAny_If (wpAny_isTrue_Compare1 ?_ (by rfl'))));refine aa (eX) ?_;have hk:env.kindOf (⟨⟨mI⟩⟩:Str)=some .globalImplicit:=by show env.scope.names.lookup _=_;rw[hsc];rfl'
 refine El (Xx I8.env.kind hk (YX (iw O I8) F.places.1 ?_) (by decide));refine io F.places.2 λop fp p1 p2 p3 zz=>?_;have ha8:=Vo (T:=TL ds) (xs:=xs) (ds:=ds) (y:=y) (t:=bL (cZ (aZ ds))) (M:=fY ds y);refine callWith_function (o:=op) (fd:=fp) (iy (qn ha8 _) (KE ((all 9).pargs (x:=cL (TL ds)) rfl hs ha8 I8 R1) (λus s10 zq0=>da zq0 λX10 I10 r10=>⟨⟨I10.base.stat _ _ p1 p3,p2⟩,?_⟩) no));have hmgd:∀d∈bY ds,d<20:=λd hd=>(Ci d1 d hd).1;refine KE (Ys I10.tk (Ux (m:=5) F.acc.code h193 On' alln' allPn allPn' allP1' F.red F.missing F.iter F.reduce F.places.2 F.placesC (by exact wR d3) d4 hmgd I10.base I10.cfg (r10.vals rfl) I10.tk R1)) (λv s11 ⟨tk11,X11,B11,t11,e11⟩=>?_) λ_ _ f=>f.2.elim;refine aa e11 ?_;have I11:=I10.weak.tab X11 B11 tk11;refine KE ((all' 39).pe (x:=cL (TL ds)) rfl hs (Vq 0 hM) I11 R1) (λv2 s12 zq1=>da zq1 λX12 I12 r12=>?_) no;have eb:bX ((bY ds).foldl (bu y) (fu y))=bX (fY ds y):=by rw[Rg (by exact wR d3)]
 have r11:ao c8 s12.heap (.int (.ofNat (bX (fY ds y)))) (.int (.ofNat (bX ((bY ds).foldl (bu y) (fu y)))) t11):=⟨t11,by rw[eb]⟩;refine mO (op:=.NotEq) (ri _) r11 r12 R1 I12.cfg _ _ (Zi ?_);refine aa (if_neg Y1) (ZW ?_);have hz:0<=xs.sum.fmod 5/\xs.sum.fmod 5<=4:=by
  have h1:=Int.fmod_nonneg_of_pos xs.sum (show(0:Int)<5 by decide);have h2:=Int.fmod_lt_of_pos xs.sum (show(0:Int)<5 by decide);exact Gl h1 h2
 have h9:=i9 (r:=[]) (R8 (T:=TL ds) (ds:=ds) (y:=y) (t:=bL (cZ (aZ ds))) (M:=fY ds y) (xs:=xs) 0 (Vn ds ds y hz d1 d2 d3 d4));refine KE ((allP' 41).pst (x:=cL (TL ds)) rfl hs h9 I12 R1) (λf s13 q=>?_) no;refine pC q λc13 G13 X13 I13 v zr5 rv=>aa zr5 (dH v rfl rv ?_ I13.base);have hc8:=ij I8;exact((((X09.trans (X10.weaken λ_ h=>toD hc8 (.inl h))).trans (X11.weaken λ_ h=>.inl h)).trans (X12.weaken λ_ h=>toD hc8 (.inl h))).trans (X13.weaken λ_=>toD hc8)).undead
theorem Dk(h:Heap)(a:Addr):∀(l:List Nat),(l.filterMap λa=>(h.get? a).map λo=>(a,o)).lookup a=if a∈l then h.get? a else none
 | []=>by rfl
 | b::l=>by
  have ih:=Dk h a l;refine aa (List.filterMap_cons) ?_;cases hb:h.get? b with
  | none=>
   simp only[Option.map_none];refine aa ih ?_;by_cases e:a=b
   ·refine aa e (aa (hb) ?_);split<;>split<;>rfl
   ·have:(a∈b::l)↔a∈l:=by simp[e]
    simp only[this]
  | some o=>
   simp only[Option.map_some,Yy];by_cases e:a=b
   ·refine aa e ?_;rw[beq_self_eq_true,hb];simp
   ·refine aa (beq_eq_false_iff_ne.mpr e) ?_;simp only;refine aa ih ?_;have:(a∈b::l)↔a∈l:=by simp[e]
    simp only[this]
theorem Dl(h:Heap)(a:Addr):(em h).lookup a=if a<221 then h.get? a else none:=by
 have:=Dk h a (Xr 221);refine aa (show(em h).lookup a=_ from this) ?_;simp only[Ye]
theorem sf{v:W2}{z:Str×Tok}(h:mK v=some z):v=.str z.1 z.2:=bS (P:=λ(z:Str×Tok)=>v=.str z.1 z.2) h
theorem dR{prog:Y3}{N:Frag}{a cd:Addr}{st:Stmt}{cl:List (Str×Addr)}{dv:W2}{dflt:W2->Prop}(h:bZ prog N a=b0 st cl dv cd)(hd:dflt dv):dD prog N a st cl dflt/\iA N a cd:=by
 refine ab h λo ho h=>ab h λfd hfd h=>ab h λc hc h=>ab h λoc hoc h=>ab h λvs hvs h=>ab h λq1 hq1 h=>ab h λq hq h=>ab h λf1 hf1 h=>ab h λf hf h=>aw (Xv (W9 h)) λa1 h=>aw (Xv h) λa2 h=>aw (Xv h) λa3 h=>aw (Xv h) λa4 h=>aw (Xv h) λa5 h=>aw (Xv h) λa6 h=>aw (Xv h) λa7 h=>aw (Xv h) λa8 h=>aw (Xv h) λa9 a10=>?_;have ec:c=cd:=Value.ref.inj ((bS (P:=λa=>fd.code=.ref a) hc).symm.trans a9);have g:=W8.mp a10;have ef:=bS (P:=λx=>o.data=.func x) hfd;exact⟨⟨o,fd,cd,oc,vs,q.2,f.1,f.2,ho,a1,ef,a2,a3,a4,a5,a6,a7,a8.symm▸hd,a9,ec▸hoc,bS (P:=λx=>oc.data=.fields x) hvs,hq1.trans (congrArg some ((sf hq).trans (congrArg (Value.str · q.2) (cF (aW.mp g.1))))),hf1.trans (congrArg some (sf hf)),g.2⟩,o,fd,ho,ef,a9⟩
theorem wc{N:Frag}{d:Addr}(h:qc N d=some 1):fQ N d (.ref d):=
 ab h λo ho h=>ab h λxs hx h=>al (bS (P:=λx=>∃n,o.data=.seq x n) hx) λn e=>al (Array.size_eq_one_iff.mp (W9 h)) λx ex=>⟨rfl,o.cls,o.dict,x,n,o.slots,by rw[ho,<-ex,<-e]⟩
theorem Vw{v:Option (Option W2)}(h:tF v=some []):∃t,v=some (some (.str ⟨⟨[]⟩⟩ t)):=
 ab h λu hu h=>ab h λy hy h=>ab h λz hz h=>⟨z.2,by rw[hu,hy,sf hz,show z.1=⟨⟨[]⟩⟩ from cF (W9 h)]⟩
theorem Vx{N:Frag}{a:Addr}{c:W2}{d:Option Addr}(h:tG N a=some (c,d)):∃o,N.lookup a=some o/\o.cls=c/\o.dict=d/\o.data=.plain:=
 ab h λo ho h=>ab h λ_ hp h=>aw (Xv (W9 h)) λe1 e2=>(dH o ho e1 e2 (bS (P:=λ(_:Unit)=>o.data=.plain) hp))
theorem Vy{N:Frag}{a:Addr}{v:W2}(h:tH N a=some v):∃o,N.lookup a=some o/\o.data=.cell (some v):=
 ab h λo ho h=>ab h λ_ hp h=>(ah o ho (h▸bS (P:=λx=>o.data=.cell x) hp))
theorem Vz{e:ZS}(h:tI e=true):∃k,ZB k e.key=true/\e.hash=hashInt k:=by
 unfold tI at h;cases q:x8 e.key with
 | none=>rw[q]at h;exact eE h
 | some k=>rw[q]at h;exact al (bS (P:=λk=>∃t,e.key=.int k t) q) λt e1=>(ah k (by rw[e1];simp[ZB]) (of_decide_eq_true h))
theorem Dm{es:Array ZS}{n:Nat}(h:n5 es n=none):findBy ZB es (.ofNat n)=none:=by
 unfold n5 at h;cases q:findBy ZB es (.ofNat n) with
 | none=>rfl
 | some v=>rw[q]at h;exact DE h
theorem wd{es:Array ZS}{n x:Nat}{y:List Nat}(h:n5 es n=some (x::y)):∃t,findBy ZB es (.ofNat n)=some (.str ⟨⟨x::y⟩⟩ t):=
 ab h λv hv h=>by
  have h:=W9 h;cases q:mK v with
  | none=>rw[q]at h;exact nomatch h
  | some z=>rw[q]at h;exact⟨z.2,by rw[hv,sf q,show z.1=⟨⟨x::y⟩⟩ from cF h]⟩
theorem VA{N:Frag}(h:tJ N=true):∃o es ep,N.lookup Xj=some o/\o.data=.dict es ep:=
 al (Zd.mp h) λ_ h=>ab h λo ho h=>ab h λes hd _=>al (bS (P:=λx=>∃p,o.data=.dict x p) hd) λp e=>(lA o es p ho e)
section
variable{N:Frag}
theorem VB(h:aX prog K N=aY):bZ prog N 55=b0 (bc 0) [(("__class__":Str),42)] (.ref 47) 54:=congrArg (λr:be=>r.1.getD 0 none) h
theorem VC(h:aX prog K N=aY):bZ prog N 62=b0 (bc 1) [] .none 61:=congrArg (λr:be=>r.1.getD 1 none) h
theorem VD(h:aX prog K N=aY):bZ prog N 70=b0 (bc 2) [] (.ref 63) 69:=congrArg (λr:be=>r.1.getD 2 none) h
theorem VE(h:aX prog K N=aY):bZ prog N 78=b0 (bc 3) [(("__class__":Str),42)] .none 77:=congrArg (λr:be=>r.1.getD 3 none) h
theorem Dn(h:aX prog K N=aY):bZ prog N 85=b0 (bc 4) [] .none 84:=congrArg (λr:be=>r.1.getD 4 none) h
theorem Do(h:aX prog K N=aY):bZ prog N 92=b0 (bc 5) [] .none 91:=congrArg (λr:be=>r.1.getD 5 none) h
theorem VF(h:aX prog K N=aY):bZ prog N 115=b0 (bc 8) [(("__class__":Str),42)] .none 114:=congrArg (λr:be=>r.1.getD 6 none) h
theorem VG(h:aX prog K N=aY):bZ prog N 134=b0 (am 7) [] .none 133:=congrArg (λr:be=>r.1.getD 7 none) h
theorem VH(h:aX prog K N=aY):bZ prog N 146=b0 (am 10) [] .none 145:=congrArg (λr:be=>r.1.getD 8 none) h
theorem Dp(h:aX prog K N=aY):bZ prog N 153=b0 (am 12) [] .none 152:=congrArg (λr:be=>r.1.getD 9 none) h
theorem VI(h:aX prog K N=aY):bZ prog N 160=b0 (am 13) [] .none 159:=congrArg (λr:be=>r.1.getD 10 none) h
theorem VJ(h:aX prog K N=aY):bZ prog N 169=b0 (am 16) [] (.ref 162) 168:=congrArg (λr:be=>r.1.getD 11 none) h
theorem VK(h:aX prog K N=aY):bZ prog N 174=b0 (am 18) [] .none 173:=congrArg (λr:be=>r.1.getD 12 none) h
theorem VL(h:aX prog K N=aY):bZ prog N 179=b0 (am 19) [] .none 178:=congrArg (λr:be=>r.1.getD 13 none) h
theorem VM(h:aX prog K N=aY):bZ prog N 184=b0 (am 20) [] .none 183:=congrArg (λr:be=>r.1.getD 14 none) h
theorem VN(h:aX prog K N=aY):bZ prog N 191=b0 (am 21) [] .none 190:=congrArg (λr:be=>r.1.getD 15 none) h
theorem Dq(h:aX prog K N=aY):bZ prog N 198=b0 (am 22) [] .none 197:=congrArg (λr:be=>r.1.getD 16 none) h
theorem VO(h:aX prog K N=aY):bZ prog N 203=b0 (am 23) [] .none 202:=congrArg (λr:be=>r.1.getD 17 none) h
theorem VP(h:aX prog K N=aY):bZ prog N 210=b0 (am 24) [] .none 209:=congrArg (λr:be=>r.1.getD 18 none) h
theorem VQ(h:aX prog K N=aY):bZ prog N 215=b0 (am 25) [] .none 214:=congrArg (λr:be=>r.1.getD 19 none) h
theorem VR(h:aX prog K N=aY):bZ prog N 220=b0 (am 26) [] .none 219:=congrArg (λr:be=>r.1.getD 20 none) h
theorem VS:eO (am 7):=qH (by rfl') λfd u=>by rfl'
theorem VT:fF (am 7)=true:=by rfl'
theorem VU(e:Kn K=N){K0:Frag}(h:aX prog K0 N=aY):dE K 134 (am 7):=hJ (prog:=prog) (by rw[e];exact(dR (dflt:=cA) (VG h) rfl).1) VT VS
theorem VV:eO (am 10):=qH (by rfl') λfd u=>by rfl'
theorem VW:fF (am 10)=true:=by rfl'
theorem VX(e:Kn K=N){K0:Frag}(h:aX prog K0 N=aY):dE K 146 (am 10):=hJ (prog:=prog) (by rw[e];exact(dR (dflt:=cA) (VH h) rfl).1) VW VV
theorem VY:eO (am 12):=qI (by rfl') λfd u v x=>by rfl'
theorem VZ:fF (am 12)=true:=by rfl'
theorem V0(e:Kn K=N){K0:Frag}(h:aX prog K0 N=aY):dE K 153 (am 12):=hJ (prog:=prog) (by rw[e];exact(dR (dflt:=cA) (Dp h) rfl).1) VZ VY
theorem V1:eO (am 13):=oD (by rfl') λfd u v=>by rfl'
theorem V2:fF (am 13)=true:=by rfl'
theorem V3(e:Kn K=N){K0:Frag}(h:aX prog K0 N=aY):dE K 160 (am 13):=hJ (prog:=prog) (by rw[e];exact(dR (dflt:=cA) (VI h) rfl).1) V2 V1
theorem V4:eO (am 18):=Ni (by rfl') λfd=>by rfl'
theorem V5:fF (am 18)=true:=by rfl'
theorem V6(e:Kn K=N){K0:Frag}(h:aX prog K0 N=aY):dE K 174 (am 18):=hJ (prog:=prog) (by rw[e];exact(dR (dflt:=cA) (VK h) rfl).1) V5 V4
theorem V7:eO (am 19):=qH (by rfl') λfd u=>by rfl'
theorem V8:fF (am 19)=true:=by rfl'
theorem V9(e:Kn K=N){K0:Frag}(h:aX prog K0 N=aY):dE K 179 (am 19):=hJ (prog:=prog) (by rw[e];exact(dR (dflt:=cA) (VL h) rfl).1) V8 V7
theorem Wa:eO (am 20):=oD (by rfl') λfd u v=>by rfl'
theorem Wb:fF (am 20)=true:=by rfl'
theorem Wc(e:Kn K=N){K0:Frag}(h:aX prog K0 N=aY):dE K 184 (am 20):=hJ (prog:=prog) (by rw[e];exact(dR (dflt:=cA) (VM h) rfl).1) Wb Wa
theorem Wd:eO (am 21):=oD (by rfl') λfd u v=>by rfl'
theorem We:fF (am 21)=true:=by rfl'
theorem Wf(e:Kn K=N){K0:Frag}(h:aX prog K0 N=aY):dE K 191 (am 21):=hJ (prog:=prog) (by rw[e];exact(dR (dflt:=cA) (VN h) rfl).1) We Wd
theorem Wg:eO (am 22):=qI (by rfl') λfd u v x=>by rfl'
theorem Wh:fF (am 22)=true:=by rfl'
theorem Wi(e:Kn K=N){K0:Frag}(h:aX prog K0 N=aY):dE K 198 (am 22):=hJ (prog:=prog) (by rw[e];exact(dR (dflt:=cA) (Dq h) rfl).1) Wh Wg
theorem Wj:eO (am 23):=oD (by rfl') λfd u v=>by rfl'
theorem Wk:fF (am 23)=true:=by rfl'
theorem Wl(e:Kn K=N){K0:Frag}(h:aX prog K0 N=aY):dE K 203 (am 23):=hJ (prog:=prog) (by rw[e];exact(dR (dflt:=cA) (VO h) rfl).1) Wk Wj
theorem Wm:eO (am 24):=oD (by rfl') λfd u v=>by rfl'
theorem Wn:fF (am 24)=true:=by rfl'
theorem Wo(e:Kn K=N){K0:Frag}(h:aX prog K0 N=aY):dE K 210 (am 24):=hJ (prog:=prog) (by rw[e];exact(dR (dflt:=cA) (VP h) rfl).1) Wn Wm
theorem Wp:eO (am 25):=qI (by rfl') λfd u v x=>by rfl'
theorem Wq:fF (am 25)=true:=by rfl'
theorem Wr(e:Kn K=N){K0:Frag}(h:aX prog K0 N=aY):dE K 215 (am 25):=hJ (prog:=prog) (by rw[e];exact(dR (dflt:=cA) (VQ h) rfl).1) Wq Wp
theorem Ws:eO (am 26):=qH (by rfl') λfd u=>by rfl'
theorem Wt:fF (am 26)=true:=by rfl'
theorem Wu(e:Kn K=N){K0:Frag}(h:aX prog K0 N=aY):dE K 220 (am 26):=hJ (prog:=prog) (by rw[e];exact(dR (dflt:=cA) (VR h) rfl).1) Wt Ws
theorem Wv(h:aX prog K N=aY):nsIn N Xj (⟨⟨kL⟩⟩:Str)=some (some (.ref aN)):=congrArg (λr:be=>r.2.1.getD 19 none) h
theorem Ww(h:aX prog K N=aY):nsIn N Xj (⟨⟨kO⟩⟩:Str)=some (some (.ref 134)):=congrArg (λr:be=>r.2.1.getD 20 none) h
theorem Wx(h:aX prog K N=aY):nsIn N Xj (⟨⟨pZ⟩⟩:Str)=some (some (.ref 146)):=congrArg (λr:be=>r.2.1.getD 21 none) h
theorem Wy(h:aX prog K N=aY):nsIn N Xj (⟨⟨iT⟩⟩:Str)=some (some (.ref 153)):=congrArg (λr:be=>r.2.1.getD 22 none) h
theorem Wz(h:aX prog K N=aY):nsIn N Xj (⟨⟨mJ⟩⟩:Str)=some (some (.ref 160)):=congrArg (λr:be=>r.2.1.getD 23 none) h
theorem WA(h:aX prog K N=aY):nsIn N Xj (⟨⟨qa⟩⟩:Str)=some (some (.ref 174)):=congrArg (λr:be=>r.2.1.getD 24 none) h
theorem WB(h:aX prog K N=aY):nsIn N Xj (⟨⟨jW⟩⟩:Str)=some (some (.ref 179)):=congrArg (λr:be=>r.2.1.getD 25 none) h
theorem WC(h:aX prog K N=aY):nsIn N Xj (⟨⟨kM⟩⟩:Str)=some (some (.ref 184)):=congrArg (λr:be=>r.2.1.getD 26 none) h
theorem WD(h:aX prog K N=aY):nsIn N Xj (⟨⟨jX⟩⟩:Str)=some (some (.ref 191)):=congrArg (λr:be=>r.2.1.getD 27 none) h
theorem WE(h:aX prog K N=aY):nsIn N Xj (⟨⟨mI⟩⟩:Str)=some (some (.ref 198)):=congrArg (λr:be=>r.2.1.getD 28 none) h
theorem WF(h:aX prog K N=aY):nsIn N Xj (⟨⟨n3⟩⟩:Str)=some (some (.ref 203)):=congrArg (λr:be=>r.2.1.getD 29 none) h
theorem WG(h:aX prog K N=aY):nsIn N Xj (⟨⟨n4⟩⟩:Str)=some (some (.ref 210)):=congrArg (λr:be=>r.2.1.getD 30 none) h
theorem WH(h:aX prog K N=aY):nsIn N Xj (⟨⟨kN⟩⟩:Str)=some (some (.ref 215)):=congrArg (λr:be=>r.2.1.getD 31 none) h
theorem WI(h:aX prog K N=aY):nsIn N Xj (⟨⟨kE⟩⟩:Str)=some (some (.ref 127)):=congrArg (λr:be=>r.2.1.getD 32 none) h
theorem WJ(h:aX prog K N=aY):nsIn N Xj "_initial_missing"=some (some (.ref 161)):=congrArg (λr:be=>r.2.1.getD 33 none) h
theorem WK(h:aX prog K N=aY):nsIn N Xj "reduce"=some (some (.ref 169)):=congrArg (λr:be=>r.2.1.getD 34 none) h
theorem WL(h:aX prog K N=aY):nsIn N Xj "_special_chars_map"=some (some (.ref 136)):=congrArg (λr:be=>r.2.1.getD 35 none) h
theorem WM(h:aX prog K N=aY):nsIn N Xj "__builtins__"=some (some (.ref 4)):=congrArg (λr:be=>r.2.1.getD 36 none) h
theorem WN(h:aX prog K N=aY):nsIn N Xj "super"=some none:=congrArg (λr:be=>r.2.1.getD 37 none) h
theorem WO(h:aX prog K N=aY):nsIn N Xj "len"=some none:=congrArg (λr:be=>r.2.1.getD 38 none) h
theorem WP(h:aX prog K N=aY):nsIn N Xj "range"=some none:=congrArg (λr:be=>r.2.1.getD 39 none) h
theorem WQ(h:aX prog K N=aY):nsIn N Xj "sum"=some none:=congrArg (λr:be=>r.2.1.getD 40 none) h
theorem Dr(h:aX prog K N=aY):nsIn N Xj "str"=some none:=congrArg (λr:be=>r.2.1.getD 41 none) h
theorem WR(h:aX prog K N=aY):nsIn N Xj "iter"=some none:=congrArg (λr:be=>r.2.1.getD 42 none) h
theorem WS(h:aX prog K N=aY):nsIn N Xj "isinstance"=some none:=congrArg (λr:be=>r.2.1.getD 43 none) h
theorem WT(h:aX prog K N=aY):nsIn N Xj "object"=some none:=congrArg (λr:be=>r.2.1.getD 44 none) h
theorem WU(h:aX prog K N=aY):eU N:=by
 have b:∀i,(aX prog K N).2.2.1.getD i false=aY.2.2.1.getD i false:=λi=>congrArg (λr:be=>r.2.2.1.getD i false) h;have v:∀i,(aX prog K N).2.1.getD i none=aY.2.1.getD i none:=λi=>congrArg (λr:be=>r.2.1.getD i none) h;have t:∀i,(aX prog K N).2.2.2.2.1.2.2.getD i none=aY.2.2.2.2.1.2.2.getD i none:=λi=>congrArg (λr:be=>r.2.2.2.2.1.2.2.getD i none) h;have c:yd N aN=some ([.ref aN,.type "list",.type "object"],true,false,YA "_Accumulator"):=congrArg (λr:be=>r.2.2.2.2.1.2.1) h;have e42:tH N 42=some (.ref aN):=t 0;refine⟨b 0,v 0,v 1,beq_iff_eq.mp (b 2),beq_iff_eq.mp (b 3),b 1,v 2,v 3,v 4,v 5,v 6,v 7,v 8,v 9,v 10,v 11,v 12,v 13,v 14,λf hf=>?_,v 15,?_,t 1,v 16,v 17,v 18,?_⟩
 ·rcases hf with rfl | rfl | rfl | rfl | rfl | rfl | rfl
  ·exact t 2
  ·exact t 3
  ·exact t 4
  ·exact t 5
  ·exact t 6
  ·exact t 7
  ·exact t 8
 ·exact ab c λcd h1 h=>aw (Xv (W9 h)) λa1 h=>aw (Xv h) λa2 h=>aw (Xv h) λa3 a4=>⟨cd,h1,a1,a2,a3,a4⟩
 ·exact Vy e42
theorem Ds(e:Kn K=N){K0:Frag}(h:aX prog K0 N=aY)(hg:∀h:Heap,N.In h->h.Ns Xj mg)(hm:∀x r,nsIn N Xj x=some r->mg x=r)(hs:(prog.main.scope.names.lookup ("super":Str)).isSome=false):gz prog K mg:=by
 have kn:∀h:Heap,aC K h->N.In h:=λh B=>e▸B.kn;have lk:∀{a:Addr}{o:Obj},N.lookup a=some o->K.lookup a=some o/\¬aG a:=λq=>fN (e▸q);have b:∀i,(aX prog K0 N).2.2.1.getD i false=aY.2.2.1.getD i false:=λi=>congrArg (λr:be=>r.2.2.1.getD i false) h;have cu:∀i,(aX prog K0 N).2.2.2.1.getD i none=aY.2.2.2.1.getD i none:=λi=>congrArg (λr:be=>r.2.2.2.1.getD i none) h;have d47:fQ N 47 (.ref 47):=wc (cu 0);have d63:fQ N 63 (.ref 63):=wc (cu 1);have d162:fQ N 162 (.ref 162):=wc (cu 2);have hemp:tF (nsIn N Xj "EMPTYSTRING")=some []:=congrArg (λr:be=>r.2.2.2.2.1.1) h;have hmod:tG N 4=some (.type "module",some Yi):=congrArg (λr:be=>r.2.2.2.2.2.1.2.2.1) h;have hlst:yb N 126=some mH.toList:=congrArg (λr:be=>r.2.2.2.2.2.1.1) h;have hpat:yc N 127=some (.type "re.Pattern",none,.ref 126,0,1):=congrArg (λr:be=>r.2.2.2.2.2.1.2.1) h;have hesc:ye N 136=some (.type "dict",none,0,true,[none,none,some [92,46],some [92,92],some [92,10]]):=congrArg (λr:be=>r.2.2.2.2.2.1.2.2.2) h;have C:gq K mg:=by
  refine⟨λq hq h B=>codeHd_of_K (kn h B) ?_,?_,λh B=>hg h (kn h B)⟩
  ·simp only[cz,Xk,Xw,or_false]at hq;rcases hq with rfl | rfl | rfl | rfl
   ·exact b 4
   ·exact b 5
   ·exact b 6
   ·exact b 7
  ·exact im (Vx hmod) λob h1 q1 q2 q3=>aw (lk h1) λl1 l2=>⟨4,ob,hm _ _ (WM h),by decide,l1,l2,q1,q2,q3⟩
 have bi:∀X:Str,nm X=kA\/nm X=mx\/nm X=iO\/nm X=kB->mg X=none:=by
  intro X hX;rcases hX with q | q | q | q
  ·rw[show X="len" from cF q];exact hm _ _ (WO h)
  ·rw[show X="range" from cF q];exact hm _ _ (WP h)
  ·rw[show X="sum" from cF q];exact hm _ _ (WQ h)
  ·rw[show X="str" from cF q];exact hm _ _ (Dr h)
 have acc:oz prog K mg:=by
  refine⟨by rw[e];exact WU h,by rw[e];exact(dR (VB h) d47).1,by rw[e];exact(dR (dflt:=cA) (VC h) rfl).1,by rw[e];exact(dR (VD h) d63).1,by rw[e];exact(dR (dflt:=cA) (VE h) rfl).1,by rw[e];exact(dR (dflt:=cA) (Dn h) rfl).1,by rw[e];exact(dR (dflt:=cA) (Do h) rfl).1,by rw[e];exact(dR (dflt:=cA) (VF h) rfl).1,by rw[e];exact(dR (dflt:=cA) (Dn h) rfl).2,by rw[e];exact(dR (dflt:=cA) (Do h) rfl).2,?_,C,⟨hs,λh B=>hg h (kn h B),hm _ _ (WN h)⟩,bi⟩;exact al (Vw hemp) λt hx=>⟨t,hm _ _ hx⟩
 have tw:wa K mg:=by
  refine⟨λt ht=>?_,λh' B=>?_⟩
  ·rw[show t=⟨⟨kE⟩⟩ from cF ht];exact hm _ _ (WI h)
  ·have I:=kn h' B;refine⟨ab hpat λo ho z=>ab z λvs hv z=>aw (Xv (W9 z)) λa1 z=>aw (Xv z) λa2 z=>aw (Xv z) λa3 z=>aw (Xv z) λa4 a5=>⟨o,vs,I _ _ ho,a1,a2,bS (P:=λx=>o.data=.fields x) hv,a3,a4,a5⟩,
    ab hlst λo ho z=>ab z λxs hx z=>al (bS (P:=λx=>∃n,o.data=.seq x n) hx) λn e=>⟨o,xs,n,I _ _ ho,e,Array.toList_inj.mp (W9 z)⟩⟩
 have es:vI K mg:=by
  refine⟨hm _ _ (WL h),hm _ _ (WS h),hm _ _ (Dr h),?_⟩;refine ab hesc λo ho z=>ab z λes hd z=>al (bS (P:=λx=>∃p,o.data=.dict x p) hd) λep e=>aw (Xv (W9 z)) λa1 z=>aw (Xv z) λa2 z=>aw (Xv z) λa3 z=>aw (Xv z) λa4 a5=>(dS o es ep ((lk ho).1) (bR a1 a2 (Array.eq_empty_of_size_eq_zero a3)) e (λy hy=>Vz (YP.mp a4 y (Array.mem_toList_iff.mpr hy))) ?_);have g:∀i,(jw.map (n5 es)).getD i none=[none,none,some [92,46],some [92,92],some [92,10]].getD i none:=λi=>congrArg (λl=>List.getD l i none) a5;intro n hn;simp only[jw,Xk,Xw,or_false]at hn;rcases hn with rfl | rfl | rfl | rfl | rfl
  ·exact Dm (g 0)
  ·exact Dm (g 1)
  ·exact wd (g 2)
  ·exact wd (g 3)
  ·exact wd (g 4)
 exact⟨acc,hm _ _ (Wv h),tw,es,⟨hm _ _ (Ww h),VU e h⟩,⟨hm _ _ (Wx h),VX e h⟩,⟨hm _ _ (Wy h),V0 e h⟩,by rw[e];exact(dR (dflt:=cA) (Dp h) rfl).2,⟨hm _ _ (Wz h),V3 e h⟩,⟨hm _ _ (WA h),V6 e h⟩,⟨hm _ _ (WB h),V9 e h⟩,⟨hm _ _ (WC h),Wc e h⟩,⟨hm _ _ (WD h),Wf e h⟩,⟨hm _ _ (WE h),Wi e h⟩,by rw[e];exact(dR (dflt:=cA) (Dq h) rfl).2,
  ⟨hm _ _ (WF h),Wl e h⟩,⟨hm _ _ (WG h),Wo e h⟩,⟨hm _ _ (WH h),Wr e h⟩,Wu e h,by rw[e];exact(dR (VJ h) d162).1,hm _ _ (WJ h),hm _ _ (WR h),hm _ _ (WK h),hm _ _ (WT h)⟩
end
section
open PySem.W.X
theorem Dt{c:aj}{h:Heap}:∀{vs:List W2}{ns:List Int},IntsAre vs ns->aq c h (ns.map AV.int) vs
 | _,_,.nil=>aq.nil
 | _,_,.cons n t r=>aq.cons ⟨t,rfl⟩ (Dt r)
theorem Du{R:WRecords}{cl:Str->Option Addr}{P:Params}{ord:List ZS->List ZS}:∀(ns:List Int)(s:Xd)(r:List W2×Xd),layAllW R cl P ord (ns.map WData.int) s=some r->s.toks<=r.2.toks
 | [],s,r,h=>by
  rw[List.map_nil,layAllW,Option.some.injEq]at h;subst h;exact Xs _
 | n::ns,s,r,h=>by
  rw[YE,layAllW]at h;simp only[layW]at h;split at h
  ·rename_i r' hr;cases h;exact W6 (XH _) (Du ns _ _ hr)
  ·cases h
theorem WV{R:WRecords}{cl:Str->Option Addr}{P:Params}{ord:List ZS->List ZS}{ns:List Int}{s:Xd}{r:List W2×Xd}(h:layAllW R cl P ord [.list (ns.map WData.int)] s=some r):s.toks<=r.2.toks:=by
 simp only[layAllW,layW]at h;split at h
 ·rename_i a ha;split at ha
  ·rename_i b hb;cases ha;cases h;exact Du ns s b hb
  ·cases ha
 ·cases h
theorem WW{K:Frag}{N:Addr}{n:Str}{r:Option W2}(e:nsIn K N n=some r):∃o es p,K.lookup N=some o/\o.data=.dict es p/\r=(es.toList.find? (·.key.isStr n)).map (·.val):=by
 unfold nsIn at e;cases q:K.lookup N with
 | none=>rw[q]at e;exact aT e
 | some o=>
  rw[q]at e;obtain⟨c,d,dt,sl⟩:=o;cases dt with
  | dict es p=>
   refine⟨_,es,p,rfl,rfl,?_⟩;have e2:(match es.toList.find? (·.key.isStr n) with
    | some e=>some (some e.val)
    | none=>if es.toList.any (·.refKey) then none else some none)=some r:=e
   clear e q;cases f:es.toList.find? (·.key.isStr n) with
   | some x=>rw[f]at e2;exact(W9 e2).symm
   | none=>
    rw[f]at e2;replace e2:(if es.toList.any (·.refKey) then none else some none)=some r:=e2;by_cases h:es.toList.any (·.refKey)=true
    ·rw[if_pos h]at e2;exact aT e2
    ·rw[if_neg h]at e2;exact(W9 e2).symm
  | _=>exact aT e
theorem Dv{K:Frag}{h:Heap}{N:Addr}{mg:Str->Option W2}{n:Str}{r:Option W2}(X:K.In h)(G:h.Ns N mg)(e:nsIn K N n=some r):mg n=r:=by
 refine fc G λo es ep ho hd zz hf=>fJ (WW e) λo2 es2 p2 h1 h2 h3=>?_;cases (X _ _ h1).symm.trans ho;cases h2.symm.trans hd;rw[<-hf,h3];unfold nsFind findBy;exact congrArg _ Array.find?_toList.symm
theorem WX{P:Params}{h:Heap}{la:Addr}{vs:List W2}{xs:List WData}(hL:h.IsList la vs.toArray)(w:Well P h (.ref la) (.list xs)):h.get? la=some {cls:=.type "list",data:=.seq vs.toArray}:=by
 refine lr hL λo e1 e2 n e3=>?_;cases w with
 | list q _=>
  rw[q]at e1;cases e1;cases e3;exact q
theorem WY{s₀ s₁:Xd}{mg:Str->Option W2}{a:Addr}(k:∀b o,s₀.heap.get? b=some o->s₁.heap.get? b=some o)(g:s₁.heap.Ns Xj mg)(e:nsIn (Kn (em s₀.heap)) Xj "law"=some (some (.ref 220)))(hm:mg "law"=some (.ref a)):a=220:=by
 have hIn:(Kn (em s₀.heap)).In s₁.heap:=λb o q=>by
  have:=(fN q).1;rw[Dl]at this;split at this
  ·exact k _ _ this
  ·cases this
 rw[Dv hIn g e]at hm;cases hm;rfl
theorem WZ:az 9 callerA:=(bR rfl (by decide +kernel) (by decide +kernel))
theorem W0{prog:Y3}{w:aal}{s₀ s₁:Xd}{mg mb:Str->Option W2}{loose:List Str}{mean:ExcName->Option W2}{q:Y3}(T:Top q loose mean mg mb s₁.heap)(hV:aX prog (em s₀.heap) (Kn (em s₀.heap))=aY)(ht:1<=s₁.toks)(k:∀b o,s₀.heap.get? b=some o->s₁.heap.get? b=some o)
  (hs:(prog.main.scope.names.lookup ("super":Str)).isSome=false){la:Addr}{vs:List W2}{ns:List Int}(hl:s₁.heap.get? la=some {cls:=.type "list",data:=.seq vs.toArray})(hi:IntsAre vs ns)(hn:ns.length<=63) :
  Xf (Xe prog w) callerA (call (.ref 220) [.ref la]) (λv s'=>v=.bool true/\OldK s₁.heap s'.heap/\s'.os=s₁.os/\(AllBare s₁.gens->AllBare s'.gens)) nr s₁:=by
 have hlk:∀{a:Addr}{o:Obj},(em s₀.heap).lookup a=some o->a<221/\s₀.heap.get? a=some o:=λ{a o} e=>by
  rw[Dl]at e;split at e
  ·exact⟨by assumption,e⟩
  ·cases e
 have hIn:(Kn (em s₀.heap)).In s₁.heap:=λa o e=>k a o (hlk (fN e).1).2;have hm:∀x r,nsIn (Kn (em s₀.heap)) Xj x=some r->mg x=r:=λx r e=>Dv hIn T.g e;have hg:∀h:Heap,(Kn (em s₀.heap)).In h->h.Ns Xj mg:=λh I=>by
  have hgl:tJ (Kn (em s₀.heap))=true:=congrArg (λr:be=>r.2.2.1.getD 8 false) hV;exact dd (VA hgl) λo es ep hq _=>dd T.g λo' es' ep' g1 g2=>(lA o es' ep' (I _ _ hq) ((fS (hIn _ _ hq) g1).symm▸g2))
 have F:gz prog (em s₀.heap) mg:=Ds rfl hV hg hm hs;have F':gz prog (Kn (em s₀.heap)) mg:=Ds (vZ _) hV hg hm hs;have tb:∀i,(aX prog (em s₀.heap) (Kn (em s₀.heap))).2.2.2.2.2.2.getD i none=aY.2.2.2.2.2.2.getD i none:=λi=>congrArg (λr:be=>r.2.2.2.2.2.2.getD i none) hV;have t80:(em s₀.heap).lookup 80=some (tabObj #[]):=tb 0;have t87:(em s₀.heap).lookup 87=some (tabObj #[]):=tb 1;have t148:(em s₀.heap).lookup 148=some (tabObj #[]):=tb 2;have t193:(em s₀.heap).lookup 193=some (tabObj #[]):=tb 3;have tabAt:∀q∈cz,s₁.heap.get? q.2=some (tabObj #[]):=λq hq=>by
  simp only[cz,Xk,Xw,or_false]at hq;rcases hq with rfl | rfl | rfl | rfl
  ·exact k _ _ (hlk t80).2
  ·exact k _ _ (hlk t87).2
  ·exact k _ _ (hlk t148).2
  ·exact k _ _ (hlk t193).2
 refine io F.law λol fl l1 l2 l3 zz=>?_;have B:aC (em s₀.heap) s₁.heap:=⟨λa o e _=>k a o (hlk e).2,(ah mb T.b T.builtins),λq hq=>(dH (#[]) (tabAt q hq) trivial (λpos cv h=>(nomatch h)) (λ_ _=>rfl)),⟨ol,k _ _ (hlk l1).2⟩,λa o e=>(hlk e).1,T.nolimit⟩
 let c:aj:=⟨λ_=>.ref la,λ_=>False,[],0,[],λ_=>False⟩
 have C:bW c s₁.heap:=⟨λ_ h=>(nomatch h),List.nodup_nil,λ_ h=>(nomatch h),λ_ h=>h.elim,λ_=>⟨_,rfl⟩⟩;have hlen:vs.length=ns.length:=by
  clear hl hn;induction hi with
  | nil=>rfl
  | cons n t r ih=>rw[W5,W5,ih]
 have hr:aq c s₁.heap [.lst (ns.map AV.int)] [.ref la]:=aq.cons (dS la vs 0 rfl (λh=>h) hl (by rw[W7];exact W6 hn (by show 63<=4096;omega)) (Dt hi)) aq.nil;refine KE (Vv F F' (by rw[t193];simp) ns B C hr ht WZ) (λv s' q=>?_) no;refine da q λzr0 X B'=>?_;subst zr0;refine(iJ rfl ⟨λb o e=>?_,X.live⟩ X.os X.gens);by_cases hb:aG b
 ·obtain⟨q,hq,rfl⟩:∃q∈cz,q.2=b:=by rcases hb with rfl | rfl | rfl | rfl<;>simp[cz]
  have e2:=tabAt q hq;rw[e]at e2;cases e2;exact af (B'.tab q hq) λps e' zz=>.inr (.inl ⟨((F.acc.code.heads q hq _ B).tab (tabAt q hq)).isCodeTable,rfl,#[],ps,rfl,by rw[e'];simp⟩)
 ·exact .inl (X.keep b o e hb)
end
section
open PySem.W.X
theorem head:PySem.Challenge.rw_in0055_01.Holds:=by
 refine holds_law Iq λsd=>?_;refine holds_openX (q:=vw) (loose:=loose) (Xt:=λs=>xlAt vw [] s&&recOk [] s) (XP:=PySem.W.XL vw []) (Yf:=tL) (Ya:=λ_=>tM) (N:=4904) tQ (λs e=>xl_of s (W8.mp e).1) PySem.W.XL.keeps (by rfl) (by rfl) (by rfl) (λs e=>recFacts_of (W8.mp e).2) (by first | rfl | fail "open_line: no head takes a call that writes beside a table") sd (by decide +kernel) ⟨rfl,rfl,rfl,rfl,rfl,by decide +kernel⟩ ?hw ?hc
 case hw=>w_witness2
 case hc=>
  intro w s₀ s₁ mg mb G hY a o pm cd doc dV kV ho hd hcr hdf hma hgens args vals as L hpre hlay hreads hwell hlow
  wrow_args hpre hlay hreads hwell hlow
  rename_i ns _ _ _ _ _ as1 as2 la vs as0 hL ra w1 r0 hI hr hn _;have e0:=congrArg Prod.fst hY;have e1:=congrArg (λx=>x.2.1) hY;have e2:=congrArg (λx=>x.2.2) hY;have eW:ofPy (PyData.list (ns.map PyData.int))=.list (ns.map WData.int):=by rw[ofPy,ofPys_eq,YV];rfl
  have hl:s₁.heap.get? la=some {cls:=.type "list",data:=.seq vs.toArray}:=WX hL (eW▸w1);have ha:a=220:=WY L.keeps G.T.g e1 hma;subst ha;have ht:1<=s₁.toks:=by
   obtain⟨ord,_,hq⟩:=L.laid;rw[eW]at hq;exact W6 (Xn e2) (WV hq)
  refine KE (W0 (prog:=pw) G.T e0 ht L.keeps (by rfl') hl hI (by omega)) (λv s' q=>?_) no;obtain⟨rfl,q1,q2,q3⟩:=q;exact⟨.inl ⟨.bool true,.bool true,[],rfl,λ_=>rfl,.bool true,(by rfl'),λ_=>⟨List.nodup_nil,λ_ h=>nomatch h⟩⟩,q1,q2,q3 (.of_eq hgens)⟩
end
end Mine.Internal
theorem PySem.Challenge.cw_in0055_01_holds : PySem.Challenge.rw_in0055_01.Holds :=
Mine.Internal.head
